import JvmDerived
import JvmDerived.Pilot.@@N@@Statement
import JvmDerived.Pilot.@@N@@Code
set_option linter.unusedVariables false
set_option linter.unusedSimpArgs false
namespace Jvm.RoadKit
open Sem ClassFile Op Lib Jvm.Stand Jvm.Free Jvm.LawKit
section New
variable {p : Program} {l : Launch} {e : Env} {R : Room} {s : State} {m : MethodId} {args : Array Value} {below : List Frame} {meth : Method} {c : Code} {T : State} {locs : List Loc} {cells slots : Nat}
theorem retI (X : Stand p l e R s m args below meth c T locs cells slots) (hx : p.tables.exec = Jvm.exec) {pc : Nat} {Ls : Array Slot} {z : Int32} {rest : List Value} (hret : meth.sig.returnType = some .int) (hd : decode c.code pc = .ok (.ireturn, 1)) {fs : List Frame}
    (hl : ∀ (f : JFrame) (acts : List Action), f.method = m → f.locked = none → f.entered = [] → (doReturn e (T.setTop f) acts (some (.int z))).1 = T.setFrames fs) : Steps p.tables e below (T.setTop (mkF m pc Ls (.int z :: rest))) (T.setFrames fs) := by
  have hm' : T.vm.method? m = some meth := X.method'
  have hn : narrow .int (.int z) = .int z := rfl
  show Steps p.tables e below (T.setTop { method := m, pc := pc, locals := Ls, stack := _ :: rest, locked := none }) _
  jvm_step X.here [X.here.top, hx, hd, hm', hret, hn]
  first | (intro acts; rw [hl _ acts rfl rfl rfl]) | rw [hl _ _ rfl rfl rfl]
  exact Steps.refl _
end New
end Jvm.RoadKit
namespace Jvm.Pilot.@@N@@
open Jvm Jvm.ClassFile Sem Op Lib Jvm.Free Jvm.Stand Jvm.LawKit Jvm.RoadKit Bundle Jvm.Pilot.@@N@@.Jvm.D
/-- what the return with the value v leads to -/
def own_RetTo (e : Env) (T : State) (m : MethodId) (v : Option Value) (fs : List Frame) : Prop := ∀ (f : JFrame) (acts : List Action), f.method = m → f.locked = none → f.entered = [] → (doReturn e (T.setTop f) acts v).1 = T.setFrames fs
def f1_0 (i0 : Int32) (i1 : Int32) : Int32 := (if i0 < i1 then i1 else i0)
theorem d1_0 : decode jdk_29_method_65_code 0 = .ok (.iload_n 0, 1) := by decide +kernel
theorem d1_1 : decode jdk_29_method_65_code 1 = .ok (.iload_n 1, 1) := by decide +kernel
theorem d1_2 : decode jdk_29_method_65_code 2 = .ok (.if_icmp .lt 7, 3) := by decide +kernel
theorem d1_5 : decode jdk_29_method_65_code 5 = .ok (.iload_n 0, 1) := by decide +kernel
theorem d1_6 : decode jdk_29_method_65_code 6 = .ok (.goto 4, 3) := by decide +kernel
theorem d1_9 : decode jdk_29_method_65_code 9 = .ok (.iload_n 1, 1) := by decide +kernel
theorem d1_10 : decode jdk_29_method_65_code 10 = .ok (.ireturn, 1) := by decide +kernel
theorem ef_1 (m : MethodId) (x0 : Int32) (x1 : Int32) : entryFrame m #[(.int x0), (.int x1)] 2 = mkF m 0 #[.val (.int x0), .val (.int x1)] [] := by first | (simp [entryFrame, mkF, argsToLocals, Value.category]; done) | rfl
def Q1 (Z : State) (i0 : Int32) (i1 : Int32) (h0 : Heap) (n0 : Nat) (v : Option Value) (h : Heap) (L : List Loc) : Prop := v = some (.int (f1_0 i0 i1)) ∧ Fr n0 L ∧ h = h0
set_option maxRecDepth 65536 in
set_option maxHeartbeats 40000000 in
theorem rm1 (l : Launch) (Z : State) (a0 : Array Value) (hw : ∀ d ∈ tables_1, d.before a0 Z = true) (ws : List Jvm.Cond) (i0 : Int32) (i1 : Int32) (h0 : Heap) (n0 : Nat) :
    MetFree l (⟨"java/lang/Math", "max", "(II)I"⟩ : MethodName) (head1 (Jvm.Cond.code (⟨"java/lang/Math", "max", "(II)I"⟩ : MethodName) jdk_29_method_65_code 2 (some .int) :: ws) ({ frames := 0, cells := 0, slots := 0, locals := 0 } : Room)) (fun a U => a = #[(.int i0), (.int i1)] ∧ Z.Warmed39 U.vm ∧ U.heap = h0) (fun _ _ _ _ _ => True) (fun _ U o U' => ∃ v L, o = .returned v ∧ Q1 Z i0 i1 h0 n0 v U'.heap L ∧ FrameEnd U o U' L ({ frames := 0, cells := 0, slots := 0, locals := 0 } : Room).cells ({ frames := 0, cells := 0, slots := 0, locals := 0 } : Room).slots) := by
  refine MetFree.of_bodySF (Jvm.Free.JP.mathPlain rfl (by decide +kernel)) hisR ?_
  intro p e s m args below meth c s₁ Bd hml0 hP hK
  obtain ⟨rfl, hZ, hh⟩ := hP
  have hx := Bd.exec
  have hby := Bd.bytes
  have hml : c.maxLocals = 2 := hml0
  have hown : s.vm.findClass "java/lang/Math" = some m.cls := findClass_of_methodNamed Bd.named
  have hnm := (name_of_methodNamed Bd.named Bd.method).1
  have X0 : Stand p l e ({ frames := 0, cells := 0, slots := 0, locals := 0 } : Room) s m #[(.int i0), (.int i1)] below meth c s₁ [] 0 0 := Stand.of_body Bd
  have e0 : s₁.heap = h0 := by rw [← hh, Bd.state]; rfl
  have N0 := Fr.nil n0
  have pre0 : ∀ t, Steps p.tables e below (s₁.setTop (mkF m 0 #[.val (.int i0), .val (.int i1)] [])) t → Steps p.tables e below (s₁.setTop (entryFrame m #[(.int i0), (.int i1)] 2)) t := fun t k => castTop (ef_1 m i0 i1) k
  have sg0 : ∀ {fs : List Frame}, own_RetTo e s₁ m (some (.int (f1_0 i0 i1))) fs → Steps p.tables e below (s₁.setTop (mkF m 0 #[.val (.int i0), .val (.int i1)] [])) (s₁.setFrames fs) := by
    intro fs hr
    show Steps p.tables e below (s₁.setTop (mkF m 0 #[.val (.int i0), .val (.int i1)] [])) _
    refine XS.iloadN X0.here hx rfl (hb hby d1_0) rfl ?_
    show Steps p.tables e below (s₁.setTop (mkF m 1 #[.val (.int i0), .val (.int i1)] [(.int i0)])) _
    refine XS.iloadN X0.here hx rfl (hb hby d1_1) rfl ?_
    show Steps p.tables e below (s₁.setTop (mkF m 2 #[.val (.int i0), .val (.int i1)] [(.int i1), (.int i0)])) _
    by_cases hc2 : i0 < i1
    · refine XS.icmpYes X0.here hx rfl (pc0 := 2) (pc' := 9) rfl (hb hby d1_2) rfl (tlt hc2).1 (by decide) (by decide) ?_
      show Steps p.tables e below (s₁.setTop (mkF m 9 #[.val (.int i0), .val (.int i1)] [])) _
      refine XS.iloadN X0.here hx rfl (hb hby d1_9) rfl ?_
      have hv : f1_0 i0 i1 = i1 := by unfold f1_0; rw [if_pos hc2]
      rw [hv] at hr
      show Steps p.tables e below (s₁.setTop (mkF m 10 #[.val (.int i0), .val (.int i1)] [(.int i1)])) _
      exact retI X0 hx Bd.returns (hb hby d1_10) hr
    · refine XS.icmpNo X0.here hx rfl (hb hby d1_2) rfl (flt hc2).1 ?_
      show Steps p.tables e below (s₁.setTop (mkF m 5 #[.val (.int i0), .val (.int i1)] [])) _
      refine XS.iloadN X0.here hx rfl (hb hby d1_5) rfl ?_
      show Steps p.tables e below (s₁.setTop (mkF m 6 #[.val (.int i0), .val (.int i1)] [(.int i0)])) _
      refine XS.goto X0.here hx rfl (pc0 := 6) (pc' := 10) rfl (hb hby d1_6) (by decide) (by decide) ?_
      have hv : f1_0 i0 i1 = i0 := by unfold f1_0; rw [if_neg hc2]
      rw [hv] at hr
      show Steps p.tables e below (s₁.setTop (mkF m 10 #[.val (.int i0), .val (.int i1)] [(.int i0)])) _
      exact retI X0 hx Bd.returns (hb hby d1_10) hr
  obtain ⟨fs, hr, hrun, hended, hW, hsame⟩ := X0.leave (v := some (.int (f1_0 i0 i1))) (fun h => by rw [Bd.returns] at h; cases h)
  refine ⟨_, _, pre0 _ ?_, hrun, hended, _, _, rfl, ?_, ⟨_, rfl⟩, hW, hsame.mono (by decide) (by decide)⟩
  · show Steps p.tables e below (s₁.setTop (mkF m 0 #[.val (.int i0), .val (.int i1)] [])) _
    exact sg0 hr
  · show Q1 Z i0 i1 h0 n0 _ s₁.heap _
    rw [e0]
    exact ⟨rfl, N0, rfl⟩
theorem pd_0 : parseMethodDescriptor "(II)I" = some ⟨[.int, .int], some .int⟩ := by decide +kernel
theorem d2_0 : decode method_2_code 0 = .ok (.iconst 1, 1) := by decide +kernel
theorem d2_1 : decode method_2_code 1 = .ok (.iload_n 0, 1) := by decide +kernel
theorem d2_2 : decode method_2_code 2 = .ok (.ldc 7, 2) := by decide +kernel
theorem d2_4 : decode method_2_code 4 = .ok (.iand, 1) := by decide +kernel
theorem d2_5 : decode method_2_code 5 = .ok (.invokestatic 8, 3) := by decide +kernel
theorem d2_8 : decode method_2_code 8 = .ok (.ireturn, 1) := by decide +kernel
theorem pn_0 : plainName "com/example/mintage/mintage/finding/PositionHashCodePinLaw" = true := by first | (simp [plainName, overriddenIn]; done) | decide +kernel
theorem ef_2 (m : MethodId) (x0 : Int32) : entryFrame m #[(.int x0)] 1 = mkF m 0 #[.val (.int x0)] [] := by first | (simp [entryFrame, mkF, argsToLocals, Value.category]; done) | rfl
def Q2 (Z : State) (i0 : Int32) (h0 : Heap) (n0 : Nat) (v : Option Value) (h : Heap) (L : List Loc) : Prop := v = some (.int (f1_0 (1 : Int32) (i0 &&& (2147483647 : Int32)))) ∧ Fr n0 L ∧ h = h0
set_option maxRecDepth 65536 in
set_option maxHeartbeats 40000000 in
theorem rm2 (l : Launch) (Z : State) (a0 : Array Value) (hw : ∀ d ∈ tables_1, d.before a0 Z = true) (ws : List Jvm.Cond) (i0 : Int32) (h0 : Heap) (n0 : Nat) :
    MetFree l (⟨"com/example/mintage/mintage/finding/PositionHashCodePinLaw", "positive", "(I)I"⟩ : MethodName) (head1 (Jvm.Cond.code (⟨"com/example/mintage/mintage/finding/PositionHashCodePinLaw", "positive", "(I)I"⟩ : MethodName) method_2_code 1 (some .int) :: ws) ({ frames := 1, cells := 0, slots := 0, locals := 13 } : Room)) (fun a U => a = #[(.int i0)] ∧ Z.Warmed39 U.vm ∧ U.heap = h0) (fun _ _ _ _ _ => True) (fun _ U o U' => ∃ v L, o = .returned v ∧ Q2 Z i0 h0 n0 v U'.heap L ∧ FrameEnd U o U' L ({ frames := 1, cells := 0, slots := 0, locals := 13 } : Room).cells ({ frames := 1, cells := 0, slots := 0, locals := 13 } : Room).slots) := by
  refine MetFree.of_bodySF (plainFor_of_name pn_0) hisR ?_
  intro p e s m args below meth c s₁ Bd hml0 hP hK
  obtain ⟨rfl, hZ, hh⟩ := hP
  have hx := Bd.exec
  have hby := Bd.bytes
  have hml : c.maxLocals = 1 := hml0
  have hown : s.vm.findClass "com/example/mintage/mintage/finding/PositionHashCodePinLaw" = some m.cls := findClass_of_methodNamed Bd.named
  have hnm := (name_of_methodNamed Bd.named Bd.method).1
  have X0 : Stand p l e ({ frames := 1, cells := 0, slots := 0, locals := 13 } : Room) s m #[(.int i0)] below meth c s₁ [] 0 0 := Stand.of_body Bd
  have e0 : s₁.heap = h0 := by rw [← hh, Bd.state]; rfl
  have N0 := Fr.nil n0
  have pre0 : ∀ t, Steps p.tables e below (s₁.setTop (mkF m 0 #[.val (.int i0)] [])) t → Steps p.tables e below (s₁.setTop (entryFrame m #[(.int i0)] 1)) t := fun t k => castTop (ef_2 m i0) k
  obtain ⟨_, _, ⟨T1, L1, k1, n1⟩, -, X1, ⟨Lc1, hQ1, l1, y1, z1⟩, st1⟩ := Jvm.LawKit.callS X0 hx (y := (⟨"java/lang/Math", "max", "(II)I"⟩ : MethodName)) hown (mvT hZ (hw _ (List.mem_of_getElem? (i := 5) rfl))) (mvT hZ (hw _ (List.mem_of_getElem? (i := 6) rfl))) (mvT hZ (hw _ (List.mem_of_getElem? (i := 7) rfl))) (mvT hZ (hw _ (List.mem_of_getElem? (i := 8) rfl))) (by decide) (backOf (W := 0) (rm1 l Z a0 hw [] (1 : Int32) (i0 &&& (2147483647 : Int32)) h0 n0) hZ (hw _ (List.mem_of_getElem? (i := 8) rfl)) (hw _ (List.mem_of_getElem? (i := 7) rfl)) (by decide) (by decide)) (g := (mkF m 5 #[.val (.int i0)] [(.int (i0 &&& (2147483647 : Int32))), (.int (1 : Int32))])) rfl (by rw [hml]; rfl) (argsL := [(.int (1 : Int32)), (.int (i0 &&& (2147483647 : Int32)))]) (rest := []) (lenOf pd_0 rfl) rfl (by show 2 * 0 + _ ≤ _; exact Nat.le_of_eq rfl) (hb hby d2_5) (fun _ _ => ⟨rfl, e0, (by decide : 0 + 0 ≤ _), (by decide : 0 + 0 ≤ _)⟩)
  dsimp only [Pt.U, Pt.locs, Pt.cells, Pt.slots] at X1 l1 y1 z1 st1 hQ1
  subst l1 y1 z1
  obtain ⟨rfl, N1q, e1q⟩ := hQ1
  have N1 := Fr.app N0 N1q
  obtain ⟨fs, hr, hrun, hended, hW, hsame⟩ := X1.leave (v := some (.int (f1_0 (1 : Int32) (i0 &&& (2147483647 : Int32))))) (fun h => by rw [Bd.returns] at h; cases h)
  refine ⟨_, _, pre0 _ ?_, hrun, hended, _, _, rfl, ?_, ⟨_, rfl⟩, hW, hsame.mono (by decide) (by decide)⟩
  · show Steps p.tables e below (s₁.setTop (mkF m 0 #[.val (.int i0)] [])) _
    refine XS.iconst X0.here hx rfl (hb hby d2_0) ?_
    show Steps p.tables e below (s₁.setTop (mkF m 1 #[.val (.int i0)] [(.int (1 : Int32))])) _
    refine XS.iloadN X0.here hx rfl (hb hby d2_1) rfl ?_
    show Steps p.tables e below (s₁.setTop (mkF m 2 #[.val (.int i0)] [(.int i0), (.int (1 : Int32))])) _
    refine X0.ldcInt hx hown (mvT hZ (hw _ (List.mem_of_getElem? (i := 4) rfl))) (g := (mkF m 2 #[.val (.int i0)] [(.int i0), (.int (1 : Int32))])) rfl (hb hby d2_2) _ ?_
    show Steps p.tables e below (s₁.setTop (mkF m 4 #[.val (.int i0)] [(.int (2147483647 : Int32)), (.int i0), (.int (1 : Int32))])) _
    refine XS.iand X0.here hx rfl (hb hby d2_4) rfl ?_
    show Steps p.tables e below (s₁.setTop (mkF m 5 #[.val (.int i0)] [(.int (i0 &&& (2147483647 : Int32))), (.int (1 : Int32))])) _
    refine st1 _ ?_
    show Steps p.tables e below (T1.setTop (mkF m 8 #[.val (.int i0)] [(.int (f1_0 (1 : Int32) (i0 &&& (2147483647 : Int32))))])) _
    exact retI X1 hx Bd.returns (hb hby d2_8) hr
  · show Q2 Z i0 h0 n0 _ T1.heap _
    rw [e1q]
    exact ⟨rfl, N1, rfl⟩
theorem d3_0 : decode prog_4_method_1_code 0 = .ok (.aload_n 0, 1) := by decide +kernel
theorem d3_1 : decode prog_4_method_1_code 1 = .ok (.invokespecial 1, 3) := by decide +kernel
theorem d3_4 : decode prog_4_method_1_code 4 = .ok (.iload_n 1, 1) := by decide +kernel
theorem d3_5 : decode prog_4_method_1_code 5 = .ok (.iconst 1, 1) := by decide +kernel
theorem d3_6 : decode prog_4_method_1_code 6 = .ok (.if_icmp .lt 8, 3) := by decide +kernel
theorem d3_9 : decode prog_4_method_1_code 9 = .ok (.iload_n 2, 1) := by decide +kernel
theorem d3_10 : decode prog_4_method_1_code 10 = .ok (.iconst 1, 1) := by decide +kernel
theorem d3_11 : decode prog_4_method_1_code 11 = .ok (.if_icmp .ge 18, 3) := by decide +kernel
theorem d3_29 : decode prog_4_method_1_code 29 = .ok (.aload_n 0, 1) := by decide +kernel
theorem d3_30 : decode prog_4_method_1_code 30 = .ok (.iload_n 1, 1) := by decide +kernel
theorem d3_31 : decode prog_4_method_1_code 31 = .ok (.putfield 16, 3) := by decide +kernel
theorem d3_34 : decode prog_4_method_1_code 34 = .ok (.aload_n 0, 1) := by decide +kernel
theorem d3_35 : decode prog_4_method_1_code 35 = .ok (.iload_n 2, 1) := by decide +kernel
theorem d3_36 : decode prog_4_method_1_code 36 = .ok (.putfield 22, 3) := by decide +kernel
theorem d3_39 : decode prog_4_method_1_code 39 = .ok (.return_, 1) := by decide +kernel
theorem pn_1 : plainName "com/example/mintage/mintage/finding/Position" = true := by first | (simp [plainName, overriddenIn]; done) | decide +kernel
theorem ef_3 (m : MethodId) (x0 : Addr) (x1 : Int32) (x2 : Int32) : entryFrame m #[(.ref x0), (.int x1), (.int x2)] 3 = mkF m 0 #[.val (.ref x0), .val (.int x1), .val (.int x2)] [] := by first | (simp [entryFrame, mkF, argsToLocals, Value.category]; done) | rfl
def Q3 (Z : State) (o0 : Addr) (i1 : Int32) (i2 : Int32) (h0 : Heap) (n0 : Nat) (v : Option Value) (h : Heap) (L : List Loc) : Prop := v = none ∧ Fr n0 L ∧ Keep h0 h [o0] ∧ Exa Z h o0 "com/example/mintage/mintage/finding/Position" ∧ Fld Z h o0 "com/example/mintage/mintage/finding/Position" "line" "I" (.int i1) ∧ Fld Z h o0 "com/example/mintage/mintage/finding/Position" "column" "I" (.int i2)
set_option maxRecDepth 65536 in
set_option maxHeartbeats 40000000 in
theorem rm3 (l : Launch) (Z : State) (a0 : Array Value) (hw : ∀ d ∈ tables_1, d.before a0 Z = true) (ws : List Jvm.Cond) (o0 : Addr) (i1 : Int32) (i2 : Int32) (h0 : Heap) (n0 : Nat) (F_line : Fld Z h0 o0 "com/example/mintage/mintage/finding/Position" "line" "I" (.int (0 : Int32))) (F_column : Fld Z h0 o0 "com/example/mintage/mintage/finding/Position" "column" "I" (.int (0 : Int32))) (E1 : Exa Z h0 o0 "com/example/mintage/mintage/finding/Position") (g_o0 : n0 ≤ o0) (hp1 : ¬ i1 < (1 : Int32)) (hp2 : ¬ i2 < (1 : Int32)) :
    MetFree l (⟨"com/example/mintage/mintage/finding/Position", "<init>", "(II)V"⟩ : MethodName) (head1 (Jvm.Cond.code (⟨"com/example/mintage/mintage/finding/Position", "<init>", "(II)V"⟩ : MethodName) prog_4_method_1_code 3 none :: ws) ({ frames := 1, cells := 0, slots := 0, locals := 12 } : Room)) (fun a U => a = #[(.ref o0), (.int i1), (.int i2)] ∧ Z.Warmed39 U.vm ∧ U.heap = h0) (fun _ _ _ _ _ => True) (fun _ U o U' => ∃ v L, o = .returned v ∧ Q3 Z o0 i1 i2 h0 n0 v U'.heap L ∧ FrameEnd U o U' L ({ frames := 1, cells := 0, slots := 0, locals := 12 } : Room).cells ({ frames := 1, cells := 0, slots := 0, locals := 12 } : Room).slots) := by
  refine MetFree.of_bodySF (plainFor_of_name pn_1) hisR ?_
  intro p e s m args below meth c s₁ Bd hml0 hP hK
  obtain ⟨rfl, hZ, hh⟩ := hP
  have hx := Bd.exec
  have hby := Bd.bytes
  have hml : c.maxLocals = 3 := hml0
  have hown : s.vm.findClass "com/example/mintage/mintage/finding/Position" = some m.cls := findClass_of_methodNamed Bd.named
  have hnm := (name_of_methodNamed Bd.named Bd.method).1
  have X0 : Stand p l e ({ frames := 1, cells := 0, slots := 0, locals := 12 } : Room) s m #[(.ref o0), (.int i1), (.int i2)] below meth c s₁ [] 0 0 := Stand.of_body Bd
  have e0 : s₁.heap = h0 := by rw [← hh, Bd.state]; rfl
  have N0 := Fr.nil n0
  have pre0 : ∀ t, Steps p.tables e below (s₁.setTop (mkF m 0 #[.val (.ref o0), .val (.int i1), .val (.int i2)] [])) t → Steps p.tables e below (s₁.setTop (entryFrame m #[(.ref o0), (.int i1), (.int i2)] 3)) t := fun t k => castTop (ef_3 m o0 i1 i2) k
  obtain ⟨T1, X1, e1, st1⟩ := initO X0 hx hZ hown (hw _ (List.mem_of_getElem? (i := 15) rfl)) (hw _ (List.mem_of_getElem? (i := 16) rfl)) (hw _ (List.mem_of_getElem? (i := 17) rfl)) e0 (g := (mkF m 1 #[.val (.ref o0), .val (.int i1), .val (.int i2)] [(.ref o0)])) rfl (by rw [hml]; rfl) rfl (hb hby d3_1) (by decide) (W := 0) (by show 2 * 0 + _ ≤ _; exact Nat.le_of_eq rfl) (by decide)
  obtain ⟨T2, h2, X2, e2, W2, st2⟩ := putF X1 hx hZ hown (host := "") (Or.inl (hw _ (List.mem_of_getElem? (i := 18) rfl))) Via.refl e1 F_line E1 (Or.inr ⟨(hw _ (List.mem_of_getElem? (i := 19) rfl)), rfl, hnm⟩) (hw _ (List.mem_of_getElem? (i := 10) rfl)) (ty := .int) (by decide) rfl rfl (g := (mkF m 31 #[.val (.ref o0), .val (.int i1), .val (.int i2)] [(.int i1), (.ref o0)])) rfl rfl (hb hby d3_31)
  have N2f := Fr.snoc X2 N0 g_o0
  have F_line2 := F_line.same W2
  have F_column2 := F_column.other W2 (Or.inr (Jvm.RoadKit.slot_ne (Or.inr (hw _ (List.mem_of_getElem? (i := 21) rfl))) (Or.inr (hw _ (List.mem_of_getElem? (i := 19) rfl))) (by decide) (t := .int) (t' := .int) (by decide) (by decide)))
  have E_2 := E1.wr W2
  have K_2 : Keep h0 h2 [o0] := (Keep.refl h0 [o0]).wr W2 (Or.inl (List.mem_of_getElem? (i := 0) rfl))
  obtain ⟨T3, h3, X3, e3, W3, st3⟩ := putF X2 hx hZ hown (host := "") (Or.inl (hw _ (List.mem_of_getElem? (i := 20) rfl))) Via.refl e2 F_column2 E_2 (Or.inr ⟨(hw _ (List.mem_of_getElem? (i := 21) rfl)), rfl, hnm⟩) (hw _ (List.mem_of_getElem? (i := 10) rfl)) (ty := .int) (by decide) rfl rfl (g := (mkF m 36 #[.val (.ref o0), .val (.int i1), .val (.int i2)] [(.int i2), (.ref o0)])) rfl rfl (hb hby d3_36)
  have N3f := Fr.snoc X3 N2f g_o0
  have F_line3 := F_line2.other W3 (Or.inr (Jvm.RoadKit.slot_ne (Or.inr (hw _ (List.mem_of_getElem? (i := 19) rfl))) (Or.inr (hw _ (List.mem_of_getElem? (i := 21) rfl))) (by decide) (t := .int) (t' := .int) (by decide) (by decide)))
  have F_column3 := F_column2.same W3
  have E_3 := E_2.wr W3
  have K_3 : Keep h0 h3 [o0] := K_2.wr W3 (Or.inl (List.mem_of_getElem? (i := 0) rfl))
  obtain ⟨fs, hr, hrun, hended, hW, hsame⟩ := X3.leave (v := none) (fun _ => rfl)
  refine ⟨_, _, pre0 _ ?_, hrun, hended, _, _, rfl, ?_, ⟨_, rfl⟩, hW, hsame.mono (by decide) (by decide)⟩
  · show Steps p.tables e below (s₁.setTop (mkF m 0 #[.val (.ref o0), .val (.int i1), .val (.int i2)] [])) _
    refine XS.aloadN X0.here hx rfl (hb hby d3_0) rfl rfl ?_
    show Steps p.tables e below (s₁.setTop (mkF m 1 #[.val (.ref o0), .val (.int i1), .val (.int i2)] [(.ref o0)])) _
    refine st1 _ ?_
    show Steps p.tables e below (T1.setTop (mkF m 4 #[.val (.ref o0), .val (.int i1), .val (.int i2)] [])) _
    refine XS.iloadN X1.here hx rfl (hb hby d3_4) rfl ?_
    show Steps p.tables e below (T1.setTop (mkF m 5 #[.val (.ref o0), .val (.int i1), .val (.int i2)] [(.int i1)])) _
    refine XS.iconst X1.here hx rfl (hb hby d3_5) ?_
    show Steps p.tables e below (T1.setTop (mkF m 6 #[.val (.ref o0), .val (.int i1), .val (.int i2)] [(.int (1 : Int32)), (.int i1)])) _
    refine XS.icmpNo X1.here hx rfl (hb hby d3_6) rfl (flt hp1).1 ?_
    show Steps p.tables e below (T1.setTop (mkF m 9 #[.val (.ref o0), .val (.int i1), .val (.int i2)] [])) _
    refine XS.iloadN X1.here hx rfl (hb hby d3_9) rfl ?_
    show Steps p.tables e below (T1.setTop (mkF m 10 #[.val (.ref o0), .val (.int i1), .val (.int i2)] [(.int i2)])) _
    refine XS.iconst X1.here hx rfl (hb hby d3_10) ?_
    show Steps p.tables e below (T1.setTop (mkF m 11 #[.val (.ref o0), .val (.int i1), .val (.int i2)] [(.int (1 : Int32)), (.int i2)])) _
    refine XS.icmpYes X1.here hx rfl (pc0 := 11) (pc' := 29) rfl (hb hby d3_11) rfl (flt hp2).2.1 (by decide) (by decide) ?_
    show Steps p.tables e below (T1.setTop (mkF m 29 #[.val (.ref o0), .val (.int i1), .val (.int i2)] [])) _
    refine XS.aloadN X1.here hx rfl (hb hby d3_29) rfl rfl ?_
    show Steps p.tables e below (T1.setTop (mkF m 30 #[.val (.ref o0), .val (.int i1), .val (.int i2)] [(.ref o0)])) _
    refine XS.iloadN X1.here hx rfl (hb hby d3_30) rfl ?_
    show Steps p.tables e below (T1.setTop (mkF m 31 #[.val (.ref o0), .val (.int i1), .val (.int i2)] [(.int i1), (.ref o0)])) _
    refine st2 _ ?_
    show Steps p.tables e below (T2.setTop (mkF m 34 #[.val (.ref o0), .val (.int i1), .val (.int i2)] [])) _
    refine XS.aloadN X2.here hx rfl (hb hby d3_34) rfl rfl ?_
    show Steps p.tables e below (T2.setTop (mkF m 35 #[.val (.ref o0), .val (.int i1), .val (.int i2)] [(.ref o0)])) _
    refine XS.iloadN X2.here hx rfl (hb hby d3_35) rfl ?_
    show Steps p.tables e below (T2.setTop (mkF m 36 #[.val (.ref o0), .val (.int i1), .val (.int i2)] [(.int i2), (.ref o0)])) _
    refine st3 _ ?_
    show Steps p.tables e below (T3.setTop (mkF m 39 #[.val (.ref o0), .val (.int i1), .val (.int i2)] [])) _
    exact X3.returnOut hx Bd.returns (hb hby d3_39) hr
  · show Q3 Z o0 i1 i2 h0 n0 _ T3.heap _
    rw [e3]
    exact ⟨rfl, N3f, K_3, E_3, F_line3, F_column3⟩
theorem d4_0 : decode prog_4_method_6_code 0 = .ok (.bipush 31, 2) := by decide +kernel
theorem d4_2 : decode prog_4_method_6_code 2 = .ok (.aload_n 0, 1) := by decide +kernel
theorem d4_3 : decode prog_4_method_6_code 3 = .ok (.getfield 16, 3) := by decide +kernel
theorem d4_6 : decode prog_4_method_6_code 6 = .ok (.imul, 1) := by decide +kernel
theorem d4_7 : decode prog_4_method_6_code 7 = .ok (.aload_n 0, 1) := by decide +kernel
theorem d4_8 : decode prog_4_method_6_code 8 = .ok (.getfield 22, 3) := by decide +kernel
theorem d4_11 : decode prog_4_method_6_code 11 = .ok (.iadd, 1) := by decide +kernel
theorem d4_12 : decode prog_4_method_6_code 12 = .ok (.ireturn, 1) := by decide +kernel
theorem ef_4 (m : MethodId) (x0 : Addr) : entryFrame m #[(.ref x0)] 1 = mkF m 0 #[.val (.ref x0)] [] := by first | (simp [entryFrame, mkF, argsToLocals, Value.category]; done) | rfl
def Q4 (Z : State) (o0 : Addr) (v0 : Int32) (v1 : Int32) (h0 : Heap) (n0 : Nat) (v : Option Value) (h : Heap) (L : List Loc) : Prop := v = some (.int (((31 : Int32) * v0) + v1)) ∧ Fr n0 L ∧ h = h0
set_option maxRecDepth 65536 in
set_option maxHeartbeats 40000000 in
theorem rm4 (l : Launch) (Z : State) (a0 : Array Value) (hw : ∀ d ∈ tables_1, d.before a0 Z = true) (ws : List Jvm.Cond) (o0 : Addr) (v0 : Int32) (v1 : Int32) (h0 : Heap) (n0 : Nat) (Fl : Fld Z h0 o0 "com/example/mintage/mintage/finding/Position" "line" "I" (.int v0)) (Fc : Fld Z h0 o0 "com/example/mintage/mintage/finding/Position" "column" "I" (.int v1)) :
    MetFree l (⟨"com/example/mintage/mintage/finding/Position", "hashCode", "()I"⟩ : MethodName) (head1 (Jvm.Cond.code (⟨"com/example/mintage/mintage/finding/Position", "hashCode", "()I"⟩ : MethodName) prog_4_method_6_code 1 (some .int) :: ws) ({ frames := 0, cells := 0, slots := 0, locals := 0 } : Room)) (fun a U => a = #[(.ref o0)] ∧ Z.Warmed39 U.vm ∧ U.heap = h0) (fun _ _ _ _ _ => True) (fun _ U o U' => ∃ v L, o = .returned v ∧ Q4 Z o0 v0 v1 h0 n0 v U'.heap L ∧ FrameEnd U o U' L ({ frames := 0, cells := 0, slots := 0, locals := 0 } : Room).cells ({ frames := 0, cells := 0, slots := 0, locals := 0 } : Room).slots) := by
  refine MetFree.of_bodySF (plainFor_of_name pn_1) hisR ?_
  intro p e s m args below meth c s₁ Bd hml0 hP hK
  obtain ⟨rfl, hZ, hh⟩ := hP
  have hx := Bd.exec
  have hby := Bd.bytes
  have hml : c.maxLocals = 1 := hml0
  have hown : s.vm.findClass "com/example/mintage/mintage/finding/Position" = some m.cls := findClass_of_methodNamed Bd.named
  have hnm := (name_of_methodNamed Bd.named Bd.method).1
  have X0 : Stand p l e ({ frames := 0, cells := 0, slots := 0, locals := 0 } : Room) s m #[(.ref o0)] below meth c s₁ [] 0 0 := Stand.of_body Bd
  have e0 : s₁.heap = h0 := by rw [← hh, Bd.state]; rfl
  have N0 := Fr.nil n0
  have pre0 : ∀ t, Steps p.tables e below (s₁.setTop (mkF m 0 #[.val (.ref o0)] [])) t → Steps p.tables e below (s₁.setTop (entryFrame m #[(.ref o0)] 1)) t := fun t k => castTop (ef_4 m o0) k
  obtain ⟨T1, X1, e1, st1⟩ := getF X0 hx hZ hown (host := "") (Or.inl (hw _ (List.mem_of_getElem? (i := 18) rfl))) Via.refl e0 Fl (g := (mkF m 3 #[.val (.ref o0)] [(.ref o0), (.int (31 : Int32))])) rfl rfl (hb hby d4_3)
  obtain ⟨T2, X2, e2, st2⟩ := getF X1 hx hZ hown (host := "") (Or.inl (hw _ (List.mem_of_getElem? (i := 20) rfl))) Via.refl e1 Fc (g := (mkF m 8 #[.val (.ref o0)] [(.ref o0), (.int ((31 : Int32) * v0))])) rfl rfl (hb hby d4_8)
  obtain ⟨fs, hr, hrun, hended, hW, hsame⟩ := X2.leave (v := some (.int (((31 : Int32) * v0) + v1))) (fun h => by rw [Bd.returns] at h; cases h)
  refine ⟨_, _, pre0 _ ?_, hrun, hended, _, _, rfl, ?_, ⟨_, rfl⟩, hW, hsame.mono (by decide) (by decide)⟩
  · show Steps p.tables e below (s₁.setTop (mkF m 0 #[.val (.ref o0)] [])) _
    refine XS.bipush X0.here hx rfl (hb hby d4_0) ?_
    show Steps p.tables e below (s₁.setTop (mkF m 2 #[.val (.ref o0)] [(.int (31 : Int32))])) _
    refine XS.aloadN X0.here hx rfl (hb hby d4_2) rfl rfl ?_
    show Steps p.tables e below (s₁.setTop (mkF m 3 #[.val (.ref o0)] [(.ref o0), (.int (31 : Int32))])) _
    refine st1 _ ?_
    show Steps p.tables e below (T1.setTop (mkF m 6 #[.val (.ref o0)] [(.int v0), (.int (31 : Int32))])) _
    refine XS.imul X1.here hx rfl (hb hby d4_6) rfl ?_
    show Steps p.tables e below (T1.setTop (mkF m 7 #[.val (.ref o0)] [(.int ((31 : Int32) * v0))])) _
    refine XS.aloadN X1.here hx rfl (hb hby d4_7) rfl rfl ?_
    show Steps p.tables e below (T1.setTop (mkF m 8 #[.val (.ref o0)] [(.ref o0), (.int ((31 : Int32) * v0))])) _
    refine st2 _ ?_
    show Steps p.tables e below (T2.setTop (mkF m 11 #[.val (.ref o0)] [(.int v1), (.int ((31 : Int32) * v0))])) _
    refine XS.iadd X2.here hx rfl (hb hby d4_11) rfl ?_
    show Steps p.tables e below (T2.setTop (mkF m 12 #[.val (.ref o0)] [(.int (((31 : Int32) * v0) + v1))])) _
    exact retI X2 hx Bd.returns (hb hby d4_12) hr
  · show Q4 Z o0 v0 v1 h0 n0 _ T2.heap _
    rw [e2]
    exact ⟨rfl, N0, rfl⟩
def f5_31 (v1 : Int32) (w1 : Int32) : Int32 := (if v1 = w1 then (1 : Int32) else (0 : Int32))
theorem d5a_0 : decode prog_4_method_5_code 0 = .ok (.aload_n 1, 1) := by decide +kernel
theorem d5a_1 : decode prog_4_method_5_code 1 = .ok (.instanceof 17, 3) := by decide +kernel
theorem d5a_4 : decode prog_4_method_5_code 4 = .ok (.ifCond .eq 34, 3) := by decide +kernel
theorem d5a_7 : decode prog_4_method_5_code 7 = .ok (.aload_n 1, 1) := by decide +kernel
theorem d5a_8 : decode prog_4_method_5_code 8 = .ok (.checkcast 17, 3) := by decide +kernel
theorem d5a_11 : decode prog_4_method_5_code 11 = .ok (.astore_n 2, 1) := by decide +kernel
theorem d5a_12 : decode prog_4_method_5_code 12 = .ok (.aload_n 0, 1) := by decide +kernel
theorem d5a_13 : decode prog_4_method_5_code 13 = .ok (.getfield 16, 3) := by decide +kernel
theorem d5a_16 : decode prog_4_method_5_code 16 = .ok (.aload_n 2, 1) := by decide +kernel
theorem d5a_17 : decode prog_4_method_5_code 17 = .ok (.getfield 16, 3) := by decide +kernel
theorem d5a_20 : decode prog_4_method_5_code 20 = .ok (.if_icmp .ne 18, 3) := by decide +kernel
theorem d5a_23 : decode prog_4_method_5_code 23 = .ok (.aload_n 0, 1) := by decide +kernel
theorem d5a_24 : decode prog_4_method_5_code 24 = .ok (.getfield 22, 3) := by decide +kernel
theorem d5a_27 : decode prog_4_method_5_code 27 = .ok (.aload_n 2, 1) := by decide +kernel
theorem d5a_28 : decode prog_4_method_5_code 28 = .ok (.getfield 22, 3) := by decide +kernel
theorem d5a_31 : decode prog_4_method_5_code 31 = .ok (.if_icmp .ne 7, 3) := by decide +kernel
theorem d5a_34 : decode prog_4_method_5_code 34 = .ok (.iconst 1, 1) := by decide +kernel
theorem d5a_35 : decode prog_4_method_5_code 35 = .ok (.goto 4, 3) := by decide +kernel
theorem d5a_38 : decode prog_4_method_5_code 38 = .ok (.iconst 0, 1) := by decide +kernel
theorem d5a_39 : decode prog_4_method_5_code 39 = .ok (.ireturn, 1) := by decide +kernel
theorem ef_5a (m : MethodId) (x0 : Addr) (x1 : Addr) : entryFrame m #[(.ref x0), (.ref x1)] 3 = mkF m 0 #[.val (.ref x0), .val (.ref x1), .unset] [] := by first | (simp [entryFrame, mkF, argsToLocals, Value.category]; done) | rfl
def Q5a (Z : State) (o0 : Addr) (o1 : Addr) (v0 : Int32) (v1 : Int32) (w0 : Int32) (w1 : Int32) (h0 : Heap) (n0 : Nat) (v : Option Value) (h : Heap) (L : List Loc) : Prop := v = some (.int (f5_31 v1 w1)) ∧ Fr n0 L ∧ h = h0
set_option maxRecDepth 65536 in
set_option maxHeartbeats 40000000 in
theorem rm5a (l : Launch) (Z : State) (a0 : Array Value) (hw : ∀ d ∈ tables_1, d.before a0 Z = true) (ws : List Jvm.Cond) (o0 : Addr) (o1 : Addr) (v0 : Int32) (v1 : Int32) (w0 : Int32) (w1 : Int32) (h0 : Heap) (n0 : Nat) (Fl : Fld Z h0 o0 "com/example/mintage/mintage/finding/Position" "line" "I" (.int v0)) (Fc : Fld Z h0 o0 "com/example/mintage/mintage/finding/Position" "column" "I" (.int v1)) (Gl : Fld Z h0 o1 "com/example/mintage/mintage/finding/Position" "line" "I" (.int w0)) (Gc : Fld Z h0 o1 "com/example/mintage/mintage/finding/Position" "column" "I" (.int w1)) (Ex : Exa Z h0 o1 "com/example/mintage/mintage/finding/Position") (hl : v0 = w0) :
    MetFree l (⟨"com/example/mintage/mintage/finding/Position", "equals", "(Ljava/lang/Object;)Z"⟩ : MethodName) (head1 (Jvm.Cond.code (⟨"com/example/mintage/mintage/finding/Position", "equals", "(Ljava/lang/Object;)Z"⟩ : MethodName) prog_4_method_5_code 3 (some .boolean) :: ws) ({ frames := 0, cells := 0, slots := 0, locals := 0 } : Room)) (fun a U => a = #[(.ref o0), (.ref o1)] ∧ Z.Warmed39 U.vm ∧ U.heap = h0) (fun _ _ _ _ _ => True) (fun _ U o U' => ∃ v L, o = .returned v ∧ Q5a Z o0 o1 v0 v1 w0 w1 h0 n0 v U'.heap L ∧ FrameEnd U o U' L ({ frames := 0, cells := 0, slots := 0, locals := 0 } : Room).cells ({ frames := 0, cells := 0, slots := 0, locals := 0 } : Room).slots) := by
  refine MetFree.of_bodySF (plainFor_of_name pn_1) hisR ?_
  intro p e s m args below meth c s₁ Bd hml0 hP hK
  obtain ⟨rfl, hZ, hh⟩ := hP
  have hx := Bd.exec
  have hby := Bd.bytes
  have hml : c.maxLocals = 3 := hml0
  have hown : s.vm.findClass "com/example/mintage/mintage/finding/Position" = some m.cls := findClass_of_methodNamed Bd.named
  have hnm := (name_of_methodNamed Bd.named Bd.method).1
  have X0 : Stand p l e ({ frames := 0, cells := 0, slots := 0, locals := 0 } : Room) s m #[(.ref o0), (.ref o1)] below meth c s₁ [] 0 0 := Stand.of_body Bd
  have e0 : s₁.heap = h0 := by rw [← hh, Bd.state]; rfl
  have N0 := Fr.nil n0
  have pre0 : ∀ t, Steps p.tables e below (s₁.setTop (mkF m 0 #[.val (.ref o0), .val (.ref o1), .unset] [])) t → Steps p.tables e below (s₁.setTop (entryFrame m #[(.ref o0), (.ref o1)] 3)) t := fun t k => castTop (ef_5a m o0 o1) k
  obtain ⟨T1, X1, e1, st1⟩ := instY X0 hx hZ hown (hw _ (List.mem_of_getElem? (i := 32) rfl)) e0 (Ins.self Ex) (g := (mkF m 1 #[.val (.ref o0), .val (.ref o1), .unset] [(.ref o1)])) rfl rfl (hb hby d5a_1)
  obtain ⟨T2, X2, e2, st2⟩ := castY X1 hx hZ hown (hw _ (List.mem_of_getElem? (i := 32) rfl)) e1 (Ins.self Ex) (g := (mkF m 8 #[.val (.ref o0), .val (.ref o1), .unset] [(.ref o1)])) rfl rfl (hb hby d5a_8)
  obtain ⟨T3, X3, e3, st3⟩ := getF X2 hx hZ hown (host := "") (Or.inl (hw _ (List.mem_of_getElem? (i := 18) rfl))) Via.refl e2 Fl (g := (mkF m 13 #[.val (.ref o0), .val (.ref o1), .val (.ref o1)] [(.ref o0)])) rfl rfl (hb hby d5a_13)
  obtain ⟨T4, X4, e4, st4⟩ := getF X3 hx hZ hown (host := "") (Or.inl (hw _ (List.mem_of_getElem? (i := 18) rfl))) Via.refl e3 Gl (g := (mkF m 17 #[.val (.ref o0), .val (.ref o1), .val (.ref o1)] [(.ref o1), (.int v0)])) rfl rfl (hb hby d5a_17)
  obtain ⟨T5, X5, e5, st5⟩ := getF X4 hx hZ hown (host := "") (Or.inl (hw _ (List.mem_of_getElem? (i := 20) rfl))) Via.refl e4 Fc (g := (mkF m 24 #[.val (.ref o0), .val (.ref o1), .val (.ref o1)] [(.ref o0)])) rfl rfl (hb hby d5a_24)
  obtain ⟨T6, X6, e6, st6⟩ := getF X5 hx hZ hown (host := "") (Or.inl (hw _ (List.mem_of_getElem? (i := 20) rfl))) Via.refl e5 Gc (g := (mkF m 28 #[.val (.ref o0), .val (.ref o1), .val (.ref o1)] [(.ref o1), (.int v1)])) rfl rfl (hb hby d5a_28)
  have sg31 : ∀ {fs : List Frame}, own_RetTo e T6 m (some (.int (f5_31 v1 w1))) fs → Steps p.tables e below (T6.setTop (mkF m 31 #[.val (.ref o0), .val (.ref o1), .val (.ref o1)] [(.int w1), (.int v1)])) (T6.setFrames fs) := by
    intro fs hr
    show Steps p.tables e below (T6.setTop (mkF m 31 #[.val (.ref o0), .val (.ref o1), .val (.ref o1)] [(.int w1), (.int v1)])) _
    by_cases hc31 : v1 = w1
    · refine XS.icmpNo X6.here hx rfl (hb hby d5a_31) rfl (teq hc31).2 ?_
      show Steps p.tables e below (T6.setTop (mkF m 34 #[.val (.ref o0), .val (.ref o1), .val (.ref o1)] [])) _
      refine XS.iconst X6.here hx rfl (hb hby d5a_34) ?_
      show Steps p.tables e below (T6.setTop (mkF m 35 #[.val (.ref o0), .val (.ref o1), .val (.ref o1)] [(.int (1 : Int32))])) _
      refine XS.goto X6.here hx rfl (pc0 := 35) (pc' := 39) rfl (hb hby d5a_35) (by decide) (by decide) ?_
      have hv : f5_31 v1 w1 = (1 : Int32) := by unfold f5_31; rw [if_pos hc31]
      rw [hv] at hr
      show Steps p.tables e below (T6.setTop (mkF m 39 #[.val (.ref o0), .val (.ref o1), .val (.ref o1)] [(.int (1 : Int32))])) _
      exact retN X6 hx (t := .boolean) Bd.returns (by simp) (hb hby d5a_39) hr
    · refine XS.icmpYes X6.here hx rfl (pc0 := 31) (pc' := 38) rfl (hb hby d5a_31) rfl (feq hc31).2 (by decide) (by decide) ?_
      show Steps p.tables e below (T6.setTop (mkF m 38 #[.val (.ref o0), .val (.ref o1), .val (.ref o1)] [])) _
      refine XS.iconst X6.here hx rfl (hb hby d5a_38) ?_
      have hv : f5_31 v1 w1 = (0 : Int32) := by unfold f5_31; rw [if_neg hc31]
      rw [hv] at hr
      show Steps p.tables e below (T6.setTop (mkF m 39 #[.val (.ref o0), .val (.ref o1), .val (.ref o1)] [(.int (0 : Int32))])) _
      exact retN X6 hx (t := .boolean) Bd.returns (by simp) (hb hby d5a_39) hr
  obtain ⟨fs, hr, hrun, hended, hW, hsame⟩ := X6.leave (v := some (.int (f5_31 v1 w1))) (fun h => by rw [Bd.returns] at h; cases h)
  refine ⟨_, _, pre0 _ ?_, hrun, hended, _, _, rfl, ?_, ⟨_, rfl⟩, hW, hsame.mono (by decide) (by decide)⟩
  · show Steps p.tables e below (s₁.setTop (mkF m 0 #[.val (.ref o0), .val (.ref o1), .unset] [])) _
    refine XS.aloadN X0.here hx rfl (hb hby d5a_0) rfl rfl ?_
    show Steps p.tables e below (s₁.setTop (mkF m 1 #[.val (.ref o0), .val (.ref o1), .unset] [(.ref o1)])) _
    refine st1 _ ?_
    show Steps p.tables e below (T1.setTop (mkF m 4 #[.val (.ref o0), .val (.ref o1), .unset] [(.int (1 : Int32))])) _
    refine XS.ifNo X1.here hx rfl (hb hby d5a_4) rfl ((if0 _ _).trans (feq (by decide : ¬ ((1 : Int32) = (0 : Int32)))).1) ?_
    show Steps p.tables e below (T1.setTop (mkF m 7 #[.val (.ref o0), .val (.ref o1), .unset] [])) _
    refine XS.aloadN X1.here hx rfl (hb hby d5a_7) rfl rfl ?_
    show Steps p.tables e below (T1.setTop (mkF m 8 #[.val (.ref o0), .val (.ref o1), .unset] [(.ref o1)])) _
    refine st2 _ ?_
    show Steps p.tables e below (T2.setTop (mkF m 11 #[.val (.ref o0), .val (.ref o1), .unset] [(.ref o1)])) _
    refine XS.astoreN X2.here hx rfl (hb hby d5a_11) rfl rfl (l' := #[.val (.ref o0), .val (.ref o1), .val (.ref o1)]) rfl ?_
    show Steps p.tables e below (T2.setTop (mkF m 12 #[.val (.ref o0), .val (.ref o1), .val (.ref o1)] [])) _
    refine XS.aloadN X2.here hx rfl (hb hby d5a_12) rfl rfl ?_
    show Steps p.tables e below (T2.setTop (mkF m 13 #[.val (.ref o0), .val (.ref o1), .val (.ref o1)] [(.ref o0)])) _
    refine st3 _ ?_
    show Steps p.tables e below (T3.setTop (mkF m 16 #[.val (.ref o0), .val (.ref o1), .val (.ref o1)] [(.int v0)])) _
    refine XS.aloadN X3.here hx rfl (hb hby d5a_16) rfl rfl ?_
    show Steps p.tables e below (T3.setTop (mkF m 17 #[.val (.ref o0), .val (.ref o1), .val (.ref o1)] [(.ref o1), (.int v0)])) _
    refine st4 _ ?_
    show Steps p.tables e below (T4.setTop (mkF m 20 #[.val (.ref o0), .val (.ref o1), .val (.ref o1)] [(.int w0), (.int v0)])) _
    refine XS.icmpNo X4.here hx rfl (hb hby d5a_20) rfl (teq hl).2 ?_
    show Steps p.tables e below (T4.setTop (mkF m 23 #[.val (.ref o0), .val (.ref o1), .val (.ref o1)] [])) _
    refine XS.aloadN X4.here hx rfl (hb hby d5a_23) rfl rfl ?_
    show Steps p.tables e below (T4.setTop (mkF m 24 #[.val (.ref o0), .val (.ref o1), .val (.ref o1)] [(.ref o0)])) _
    refine st5 _ ?_
    show Steps p.tables e below (T5.setTop (mkF m 27 #[.val (.ref o0), .val (.ref o1), .val (.ref o1)] [(.int v1)])) _
    refine XS.aloadN X5.here hx rfl (hb hby d5a_27) rfl rfl ?_
    show Steps p.tables e below (T5.setTop (mkF m 28 #[.val (.ref o0), .val (.ref o1), .val (.ref o1)] [(.ref o1), (.int v1)])) _
    refine st6 _ ?_
    show Steps p.tables e below (T6.setTop (mkF m 31 #[.val (.ref o0), .val (.ref o1), .val (.ref o1)] [(.int w1), (.int v1)])) _
    exact sg31 hr
  · show Q5a Z o0 o1 v0 v1 w0 w1 h0 n0 _ T6.heap _
    rw [e6]
    exact ⟨rfl, N0, rfl⟩
theorem d5b_39 : decode prog_4_method_5_code 39 = .ok (.ireturn, 1) := by decide +kernel
theorem d5b_38 : decode prog_4_method_5_code 38 = .ok (.iconst 0, 1) := by decide +kernel
theorem d5b_20 : decode prog_4_method_5_code 20 = .ok (.if_icmp .ne 18, 3) := by decide +kernel
theorem d5b_17 : decode prog_4_method_5_code 17 = .ok (.getfield 16, 3) := by decide +kernel
theorem d5b_16 : decode prog_4_method_5_code 16 = .ok (.aload_n 2, 1) := by decide +kernel
theorem d5b_13 : decode prog_4_method_5_code 13 = .ok (.getfield 16, 3) := by decide +kernel
theorem d5b_12 : decode prog_4_method_5_code 12 = .ok (.aload_n 0, 1) := by decide +kernel
theorem d5b_11 : decode prog_4_method_5_code 11 = .ok (.astore_n 2, 1) := by decide +kernel
theorem d5b_8 : decode prog_4_method_5_code 8 = .ok (.checkcast 17, 3) := by decide +kernel
theorem d5b_7 : decode prog_4_method_5_code 7 = .ok (.aload_n 1, 1) := by decide +kernel
theorem d5b_4 : decode prog_4_method_5_code 4 = .ok (.ifCond .eq 34, 3) := by decide +kernel
theorem d5b_1 : decode prog_4_method_5_code 1 = .ok (.instanceof 17, 3) := by decide +kernel
theorem d5b_0 : decode prog_4_method_5_code 0 = .ok (.aload_n 1, 1) := by decide +kernel
theorem ef_5b (m : MethodId) (x0 : Addr) (x1 : Addr) : entryFrame m #[(.ref x0), (.ref x1)] 3 = mkF m 0 #[.val (.ref x0), .val (.ref x1), .unset] [] := by first | (simp [entryFrame, mkF, argsToLocals, Value.category]; done) | rfl
def Q5b (Z : State) (o0 : Addr) (o1 : Addr) (v0 : Int32) (v1 : Int32) (w0 : Int32) (w1 : Int32) (h0 : Heap) (n0 : Nat) (v : Option Value) (h : Heap) (L : List Loc) : Prop := v = some (.int (0 : Int32)) ∧ Fr n0 L ∧ h = h0
set_option maxRecDepth 65536 in
set_option maxHeartbeats 40000000 in
theorem rm5b (l : Launch) (Z : State) (a0 : Array Value) (hw : ∀ d ∈ tables_1, d.before a0 Z = true) (ws : List Jvm.Cond) (o0 : Addr) (o1 : Addr) (v0 : Int32) (v1 : Int32) (w0 : Int32) (w1 : Int32) (h0 : Heap) (n0 : Nat) (Fl : Fld Z h0 o0 "com/example/mintage/mintage/finding/Position" "line" "I" (.int v0)) (Fc : Fld Z h0 o0 "com/example/mintage/mintage/finding/Position" "column" "I" (.int v1)) (Gl : Fld Z h0 o1 "com/example/mintage/mintage/finding/Position" "line" "I" (.int w0)) (Gc : Fld Z h0 o1 "com/example/mintage/mintage/finding/Position" "column" "I" (.int w1)) (Ex : Exa Z h0 o1 "com/example/mintage/mintage/finding/Position") (hl : ¬ (v0 = w0)) :
    MetFree l (⟨"com/example/mintage/mintage/finding/Position", "equals", "(Ljava/lang/Object;)Z"⟩ : MethodName) (head1 (Jvm.Cond.code (⟨"com/example/mintage/mintage/finding/Position", "equals", "(Ljava/lang/Object;)Z"⟩ : MethodName) prog_4_method_5_code 3 (some .boolean) :: ws) ({ frames := 0, cells := 0, slots := 0, locals := 0 } : Room)) (fun a U => a = #[(.ref o0), (.ref o1)] ∧ Z.Warmed39 U.vm ∧ U.heap = h0) (fun _ _ _ _ _ => True) (fun _ U o U' => ∃ v L, o = .returned v ∧ Q5b Z o0 o1 v0 v1 w0 w1 h0 n0 v U'.heap L ∧ FrameEnd U o U' L ({ frames := 0, cells := 0, slots := 0, locals := 0 } : Room).cells ({ frames := 0, cells := 0, slots := 0, locals := 0 } : Room).slots) := by
  refine MetFree.of_bodySF (plainFor_of_name pn_1) hisR ?_
  intro p e s m args below meth c s₁ Bd hml0 hP hK
  obtain ⟨rfl, hZ, hh⟩ := hP
  have hx := Bd.exec
  have hby := Bd.bytes
  have hml : c.maxLocals = 3 := hml0
  have hown : s.vm.findClass "com/example/mintage/mintage/finding/Position" = some m.cls := findClass_of_methodNamed Bd.named
  have hnm := (name_of_methodNamed Bd.named Bd.method).1
  have X0 : Stand p l e ({ frames := 0, cells := 0, slots := 0, locals := 0 } : Room) s m #[(.ref o0), (.ref o1)] below meth c s₁ [] 0 0 := Stand.of_body Bd
  have e0 : s₁.heap = h0 := by rw [← hh, Bd.state]; rfl
  have N0 := Fr.nil n0
  have pre0 : ∀ t, Steps p.tables e below (s₁.setTop (mkF m 0 #[.val (.ref o0), .val (.ref o1), .unset] [])) t → Steps p.tables e below (s₁.setTop (entryFrame m #[(.ref o0), (.ref o1)] 3)) t := fun t k => castTop (ef_5b m o0 o1) k
  obtain ⟨T1, X1, e1, st1⟩ := instY X0 hx hZ hown (hw _ (List.mem_of_getElem? (i := 32) rfl)) e0 (Ins.self Ex) (g := (mkF m 1 #[.val (.ref o0), .val (.ref o1), .unset] [(.ref o1)])) rfl rfl (hb hby d5b_1)
  obtain ⟨T2, X2, e2, st2⟩ := castY X1 hx hZ hown (hw _ (List.mem_of_getElem? (i := 32) rfl)) e1 (Ins.self Ex) (g := (mkF m 8 #[.val (.ref o0), .val (.ref o1), .unset] [(.ref o1)])) rfl rfl (hb hby d5b_8)
  obtain ⟨T3, X3, e3, st3⟩ := getF X2 hx hZ hown (host := "") (Or.inl (hw _ (List.mem_of_getElem? (i := 18) rfl))) Via.refl e2 Fl (g := (mkF m 13 #[.val (.ref o0), .val (.ref o1), .val (.ref o1)] [(.ref o0)])) rfl rfl (hb hby d5b_13)
  obtain ⟨T4, X4, e4, st4⟩ := getF X3 hx hZ hown (host := "") (Or.inl (hw _ (List.mem_of_getElem? (i := 18) rfl))) Via.refl e3 Gl (g := (mkF m 17 #[.val (.ref o0), .val (.ref o1), .val (.ref o1)] [(.ref o1), (.int v0)])) rfl rfl (hb hby d5b_17)
  obtain ⟨fs, hr, hrun, hended, hW, hsame⟩ := X4.leave (v := some (.int (0 : Int32))) (fun h => by rw [Bd.returns] at h; cases h)
  refine ⟨_, _, pre0 _ ?_, hrun, hended, _, _, rfl, ?_, ⟨_, rfl⟩, hW, hsame.mono (by decide) (by decide)⟩
  · show Steps p.tables e below (s₁.setTop (mkF m 0 #[.val (.ref o0), .val (.ref o1), .unset] [])) _
    refine XS.aloadN X0.here hx rfl (hb hby d5b_0) rfl rfl ?_
    show Steps p.tables e below (s₁.setTop (mkF m 1 #[.val (.ref o0), .val (.ref o1), .unset] [(.ref o1)])) _
    refine st1 _ ?_
    show Steps p.tables e below (T1.setTop (mkF m 4 #[.val (.ref o0), .val (.ref o1), .unset] [(.int (1 : Int32))])) _
    refine XS.ifNo X1.here hx rfl (hb hby d5b_4) rfl ((if0 _ _).trans (feq (by decide : ¬ ((1 : Int32) = (0 : Int32)))).1) ?_
    show Steps p.tables e below (T1.setTop (mkF m 7 #[.val (.ref o0), .val (.ref o1), .unset] [])) _
    refine XS.aloadN X1.here hx rfl (hb hby d5b_7) rfl rfl ?_
    show Steps p.tables e below (T1.setTop (mkF m 8 #[.val (.ref o0), .val (.ref o1), .unset] [(.ref o1)])) _
    refine st2 _ ?_
    show Steps p.tables e below (T2.setTop (mkF m 11 #[.val (.ref o0), .val (.ref o1), .unset] [(.ref o1)])) _
    refine XS.astoreN X2.here hx rfl (hb hby d5b_11) rfl rfl (l' := #[.val (.ref o0), .val (.ref o1), .val (.ref o1)]) rfl ?_
    show Steps p.tables e below (T2.setTop (mkF m 12 #[.val (.ref o0), .val (.ref o1), .val (.ref o1)] [])) _
    refine XS.aloadN X2.here hx rfl (hb hby d5b_12) rfl rfl ?_
    show Steps p.tables e below (T2.setTop (mkF m 13 #[.val (.ref o0), .val (.ref o1), .val (.ref o1)] [(.ref o0)])) _
    refine st3 _ ?_
    show Steps p.tables e below (T3.setTop (mkF m 16 #[.val (.ref o0), .val (.ref o1), .val (.ref o1)] [(.int v0)])) _
    refine XS.aloadN X3.here hx rfl (hb hby d5b_16) rfl rfl ?_
    show Steps p.tables e below (T3.setTop (mkF m 17 #[.val (.ref o0), .val (.ref o1), .val (.ref o1)] [(.ref o1), (.int v0)])) _
    refine st4 _ ?_
    show Steps p.tables e below (T4.setTop (mkF m 20 #[.val (.ref o0), .val (.ref o1), .val (.ref o1)] [(.int w0), (.int v0)])) _
    refine XS.icmpYes X4.here hx rfl (pc0 := 20) (pc' := 38) rfl (hb hby d5b_20) rfl (feq hl).2 (by decide) (by decide) ?_
    show Steps p.tables e below (T4.setTop (mkF m 38 #[.val (.ref o0), .val (.ref o1), .val (.ref o1)] [])) _
    refine XS.iconst X4.here hx rfl (hb hby d5b_38) ?_
    show Steps p.tables e below (T4.setTop (mkF m 39 #[.val (.ref o0), .val (.ref o1), .val (.ref o1)] [(.int (0 : Int32))])) _
    exact retN X4 hx (t := .boolean) Bd.returns (by simp) (hb hby d5b_39) hr
  · show Q5b Z o0 o1 v0 v1 w0 w1 h0 n0 _ T4.heap _
    rw [e4]
    exact ⟨rfl, N0, rfl⟩
def own_f5 (v0 v1 w0 w1 : Int32) : Int32 := if v0 = w0 then f5_31 v1 w1 else (0 : Int32)
def Q5 (Z : State) (o0 : Addr) (o1 : Addr) (v0 : Int32) (v1 : Int32) (w0 : Int32) (w1 : Int32) (h0 : Heap) (n0 : Nat) (v : Option Value) (h : Heap) (L : List Loc) : Prop := v = some (.int (own_f5 v0 v1 w0 w1)) ∧ Fr n0 L ∧ h = h0
theorem rm5 (l : Launch) (Z : State) (a0 : Array Value) (hw : ∀ d ∈ tables_1, d.before a0 Z = true) (ws : List Jvm.Cond) (o0 : Addr) (o1 : Addr) (v0 : Int32) (v1 : Int32) (w0 : Int32) (w1 : Int32) (h0 : Heap) (n0 : Nat) (Fl : Fld Z h0 o0 "com/example/mintage/mintage/finding/Position" "line" "I" (.int v0)) (Fc : Fld Z h0 o0 "com/example/mintage/mintage/finding/Position" "column" "I" (.int v1)) (Gl : Fld Z h0 o1 "com/example/mintage/mintage/finding/Position" "line" "I" (.int w0)) (Gc : Fld Z h0 o1 "com/example/mintage/mintage/finding/Position" "column" "I" (.int w1)) (Ex : Exa Z h0 o1 "com/example/mintage/mintage/finding/Position") :
    MetFree l (⟨"com/example/mintage/mintage/finding/Position", "equals", "(Ljava/lang/Object;)Z"⟩ : MethodName) (head1 (Jvm.Cond.code (⟨"com/example/mintage/mintage/finding/Position", "equals", "(Ljava/lang/Object;)Z"⟩ : MethodName) prog_4_method_5_code 3 (some .boolean) :: ws) ({ frames := 0, cells := 0, slots := 0, locals := 0 } : Room)) (fun a U => a = #[(.ref o0), (.ref o1)] ∧ Z.Warmed39 U.vm ∧ U.heap = h0) (fun _ _ _ _ _ => True) (fun _ U o U' => ∃ v L, o = .returned v ∧ Q5 Z o0 o1 v0 v1 w0 w1 h0 n0 v U'.heap L ∧ FrameEnd U o U' L ({ frames := 0, cells := 0, slots := 0, locals := 0 } : Room).cells ({ frames := 0, cells := 0, slots := 0, locals := 0 } : Room).slots) := by
  by_cases hl : v0 = w0
  · have e : own_f5 v0 v1 w0 w1 = f5_31 v1 w1 := if_pos hl
    unfold Q5
    rw [e]
    exact rm5a l Z a0 hw ws o0 o1 v0 v1 w0 w1 h0 n0 Fl Fc Gl Gc Ex hl
  · have e : own_f5 v0 v1 w0 w1 = (0 : Int32) := if_neg hl
    unfold Q5
    rw [e]
    exact rm5b l Z a0 hw ws o0 o1 v0 v1 w0 w1 h0 n0 Fl Fc Gl Gc Ex hl
theorem own_pos (x : Int32) : ¬ (f1_0 (1 : Int32) (x &&& (2147483647 : Int32))) < (1 : Int32) := by
  unfold f1_0
  split
  · rename_i h
    rw [Int32.lt_iff_toInt_lt] at h ⊢
    omega
  · decide
theorem own_hash (v0 v1 w0 w1 : Int32) (h : ¬ own_f5 v0 v1 w0 w1 = (0 : Int32)) : (((31 : Int32) * v0) + v1) = (((31 : Int32) * w0) + w1) := by
  unfold own_f5 f5_31 at h
  by_cases a : v0 = w0
  · rw [if_pos a] at h
    by_cases b : v1 = w1
    · rw [a, b]
    · rw [if_neg b] at h; exact absurd rfl h
  · rw [if_neg a] at h; exact absurd rfl h
theorem pd_1 : parseMethodDescriptor "(I)I" = some ⟨[.int], some .int⟩ := by decide +kernel
def g_1 (uf : Int32) : Int32 := (if (uf &&& (1 : Int32)) = (0 : Int32) then (0 : Int32) else (1 : Int32))
def g_2 (uf : Int32) : Int32 := (if (uf &&& (2 : Int32)) = (0 : Int32) then (0 : Int32) else (1 : Int32))
theorem pd_2 : parseMethodDescriptor "(II)V" = some ⟨[.int, .int], none⟩ := by decide +kernel
theorem pd_3 : parseMethodDescriptor "()I" = some ⟨[], some .int⟩ := by decide +kernel
theorem pd_4 : parseMethodDescriptor "(Ljava/lang/Object;)Z" = some ⟨[(.object "java/lang/Object")], some .boolean⟩ := by decide +kernel
def f0_131 (ua : Int32) (ub : Int32) (l2 : Int32) (c2 : Int32) : Int32 := (if (own_f5 (f1_0 (1 : Int32) (ua &&& (2147483647 : Int32))) (f1_0 (1 : Int32) (ub &&& (2147483647 : Int32))) l2 c2) = (0 : Int32) then (1 : Int32) else (if (((31 : Int32) * (f1_0 (1 : Int32) (ua &&& (2147483647 : Int32)))) + (f1_0 (1 : Int32) (ub &&& (2147483647 : Int32)))) = (((31 : Int32) * l2) + c2) then (1 : Int32) else (0 : Int32)))
theorem own_one (ua ub l2 c2 : Int32) : f0_131 ua ub l2 c2 = (1 : Int32) := by
  unfold f0_131
  split
  · rfl
  · rename_i h
    rw [if_pos (own_hash _ _ _ _ h)]
theorem ef_0 (m : MethodId) (x0 : Int32) (x1 : Int32) (x2 : Int32) (x3 : Int32) (x4 : Int32) : entryFrame m #[(.int x0), (.int x1), (.int x2), (.int x3), (.int x4)] maxLocals = mkF m 0 #[.val (.int x0), .val (.int x1), .val (.int x2), .val (.int x3), .val (.int x4), .unset, .unset, .unset, .unset, .unset, .unset, .unset, .unset, .unset, .unset] [] := by first | (simp [entryFrame, mkF, argsToLocals, Value.category, maxLocals]; done) | rfl
def Q0 (Z : State) (ua : Int32) (ub : Int32) (uc : Int32) (ud : Int32) (uf : Int32) (h0 : Heap) (n0 : Nat) (v : Option Value) (h : Heap) (L : List Loc) : Prop := v = some (.int (1 : Int32)) ∧ Fr n0 L
set_option maxRecDepth 65536 in
set_option maxHeartbeats 40000000 in
theorem rm0 (l : Launch) (Z : State) (a0 : Array Value) (hw : ∀ d ∈ tables_1, d.before a0 Z = true) (ws : List Jvm.Cond) (ua : Int32) (ub : Int32) (uc : Int32) (ud : Int32) (uf : Int32) (h0 : Heap) (n0 : Nat) (Z0 : n0 ≤ h0.size) :
    MetFree l x (head1 (Jvm.Cond.code x code maxLocals ret :: ws) room_1) (fun a U => a = #[(.int ua), (.int ub), (.int uc), (.int ud), (.int uf)] ∧ Z.Warmed39 U.vm ∧ U.heap = h0) (fun _ _ _ _ _ => True) (fun _ U o U' => ∃ v L, o = .returned v ∧ Q0 Z ua ub uc ud uf h0 n0 v U'.heap L ∧ FrameEnd U o U' L 2 4) := by
  refine MetFree.of_bodySF (plainFor_of_name pn_0) hisR ?_
  intro p e s m args below meth c s₁ Bd hml0 hP hK
  obtain ⟨rfl, hZ, hh⟩ := hP
  have hx := Bd.exec
  have hby := Bd.bytes
  have hml : c.maxLocals = 15 := hml0
  have hown : s.vm.findClass "com/example/mintage/mintage/finding/PositionHashCodePinLaw" = some m.cls := findClass_of_methodNamed Bd.named
  have hnm := (name_of_methodNamed Bd.named Bd.method).1
  have X0 : Stand p l e room_1 s m #[(.int ua), (.int ub), (.int uc), (.int ud), (.int uf)] below meth c s₁ [] 0 0 := Stand.of_body Bd
  have e0 : s₁.heap = h0 := by rw [← hh, Bd.state]; rfl
  have N0 := Fr.nil n0
  have pre0 : ∀ t, Steps p.tables e below (s₁.setTop (mkF m 0 #[.val (.int ua), .val (.int ub), .val (.int uc), .val (.int ud), .val (.int uf), .unset, .unset, .unset, .unset, .unset, .unset, .unset, .unset, .unset, .unset] [])) t → Steps p.tables e below (s₁.setTop (entryFrame m #[(.int ua), (.int ub), (.int uc), (.int ud), (.int uf)] maxLocals)) t := fun t k => castTop (ef_0 m ua ub uc ud uf) k
  obtain ⟨_, _, ⟨T1, L1, k1, n1⟩, -, X1, ⟨Lc1, hQ1, l1, y1, z1⟩, st1⟩ := Jvm.LawKit.callS X0 hx (y := (⟨"com/example/mintage/mintage/finding/PositionHashCodePinLaw", "positive", "(I)I"⟩ : MethodName)) hown (mvT hZ (hw _ (List.mem_of_getElem? (i := 0) rfl))) (mvT hZ (hw _ (List.mem_of_getElem? (i := 1) rfl))) (mvT hZ (hw _ (List.mem_of_getElem? (i := 2) rfl))) (mvT hZ (hw _ (List.mem_of_getElem? (i := 3) rfl))) (by decide) (backOf (W := 0) (rm2 l Z a0 hw [] ua h0 n0) hZ (hw _ (List.mem_of_getElem? (i := 3) rfl)) (hw _ (List.mem_of_getElem? (i := 2) rfl)) (by decide) (by decide)) (g := (mkF m 1 #[.val (.int ua), .val (.int ub), .val (.int uc), .val (.int ud), .val (.int uf), .unset, .unset, .unset, .unset, .unset, .unset, .unset, .unset, .unset, .unset] [(.int ua)])) rfl (by rw [hml]; rfl) (argsL := [(.int ua)]) (rest := []) (lenOf pd_1 rfl) rfl (by show 2 * 0 + _ ≤ _; exact Nat.le_of_eq rfl) (hb hby at_1) (fun _ _ => ⟨rfl, e0, (by decide : 0 + 0 ≤ _), (by decide : 0 + 0 ≤ _)⟩)
  dsimp only [Pt.U, Pt.locs, Pt.cells, Pt.slots] at X1 l1 y1 z1 st1 hQ1
  subst l1 y1 z1
  obtain ⟨rfl, N1q, e1q⟩ := hQ1
  have N1 := Fr.app N0 N1q
  obtain ⟨_, _, ⟨T2, L2, k2, n2⟩, -, X2, ⟨Lc2, hQ2, l2, y2, z2⟩, st2⟩ := Jvm.LawKit.callS X1 hx (y := (⟨"com/example/mintage/mintage/finding/PositionHashCodePinLaw", "positive", "(I)I"⟩ : MethodName)) hown (mvT hZ (hw _ (List.mem_of_getElem? (i := 0) rfl))) (mvT hZ (hw _ (List.mem_of_getElem? (i := 1) rfl))) (mvT hZ (hw _ (List.mem_of_getElem? (i := 2) rfl))) (mvT hZ (hw _ (List.mem_of_getElem? (i := 3) rfl))) (by decide) (backOf (W := 0) (rm2 l Z a0 hw [] ub h0 n0) hZ (hw _ (List.mem_of_getElem? (i := 3) rfl)) (hw _ (List.mem_of_getElem? (i := 2) rfl)) (by decide) (by decide)) (g := (mkF m 7 #[.val (.int ua), .val (.int ub), .val (.int uc), .val (.int ud), .val (.int uf), .val (.int (f1_0 (1 : Int32) (ua &&& (2147483647 : Int32)))), .unset, .unset, .unset, .unset, .unset, .unset, .unset, .unset, .unset] [(.int ub)])) rfl (by rw [hml]; rfl) (argsL := [(.int ub)]) (rest := []) (lenOf pd_1 rfl) rfl (by show 2 * 0 + _ ≤ _; exact Nat.le_of_eq rfl) (hb hby at_7) (fun _ _ => ⟨rfl, e1q, (by decide : 0 + 0 ≤ _), (by decide : 0 + 0 ≤ _)⟩)
  dsimp only [Pt.U, Pt.locs, Pt.cells, Pt.slots] at X2 l2 y2 z2 st2 hQ2
  subst l2 y2 z2
  obtain ⟨rfl, N2q, e2q⟩ := hQ2
  have N2 := Fr.app N1 N2q
  have sg12 : ∀ t, Steps p.tables e below (T2.setTop (mkF m 24 #[.val (.int ua), .val (.int ub), .val (.int uc), .val (.int ud), .val (.int uf), .val (.int (f1_0 (1 : Int32) (ua &&& (2147483647 : Int32)))), .val (.int (f1_0 (1 : Int32) (ub &&& (2147483647 : Int32)))), .unset, .unset, .unset, .unset, .unset, .unset, .unset, .unset] [(.int (g_1 uf))])) t → Steps p.tables e below (T2.setTop (mkF m 12 #[.val (.int ua), .val (.int ub), .val (.int uc), .val (.int ud), .val (.int uf), .val (.int (f1_0 (1 : Int32) (ua &&& (2147483647 : Int32)))), .val (.int (f1_0 (1 : Int32) (ub &&& (2147483647 : Int32)))), .unset, .unset, .unset, .unset, .unset, .unset, .unset, .unset] [])) t := by
    intro t kt
    show Steps p.tables e below (T2.setTop (mkF m 12 #[.val (.int ua), .val (.int ub), .val (.int uc), .val (.int ud), .val (.int uf), .val (.int (f1_0 (1 : Int32) (ua &&& (2147483647 : Int32)))), .val (.int (f1_0 (1 : Int32) (ub &&& (2147483647 : Int32)))), .unset, .unset, .unset, .unset, .unset, .unset, .unset, .unset] [])) _
    refine XS.iload X2.here hx rfl (hb hby at_12) rfl ?_
    show Steps p.tables e below (T2.setTop (mkF m 14 #[.val (.int ua), .val (.int ub), .val (.int uc), .val (.int ud), .val (.int uf), .val (.int (f1_0 (1 : Int32) (ua &&& (2147483647 : Int32)))), .val (.int (f1_0 (1 : Int32) (ub &&& (2147483647 : Int32)))), .unset, .unset, .unset, .unset, .unset, .unset, .unset, .unset] [(.int uf)])) _
    refine XS.iconst X2.here hx rfl (hb hby at_14) ?_
    show Steps p.tables e below (T2.setTop (mkF m 15 #[.val (.int ua), .val (.int ub), .val (.int uc), .val (.int ud), .val (.int uf), .val (.int (f1_0 (1 : Int32) (ua &&& (2147483647 : Int32)))), .val (.int (f1_0 (1 : Int32) (ub &&& (2147483647 : Int32)))), .unset, .unset, .unset, .unset, .unset, .unset, .unset, .unset] [(.int (1 : Int32)), (.int uf)])) _
    refine XS.iand X2.here hx rfl (hb hby at_15) rfl ?_
    show Steps p.tables e below (T2.setTop (mkF m 16 #[.val (.int ua), .val (.int ub), .val (.int uc), .val (.int ud), .val (.int uf), .val (.int (f1_0 (1 : Int32) (ua &&& (2147483647 : Int32)))), .val (.int (f1_0 (1 : Int32) (ub &&& (2147483647 : Int32)))), .unset, .unset, .unset, .unset, .unset, .unset, .unset, .unset] [(.int (uf &&& (1 : Int32)))])) _
    by_cases hc16 : (uf &&& (1 : Int32)) = (0 : Int32)
    · refine XS.ifYes X2.here hx rfl (pc0 := 16) (pc' := 23) rfl (hb hby at_16) rfl ((if0 _ _).trans (teq hc16).1) (by decide) (by decide) ?_
      show Steps p.tables e below (T2.setTop (mkF m 23 #[.val (.int ua), .val (.int ub), .val (.int uc), .val (.int ud), .val (.int uf), .val (.int (f1_0 (1 : Int32) (ua &&& (2147483647 : Int32)))), .val (.int (f1_0 (1 : Int32) (ub &&& (2147483647 : Int32)))), .unset, .unset, .unset, .unset, .unset, .unset, .unset, .unset] [])) _
      refine XS.iconst X2.here hx rfl (hb hby at_23) ?_
      have hv : g_1 uf = (0 : Int32) := by unfold g_1; rw [if_pos hc16]
      rw [hv] at kt
      exact kt
    · refine XS.ifNo X2.here hx rfl (hb hby at_16) rfl ((if0 _ _).trans (feq hc16).1) ?_
      show Steps p.tables e below (T2.setTop (mkF m 19 #[.val (.int ua), .val (.int ub), .val (.int uc), .val (.int ud), .val (.int uf), .val (.int (f1_0 (1 : Int32) (ua &&& (2147483647 : Int32)))), .val (.int (f1_0 (1 : Int32) (ub &&& (2147483647 : Int32)))), .unset, .unset, .unset, .unset, .unset, .unset, .unset, .unset] [])) _
      refine XS.iconst X2.here hx rfl (hb hby at_19) ?_
      show Steps p.tables e below (T2.setTop (mkF m 20 #[.val (.int ua), .val (.int ub), .val (.int uc), .val (.int ud), .val (.int uf), .val (.int (f1_0 (1 : Int32) (ua &&& (2147483647 : Int32)))), .val (.int (f1_0 (1 : Int32) (ub &&& (2147483647 : Int32)))), .unset, .unset, .unset, .unset, .unset, .unset, .unset, .unset] [(.int (1 : Int32))])) _
      refine XS.goto X2.here hx rfl (pc0 := 20) (pc' := 24) rfl (hb hby at_20) (by decide) (by decide) ?_
      have hv : g_1 uf = (1 : Int32) := by unfold g_1; rw [if_neg hc16]
      rw [hv] at kt
      exact kt
  have sg26 : ∀ t, Steps p.tables e below (T2.setTop (mkF m 38 #[.val (.int ua), .val (.int ub), .val (.int uc), .val (.int ud), .val (.int uf), .val (.int (f1_0 (1 : Int32) (ua &&& (2147483647 : Int32)))), .val (.int (f1_0 (1 : Int32) (ub &&& (2147483647 : Int32)))), .val (.int (g_1 uf)), .unset, .unset, .unset, .unset, .unset, .unset, .unset] [(.int (g_2 uf))])) t → Steps p.tables e below (T2.setTop (mkF m 26 #[.val (.int ua), .val (.int ub), .val (.int uc), .val (.int ud), .val (.int uf), .val (.int (f1_0 (1 : Int32) (ua &&& (2147483647 : Int32)))), .val (.int (f1_0 (1 : Int32) (ub &&& (2147483647 : Int32)))), .val (.int (g_1 uf)), .unset, .unset, .unset, .unset, .unset, .unset, .unset] [])) t := by
    intro t kt
    show Steps p.tables e below (T2.setTop (mkF m 26 #[.val (.int ua), .val (.int ub), .val (.int uc), .val (.int ud), .val (.int uf), .val (.int (f1_0 (1 : Int32) (ua &&& (2147483647 : Int32)))), .val (.int (f1_0 (1 : Int32) (ub &&& (2147483647 : Int32)))), .val (.int (g_1 uf)), .unset, .unset, .unset, .unset, .unset, .unset, .unset] [])) _
    refine XS.iload X2.here hx rfl (hb hby at_26) rfl ?_
    show Steps p.tables e below (T2.setTop (mkF m 28 #[.val (.int ua), .val (.int ub), .val (.int uc), .val (.int ud), .val (.int uf), .val (.int (f1_0 (1 : Int32) (ua &&& (2147483647 : Int32)))), .val (.int (f1_0 (1 : Int32) (ub &&& (2147483647 : Int32)))), .val (.int (g_1 uf)), .unset, .unset, .unset, .unset, .unset, .unset, .unset] [(.int uf)])) _
    refine XS.iconst X2.here hx rfl (hb hby at_28) ?_
    show Steps p.tables e below (T2.setTop (mkF m 29 #[.val (.int ua), .val (.int ub), .val (.int uc), .val (.int ud), .val (.int uf), .val (.int (f1_0 (1 : Int32) (ua &&& (2147483647 : Int32)))), .val (.int (f1_0 (1 : Int32) (ub &&& (2147483647 : Int32)))), .val (.int (g_1 uf)), .unset, .unset, .unset, .unset, .unset, .unset, .unset] [(.int (2 : Int32)), (.int uf)])) _
    refine XS.iand X2.here hx rfl (hb hby at_29) rfl ?_
    show Steps p.tables e below (T2.setTop (mkF m 30 #[.val (.int ua), .val (.int ub), .val (.int uc), .val (.int ud), .val (.int uf), .val (.int (f1_0 (1 : Int32) (ua &&& (2147483647 : Int32)))), .val (.int (f1_0 (1 : Int32) (ub &&& (2147483647 : Int32)))), .val (.int (g_1 uf)), .unset, .unset, .unset, .unset, .unset, .unset, .unset] [(.int (uf &&& (2 : Int32)))])) _
    by_cases hc30 : (uf &&& (2 : Int32)) = (0 : Int32)
    · refine XS.ifYes X2.here hx rfl (pc0 := 30) (pc' := 37) rfl (hb hby at_30) rfl ((if0 _ _).trans (teq hc30).1) (by decide) (by decide) ?_
      show Steps p.tables e below (T2.setTop (mkF m 37 #[.val (.int ua), .val (.int ub), .val (.int uc), .val (.int ud), .val (.int uf), .val (.int (f1_0 (1 : Int32) (ua &&& (2147483647 : Int32)))), .val (.int (f1_0 (1 : Int32) (ub &&& (2147483647 : Int32)))), .val (.int (g_1 uf)), .unset, .unset, .unset, .unset, .unset, .unset, .unset] [])) _
      refine XS.iconst X2.here hx rfl (hb hby at_37) ?_
      have hv : g_2 uf = (0 : Int32) := by unfold g_2; rw [if_pos hc30]
      rw [hv] at kt
      exact kt
    · refine XS.ifNo X2.here hx rfl (hb hby at_30) rfl ((if0 _ _).trans (feq hc30).1) ?_
      show Steps p.tables e below (T2.setTop (mkF m 33 #[.val (.int ua), .val (.int ub), .val (.int uc), .val (.int ud), .val (.int uf), .val (.int (f1_0 (1 : Int32) (ua &&& (2147483647 : Int32)))), .val (.int (f1_0 (1 : Int32) (ub &&& (2147483647 : Int32)))), .val (.int (g_1 uf)), .unset, .unset, .unset, .unset, .unset, .unset, .unset] [])) _
      refine XS.iconst X2.here hx rfl (hb hby at_33) ?_
      show Steps p.tables e below (T2.setTop (mkF m 34 #[.val (.int ua), .val (.int ub), .val (.int uc), .val (.int ud), .val (.int uf), .val (.int (f1_0 (1 : Int32) (ua &&& (2147483647 : Int32)))), .val (.int (f1_0 (1 : Int32) (ub &&& (2147483647 : Int32)))), .val (.int (g_1 uf)), .unset, .unset, .unset, .unset, .unset, .unset, .unset] [(.int (1 : Int32))])) _
      refine XS.goto X2.here hx rfl (pc0 := 34) (pc' := 38) rfl (hb hby at_34) (by decide) (by decide) ?_
      have hv : g_2 uf = (1 : Int32) := by unfold g_2; rw [if_neg hc30]
      rw [hv] at kt
      exact kt
  obtain ⟨T4, lo4, l2, X4, e4, N4, p_l2, st4⟩ : ∃ (T' : State) (lo : List Loc) (w : Int32), Stand p l e room_1 s m #[(.int ua), (.int ub), (.int uc), (.int ud), (.int uf)] below meth c T' lo 0 0 ∧ T'.heap = h0 ∧ Fr n0 lo ∧ (¬ w < (1 : Int32)) ∧ ∀ t, Steps p.tables e below (T'.setTop (mkF m 56 #[.val (.int ua), .val (.int ub), .val (.int uc), .val (.int ud), .val (.int uf), .val (.int (f1_0 (1 : Int32) (ua &&& (2147483647 : Int32)))), .val (.int (f1_0 (1 : Int32) (ub &&& (2147483647 : Int32)))), .val (.int (g_1 uf)), .val (.int (g_2 uf)), .val (.int w), .unset, .unset, .unset, .unset, .unset] [])) t → Steps p.tables e below (T2.setTop (mkF m 40 #[.val (.int ua), .val (.int ub), .val (.int uc), .val (.int ud), .val (.int uf), .val (.int (f1_0 (1 : Int32) (ua &&& (2147483647 : Int32)))), .val (.int (f1_0 (1 : Int32) (ub &&& (2147483647 : Int32)))), .val (.int (g_1 uf)), .val (.int (g_2 uf)), .unset, .unset, .unset, .unset, .unset, .unset] [])) t := by
    by_cases hk4 : (g_1 uf) = (0 : Int32)
    · obtain ⟨_, _, ⟨T3, L3, k3, n3⟩, -, X3, ⟨Lc3, hQ3, l3, y3, z3⟩, st3⟩ := Jvm.LawKit.callS X2 hx (y := (⟨"com/example/mintage/mintage/finding/PositionHashCodePinLaw", "positive", "(I)I"⟩ : MethodName)) hown (mvT hZ (hw _ (List.mem_of_getElem? (i := 0) rfl))) (mvT hZ (hw _ (List.mem_of_getElem? (i := 1) rfl))) (mvT hZ (hw _ (List.mem_of_getElem? (i := 2) rfl))) (mvT hZ (hw _ (List.mem_of_getElem? (i := 3) rfl))) (by decide) (backOf (W := 0) (rm2 l Z a0 hw [] uc h0 n0) hZ (hw _ (List.mem_of_getElem? (i := 3) rfl)) (hw _ (List.mem_of_getElem? (i := 2) rfl)) (by decide) (by decide)) (g := (mkF m 51 #[.val (.int ua), .val (.int ub), .val (.int uc), .val (.int ud), .val (.int uf), .val (.int (f1_0 (1 : Int32) (ua &&& (2147483647 : Int32)))), .val (.int (f1_0 (1 : Int32) (ub &&& (2147483647 : Int32)))), .val (.int (g_1 uf)), .val (.int (g_2 uf)), .unset, .unset, .unset, .unset, .unset, .unset] [(.int uc)])) rfl (by rw [hml]; rfl) (argsL := [(.int uc)]) (rest := []) (lenOf pd_1 rfl) rfl (by show 2 * 0 + _ ≤ _; exact Nat.le_of_eq rfl) (hb hby at_51) (fun _ _ => ⟨rfl, e2q, (by decide : 0 + 0 ≤ _), (by decide : 0 + 0 ≤ _)⟩)
      dsimp only [Pt.U, Pt.locs, Pt.cells, Pt.slots] at X3 l3 y3 z3 st3 hQ3
      subst l3 y3 z3
      obtain ⟨rfl, N3q, e3q⟩ := hQ3
      have N3 := Fr.app N2 N3q
      refine ⟨T3, _, (f1_0 (1 : Int32) (uc &&& (2147483647 : Int32))), X3, e3q, N3, own_pos uc, fun t kt => ?_⟩
      show Steps p.tables e below (T2.setTop (mkF m 40 #[.val (.int ua), .val (.int ub), .val (.int uc), .val (.int ud), .val (.int uf), .val (.int (f1_0 (1 : Int32) (ua &&& (2147483647 : Int32)))), .val (.int (f1_0 (1 : Int32) (ub &&& (2147483647 : Int32)))), .val (.int (g_1 uf)), .val (.int (g_2 uf)), .unset, .unset, .unset, .unset, .unset, .unset] [])) _
      refine XS.iload X2.here hx rfl (hb hby at_40) rfl ?_
      show Steps p.tables e below (T2.setTop (mkF m 42 #[.val (.int ua), .val (.int ub), .val (.int uc), .val (.int ud), .val (.int uf), .val (.int (f1_0 (1 : Int32) (ua &&& (2147483647 : Int32)))), .val (.int (f1_0 (1 : Int32) (ub &&& (2147483647 : Int32)))), .val (.int (g_1 uf)), .val (.int (g_2 uf)), .unset, .unset, .unset, .unset, .unset, .unset] [(.int (g_1 uf))])) _
      refine XS.ifYes X2.here hx rfl (pc0 := 42) (pc' := 50) rfl (hb hby at_42) rfl ((if0 _ _).trans (teq hk4).1) (by decide) (by decide) ?_
      show Steps p.tables e below (T2.setTop (mkF m 50 #[.val (.int ua), .val (.int ub), .val (.int uc), .val (.int ud), .val (.int uf), .val (.int (f1_0 (1 : Int32) (ua &&& (2147483647 : Int32)))), .val (.int (f1_0 (1 : Int32) (ub &&& (2147483647 : Int32)))), .val (.int (g_1 uf)), .val (.int (g_2 uf)), .unset, .unset, .unset, .unset, .unset, .unset] [])) _
      refine XS.iloadN X2.here hx rfl (hb hby at_50) rfl ?_
      show Steps p.tables e below (T2.setTop (mkF m 51 #[.val (.int ua), .val (.int ub), .val (.int uc), .val (.int ud), .val (.int uf), .val (.int (f1_0 (1 : Int32) (ua &&& (2147483647 : Int32)))), .val (.int (f1_0 (1 : Int32) (ub &&& (2147483647 : Int32)))), .val (.int (g_1 uf)), .val (.int (g_2 uf)), .unset, .unset, .unset, .unset, .unset, .unset] [(.int uc)])) _
      refine st3 _ ?_
      show Steps p.tables e below (T3.setTop (mkF m 54 #[.val (.int ua), .val (.int ub), .val (.int uc), .val (.int ud), .val (.int uf), .val (.int (f1_0 (1 : Int32) (ua &&& (2147483647 : Int32)))), .val (.int (f1_0 (1 : Int32) (ub &&& (2147483647 : Int32)))), .val (.int (g_1 uf)), .val (.int (g_2 uf)), .unset, .unset, .unset, .unset, .unset, .unset] [(.int (f1_0 (1 : Int32) (uc &&& (2147483647 : Int32))))])) _
      refine XS.istore X3.here hx rfl (hb hby at_54) rfl (l' := #[.val (.int ua), .val (.int ub), .val (.int uc), .val (.int ud), .val (.int uf), .val (.int (f1_0 (1 : Int32) (ua &&& (2147483647 : Int32)))), .val (.int (f1_0 (1 : Int32) (ub &&& (2147483647 : Int32)))), .val (.int (g_1 uf)), .val (.int (g_2 uf)), .val (.int (f1_0 (1 : Int32) (uc &&& (2147483647 : Int32)))), .unset, .unset, .unset, .unset, .unset]) rfl ?_
      show Steps p.tables e below (T3.setTop (mkF m 56 #[.val (.int ua), .val (.int ub), .val (.int uc), .val (.int ud), .val (.int uf), .val (.int (f1_0 (1 : Int32) (ua &&& (2147483647 : Int32)))), .val (.int (f1_0 (1 : Int32) (ub &&& (2147483647 : Int32)))), .val (.int (g_1 uf)), .val (.int (g_2 uf)), .val (.int (f1_0 (1 : Int32) (uc &&& (2147483647 : Int32)))), .unset, .unset, .unset, .unset, .unset] [])) _
      exact kt
    · refine ⟨T2, _, (f1_0 (1 : Int32) (ua &&& (2147483647 : Int32))), X2, e2q, N2, own_pos ua, fun t kt => ?_⟩
      show Steps p.tables e below (T2.setTop (mkF m 40 #[.val (.int ua), .val (.int ub), .val (.int uc), .val (.int ud), .val (.int uf), .val (.int (f1_0 (1 : Int32) (ua &&& (2147483647 : Int32)))), .val (.int (f1_0 (1 : Int32) (ub &&& (2147483647 : Int32)))), .val (.int (g_1 uf)), .val (.int (g_2 uf)), .unset, .unset, .unset, .unset, .unset, .unset] [])) _
      refine XS.iload X2.here hx rfl (hb hby at_40) rfl ?_
      show Steps p.tables e below (T2.setTop (mkF m 42 #[.val (.int ua), .val (.int ub), .val (.int uc), .val (.int ud), .val (.int uf), .val (.int (f1_0 (1 : Int32) (ua &&& (2147483647 : Int32)))), .val (.int (f1_0 (1 : Int32) (ub &&& (2147483647 : Int32)))), .val (.int (g_1 uf)), .val (.int (g_2 uf)), .unset, .unset, .unset, .unset, .unset, .unset] [(.int (g_1 uf))])) _
      refine XS.ifNo X2.here hx rfl (hb hby at_42) rfl ((if0 _ _).trans (feq hk4).1) ?_
      show Steps p.tables e below (T2.setTop (mkF m 45 #[.val (.int ua), .val (.int ub), .val (.int uc), .val (.int ud), .val (.int uf), .val (.int (f1_0 (1 : Int32) (ua &&& (2147483647 : Int32)))), .val (.int (f1_0 (1 : Int32) (ub &&& (2147483647 : Int32)))), .val (.int (g_1 uf)), .val (.int (g_2 uf)), .unset, .unset, .unset, .unset, .unset, .unset] [])) _
      refine XS.iload X2.here hx rfl (hb hby at_45) rfl ?_
      show Steps p.tables e below (T2.setTop (mkF m 47 #[.val (.int ua), .val (.int ub), .val (.int uc), .val (.int ud), .val (.int uf), .val (.int (f1_0 (1 : Int32) (ua &&& (2147483647 : Int32)))), .val (.int (f1_0 (1 : Int32) (ub &&& (2147483647 : Int32)))), .val (.int (g_1 uf)), .val (.int (g_2 uf)), .unset, .unset, .unset, .unset, .unset, .unset] [(.int (f1_0 (1 : Int32) (ua &&& (2147483647 : Int32))))])) _
      refine XS.goto X2.here hx rfl (pc0 := 47) (pc' := 54) rfl (hb hby at_47) (by decide) (by decide) ?_
      show Steps p.tables e below (T2.setTop (mkF m 54 #[.val (.int ua), .val (.int ub), .val (.int uc), .val (.int ud), .val (.int uf), .val (.int (f1_0 (1 : Int32) (ua &&& (2147483647 : Int32)))), .val (.int (f1_0 (1 : Int32) (ub &&& (2147483647 : Int32)))), .val (.int (g_1 uf)), .val (.int (g_2 uf)), .unset, .unset, .unset, .unset, .unset, .unset] [(.int (f1_0 (1 : Int32) (ua &&& (2147483647 : Int32))))])) _
      refine XS.istore X2.here hx rfl (hb hby at_54) rfl (l' := #[.val (.int ua), .val (.int ub), .val (.int uc), .val (.int ud), .val (.int uf), .val (.int (f1_0 (1 : Int32) (ua &&& (2147483647 : Int32)))), .val (.int (f1_0 (1 : Int32) (ub &&& (2147483647 : Int32)))), .val (.int (g_1 uf)), .val (.int (g_2 uf)), .val (.int (f1_0 (1 : Int32) (ua &&& (2147483647 : Int32)))), .unset, .unset, .unset, .unset, .unset]) rfl ?_
      show Steps p.tables e below (T2.setTop (mkF m 56 #[.val (.int ua), .val (.int ub), .val (.int uc), .val (.int ud), .val (.int uf), .val (.int (f1_0 (1 : Int32) (ua &&& (2147483647 : Int32)))), .val (.int (f1_0 (1 : Int32) (ub &&& (2147483647 : Int32)))), .val (.int (g_1 uf)), .val (.int (g_2 uf)), .val (.int (f1_0 (1 : Int32) (ua &&& (2147483647 : Int32)))), .unset, .unset, .unset, .unset, .unset] [])) _
      exact kt
  obtain ⟨T6, lo6, c2, X6, e6, N6, p_c2, st6⟩ : ∃ (T' : State) (lo : List Loc) (w : Int32), Stand p l e room_1 s m #[(.int ua), (.int ub), (.int uc), (.int ud), (.int uf)] below meth c T' lo 0 0 ∧ T'.heap = h0 ∧ Fr n0 lo ∧ (¬ w < (1 : Int32)) ∧ ∀ t, Steps p.tables e below (T'.setTop (mkF m 72 #[.val (.int ua), .val (.int ub), .val (.int uc), .val (.int ud), .val (.int uf), .val (.int (f1_0 (1 : Int32) (ua &&& (2147483647 : Int32)))), .val (.int (f1_0 (1 : Int32) (ub &&& (2147483647 : Int32)))), .val (.int (g_1 uf)), .val (.int (g_2 uf)), .val (.int l2), .val (.int w), .unset, .unset, .unset, .unset] [])) t → Steps p.tables e below (T4.setTop (mkF m 56 #[.val (.int ua), .val (.int ub), .val (.int uc), .val (.int ud), .val (.int uf), .val (.int (f1_0 (1 : Int32) (ua &&& (2147483647 : Int32)))), .val (.int (f1_0 (1 : Int32) (ub &&& (2147483647 : Int32)))), .val (.int (g_1 uf)), .val (.int (g_2 uf)), .val (.int l2), .unset, .unset, .unset, .unset, .unset] [])) t := by
    by_cases hk6 : (g_2 uf) = (0 : Int32)
    · obtain ⟨_, _, ⟨T5, L5, k5, n5⟩, -, X5, ⟨Lc5, hQ5, l5, y5, z5⟩, st5⟩ := Jvm.LawKit.callS X4 hx (y := (⟨"com/example/mintage/mintage/finding/PositionHashCodePinLaw", "positive", "(I)I"⟩ : MethodName)) hown (mvT hZ (hw _ (List.mem_of_getElem? (i := 0) rfl))) (mvT hZ (hw _ (List.mem_of_getElem? (i := 1) rfl))) (mvT hZ (hw _ (List.mem_of_getElem? (i := 2) rfl))) (mvT hZ (hw _ (List.mem_of_getElem? (i := 3) rfl))) (by decide) (backOf (W := 0) (rm2 l Z a0 hw [] ud h0 n0) hZ (hw _ (List.mem_of_getElem? (i := 3) rfl)) (hw _ (List.mem_of_getElem? (i := 2) rfl)) (by decide) (by decide)) (g := (mkF m 67 #[.val (.int ua), .val (.int ub), .val (.int uc), .val (.int ud), .val (.int uf), .val (.int (f1_0 (1 : Int32) (ua &&& (2147483647 : Int32)))), .val (.int (f1_0 (1 : Int32) (ub &&& (2147483647 : Int32)))), .val (.int (g_1 uf)), .val (.int (g_2 uf)), .val (.int l2), .unset, .unset, .unset, .unset, .unset] [(.int ud)])) rfl (by rw [hml]; rfl) (argsL := [(.int ud)]) (rest := []) (lenOf pd_1 rfl) rfl (by show 2 * 0 + _ ≤ _; exact Nat.le_of_eq rfl) (hb hby at_67) (fun _ _ => ⟨rfl, e4, (by decide : 0 + 0 ≤ _), (by decide : 0 + 0 ≤ _)⟩)
      dsimp only [Pt.U, Pt.locs, Pt.cells, Pt.slots] at X5 l5 y5 z5 st5 hQ5
      subst l5 y5 z5
      obtain ⟨rfl, N5q, e5q⟩ := hQ5
      have N5 := Fr.app N4 N5q
      refine ⟨T5, _, (f1_0 (1 : Int32) (ud &&& (2147483647 : Int32))), X5, e5q, N5, own_pos ud, fun t kt => ?_⟩
      show Steps p.tables e below (T4.setTop (mkF m 56 #[.val (.int ua), .val (.int ub), .val (.int uc), .val (.int ud), .val (.int uf), .val (.int (f1_0 (1 : Int32) (ua &&& (2147483647 : Int32)))), .val (.int (f1_0 (1 : Int32) (ub &&& (2147483647 : Int32)))), .val (.int (g_1 uf)), .val (.int (g_2 uf)), .val (.int l2), .unset, .unset, .unset, .unset, .unset] [])) _
      refine XS.iload X4.here hx rfl (hb hby at_56) rfl ?_
      show Steps p.tables e below (T4.setTop (mkF m 58 #[.val (.int ua), .val (.int ub), .val (.int uc), .val (.int ud), .val (.int uf), .val (.int (f1_0 (1 : Int32) (ua &&& (2147483647 : Int32)))), .val (.int (f1_0 (1 : Int32) (ub &&& (2147483647 : Int32)))), .val (.int (g_1 uf)), .val (.int (g_2 uf)), .val (.int l2), .unset, .unset, .unset, .unset, .unset] [(.int (g_2 uf))])) _
      refine XS.ifYes X4.here hx rfl (pc0 := 58) (pc' := 66) rfl (hb hby at_58) rfl ((if0 _ _).trans (teq hk6).1) (by decide) (by decide) ?_
      show Steps p.tables e below (T4.setTop (mkF m 66 #[.val (.int ua), .val (.int ub), .val (.int uc), .val (.int ud), .val (.int uf), .val (.int (f1_0 (1 : Int32) (ua &&& (2147483647 : Int32)))), .val (.int (f1_0 (1 : Int32) (ub &&& (2147483647 : Int32)))), .val (.int (g_1 uf)), .val (.int (g_2 uf)), .val (.int l2), .unset, .unset, .unset, .unset, .unset] [])) _
      refine XS.iloadN X4.here hx rfl (hb hby at_66) rfl ?_
      show Steps p.tables e below (T4.setTop (mkF m 67 #[.val (.int ua), .val (.int ub), .val (.int uc), .val (.int ud), .val (.int uf), .val (.int (f1_0 (1 : Int32) (ua &&& (2147483647 : Int32)))), .val (.int (f1_0 (1 : Int32) (ub &&& (2147483647 : Int32)))), .val (.int (g_1 uf)), .val (.int (g_2 uf)), .val (.int l2), .unset, .unset, .unset, .unset, .unset] [(.int ud)])) _
      refine st5 _ ?_
      show Steps p.tables e below (T5.setTop (mkF m 70 #[.val (.int ua), .val (.int ub), .val (.int uc), .val (.int ud), .val (.int uf), .val (.int (f1_0 (1 : Int32) (ua &&& (2147483647 : Int32)))), .val (.int (f1_0 (1 : Int32) (ub &&& (2147483647 : Int32)))), .val (.int (g_1 uf)), .val (.int (g_2 uf)), .val (.int l2), .unset, .unset, .unset, .unset, .unset] [(.int (f1_0 (1 : Int32) (ud &&& (2147483647 : Int32))))])) _
      refine XS.istore X5.here hx rfl (hb hby at_70) rfl (l' := #[.val (.int ua), .val (.int ub), .val (.int uc), .val (.int ud), .val (.int uf), .val (.int (f1_0 (1 : Int32) (ua &&& (2147483647 : Int32)))), .val (.int (f1_0 (1 : Int32) (ub &&& (2147483647 : Int32)))), .val (.int (g_1 uf)), .val (.int (g_2 uf)), .val (.int l2), .val (.int (f1_0 (1 : Int32) (ud &&& (2147483647 : Int32)))), .unset, .unset, .unset, .unset]) rfl ?_
      show Steps p.tables e below (T5.setTop (mkF m 72 #[.val (.int ua), .val (.int ub), .val (.int uc), .val (.int ud), .val (.int uf), .val (.int (f1_0 (1 : Int32) (ua &&& (2147483647 : Int32)))), .val (.int (f1_0 (1 : Int32) (ub &&& (2147483647 : Int32)))), .val (.int (g_1 uf)), .val (.int (g_2 uf)), .val (.int l2), .val (.int (f1_0 (1 : Int32) (ud &&& (2147483647 : Int32)))), .unset, .unset, .unset, .unset] [])) _
      exact kt
    · refine ⟨T4, _, (f1_0 (1 : Int32) (ub &&& (2147483647 : Int32))), X4, e4, N4, own_pos ub, fun t kt => ?_⟩
      show Steps p.tables e below (T4.setTop (mkF m 56 #[.val (.int ua), .val (.int ub), .val (.int uc), .val (.int ud), .val (.int uf), .val (.int (f1_0 (1 : Int32) (ua &&& (2147483647 : Int32)))), .val (.int (f1_0 (1 : Int32) (ub &&& (2147483647 : Int32)))), .val (.int (g_1 uf)), .val (.int (g_2 uf)), .val (.int l2), .unset, .unset, .unset, .unset, .unset] [])) _
      refine XS.iload X4.here hx rfl (hb hby at_56) rfl ?_
      show Steps p.tables e below (T4.setTop (mkF m 58 #[.val (.int ua), .val (.int ub), .val (.int uc), .val (.int ud), .val (.int uf), .val (.int (f1_0 (1 : Int32) (ua &&& (2147483647 : Int32)))), .val (.int (f1_0 (1 : Int32) (ub &&& (2147483647 : Int32)))), .val (.int (g_1 uf)), .val (.int (g_2 uf)), .val (.int l2), .unset, .unset, .unset, .unset, .unset] [(.int (g_2 uf))])) _
      refine XS.ifNo X4.here hx rfl (hb hby at_58) rfl ((if0 _ _).trans (feq hk6).1) ?_
      show Steps p.tables e below (T4.setTop (mkF m 61 #[.val (.int ua), .val (.int ub), .val (.int uc), .val (.int ud), .val (.int uf), .val (.int (f1_0 (1 : Int32) (ua &&& (2147483647 : Int32)))), .val (.int (f1_0 (1 : Int32) (ub &&& (2147483647 : Int32)))), .val (.int (g_1 uf)), .val (.int (g_2 uf)), .val (.int l2), .unset, .unset, .unset, .unset, .unset] [])) _
      refine XS.iload X4.here hx rfl (hb hby at_61) rfl ?_
      show Steps p.tables e below (T4.setTop (mkF m 63 #[.val (.int ua), .val (.int ub), .val (.int uc), .val (.int ud), .val (.int uf), .val (.int (f1_0 (1 : Int32) (ua &&& (2147483647 : Int32)))), .val (.int (f1_0 (1 : Int32) (ub &&& (2147483647 : Int32)))), .val (.int (g_1 uf)), .val (.int (g_2 uf)), .val (.int l2), .unset, .unset, .unset, .unset, .unset] [(.int (f1_0 (1 : Int32) (ub &&& (2147483647 : Int32))))])) _
      refine XS.goto X4.here hx rfl (pc0 := 63) (pc' := 70) rfl (hb hby at_63) (by decide) (by decide) ?_
      show Steps p.tables e below (T4.setTop (mkF m 70 #[.val (.int ua), .val (.int ub), .val (.int uc), .val (.int ud), .val (.int uf), .val (.int (f1_0 (1 : Int32) (ua &&& (2147483647 : Int32)))), .val (.int (f1_0 (1 : Int32) (ub &&& (2147483647 : Int32)))), .val (.int (g_1 uf)), .val (.int (g_2 uf)), .val (.int l2), .unset, .unset, .unset, .unset, .unset] [(.int (f1_0 (1 : Int32) (ub &&& (2147483647 : Int32))))])) _
      refine XS.istore X4.here hx rfl (hb hby at_70) rfl (l' := #[.val (.int ua), .val (.int ub), .val (.int uc), .val (.int ud), .val (.int uf), .val (.int (f1_0 (1 : Int32) (ua &&& (2147483647 : Int32)))), .val (.int (f1_0 (1 : Int32) (ub &&& (2147483647 : Int32)))), .val (.int (g_1 uf)), .val (.int (g_2 uf)), .val (.int l2), .val (.int (f1_0 (1 : Int32) (ub &&& (2147483647 : Int32)))), .unset, .unset, .unset, .unset]) rfl ?_
      show Steps p.tables e below (T4.setTop (mkF m 72 #[.val (.int ua), .val (.int ub), .val (.int uc), .val (.int ud), .val (.int uf), .val (.int (f1_0 (1 : Int32) (ua &&& (2147483647 : Int32)))), .val (.int (f1_0 (1 : Int32) (ub &&& (2147483647 : Int32)))), .val (.int (g_1 uf)), .val (.int (g_2 uf)), .val (.int l2), .val (.int (f1_0 (1 : Int32) (ub &&& (2147483647 : Int32)))), .unset, .unset, .unset, .unset] [])) _
      exact kt
  obtain ⟨T7, h7, X7, e7, E7, E_oa, D7, -, st7⟩ := newO X6 hx hZ hown (hw _ (List.mem_of_getElem? (i := 9) rfl)) (hw _ (List.mem_of_getElem? (i := 10) rfl)) (hw _ (List.mem_of_getElem? (i := 11) rfl)) e6 (g := (mkF m 72 #[.val (.int ua), .val (.int ub), .val (.int uc), .val (.int ud), .val (.int uf), .val (.int (f1_0 (1 : Int32) (ua &&& (2147483647 : Int32)))), .val (.int (f1_0 (1 : Int32) (ub &&& (2147483647 : Int32)))), .val (.int (g_1 uf)), .val (.int (g_2 uf)), .val (.int l2), .val (.int c2), .unset, .unset, .unset, .unset] [])) rfl (hb hby at_72) (by decide) (by decide)
  obtain ⟨oa, sz_oa⟩ : ∃ z, z = h0.size := ⟨_, rfl⟩
  rw [← sz_oa] at E_oa D7 st7
  have F_line_oa : Fld Z h7 oa "com/example/mintage/mintage/finding/Position" "line" "I" (.int (0 : Int32)) := D7 (Or.inr (hw _ (List.mem_of_getElem? (i := 19) rfl))) (ty := .int) (by decide)
  have F_column_oa : Fld Z h7 oa "com/example/mintage/mintage/finding/Position" "column" "I" (.int (0 : Int32)) := D7 (Or.inr (hw _ (List.mem_of_getElem? (i := 21) rfl))) (ty := .int) (by decide)
  have g_oa : n0 ≤ oa := Nat.le_trans Z0 (Nat.le_of_eq sz_oa.symm)
  have Zp8 : n0 ≤ h7.size := Nat.le_trans Z0 E7.1
  obtain ⟨_, _, ⟨T9, L9, k9, n9⟩, -, X9, ⟨Lc9, hQ9, l9, y9, z9⟩, st9⟩ := X7.specialBack hx (y := (⟨"com/example/mintage/mintage/finding/Position", "<init>", "(II)V"⟩ : MethodName)) rfl hown (mvT hZ (hw _ (List.mem_of_getElem? (i := 12) rfl))) (mvT hZ (hw _ (List.mem_of_getElem? (i := 13) rfl))) (mvT hZ (hw _ (List.mem_of_getElem? (i := 14) rfl))) (by decide) (backOf (W := 1) (rm3 l Z a0 hw [] oa (f1_0 (1 : Int32) (ua &&& (2147483647 : Int32))) (f1_0 (1 : Int32) (ub &&& (2147483647 : Int32))) h7 n0 F_line_oa F_column_oa E_oa g_oa (own_pos ua) (own_pos ub)) hZ (hw _ (List.mem_of_getElem? (i := 14) rfl)) (hw _ (List.mem_of_getElem? (i := 11) rfl)) (by decide) (by decide)) (g := (mkF m 80 #[.val (.int ua), .val (.int ub), .val (.int uc), .val (.int ud), .val (.int uf), .val (.int (f1_0 (1 : Int32) (ua &&& (2147483647 : Int32)))), .val (.int (f1_0 (1 : Int32) (ub &&& (2147483647 : Int32)))), .val (.int (g_1 uf)), .val (.int (g_2 uf)), .val (.int l2), .val (.int c2), .unset, .unset, .unset, .unset] [(.int (f1_0 (1 : Int32) (ub &&& (2147483647 : Int32)))), (.int (f1_0 (1 : Int32) (ua &&& (2147483647 : Int32)))), (.ref oa), (.ref oa)])) rfl (by rw [hml]; rfl) (Steps.refl _) (a := oa) (argsL := [(.int (f1_0 (1 : Int32) (ua &&& (2147483647 : Int32)))), (.int (f1_0 (1 : Int32) (ub &&& (2147483647 : Int32))))]) (rest := [(.ref oa)]) (lenOf pd_2 rfl) rfl (by show 2 * 0 + _ ≤ _; exact Nat.le_of_eq rfl) (hb hby at_80) (fun _ _ => ⟨rfl, e7, (by decide : 1 + 0 ≤ _), (by decide : 2 + 0 ≤ _)⟩)
  dsimp only [Pt.U, Pt.locs, Pt.cells, Pt.slots] at X9 l9 y9 z9 st9 hQ9
  subst l9 y9 z9
  obtain ⟨rfl, N9q, K9, Ea9, Fl9, Fc9⟩ := hQ9
  have N9 := Fr.app N6 N9q
  have Zp10 : n0 ≤ T9.heap.size := Nat.le_trans Zp8 K9.1
  obtain ⟨T11, h11, X11, e11, E11, E_ob, D11, -, st11⟩ := newO X9 hx hZ hown (hw _ (List.mem_of_getElem? (i := 9) rfl)) (hw _ (List.mem_of_getElem? (i := 10) rfl)) (hw _ (List.mem_of_getElem? (i := 11) rfl)) rfl (g := (mkF m 85 #[.val (.int ua), .val (.int ub), .val (.int uc), .val (.int ud), .val (.int uf), .val (.int (f1_0 (1 : Int32) (ua &&& (2147483647 : Int32)))), .val (.int (f1_0 (1 : Int32) (ub &&& (2147483647 : Int32)))), .val (.int (g_1 uf)), .val (.int (g_2 uf)), .val (.int l2), .val (.int c2), .val (.ref oa), .unset, .unset, .unset] [])) rfl (hb hby at_85) (by decide) (by decide)
  obtain ⟨ob, sz_ob⟩ : ∃ z, z = T9.heap.size := ⟨_, rfl⟩
  rw [← sz_ob] at E_ob D11 st11
  have F_line_ob : Fld Z h11 ob "com/example/mintage/mintage/finding/Position" "line" "I" (.int (0 : Int32)) := D11 (Or.inr (hw _ (List.mem_of_getElem? (i := 19) rfl))) (ty := .int) (by decide)
  have F_column_ob : Fld Z h11 ob "com/example/mintage/mintage/finding/Position" "column" "I" (.int (0 : Int32)) := D11 (Or.inr (hw _ (List.mem_of_getElem? (i := 21) rfl))) (ty := .int) (by decide)
  have g_ob : n0 ≤ ob := Nat.le_trans Zp10 (Nat.le_of_eq sz_ob.symm)
  have Zp12 : n0 ≤ h11.size := Nat.le_trans Zp10 E11.1
  have Ea2 := Ea9.ext E11
  have Fl2 := Fl9.ext E11
  have Fc2 := Fc9.ext E11
  have nab : oa ≠ ob := Nat.ne_of_lt (Nat.lt_of_lt_of_le Ea9.lt (Nat.le_of_eq sz_ob.symm))
  obtain ⟨_, _, ⟨T13, L13, k13, n13⟩, -, X13, ⟨Lc13, hQ13, l13, y13, z13⟩, st13⟩ := X11.specialBack hx (y := (⟨"com/example/mintage/mintage/finding/Position", "<init>", "(II)V"⟩ : MethodName)) rfl hown (mvT hZ (hw _ (List.mem_of_getElem? (i := 12) rfl))) (mvT hZ (hw _ (List.mem_of_getElem? (i := 13) rfl))) (mvT hZ (hw _ (List.mem_of_getElem? (i := 14) rfl))) (by decide) (backOf (W := 1) (rm3 l Z a0 hw [] ob l2 c2 h11 n0 F_line_ob F_column_ob E_ob g_ob p_l2 p_c2) hZ (hw _ (List.mem_of_getElem? (i := 14) rfl)) (hw _ (List.mem_of_getElem? (i := 11) rfl)) (by decide) (by decide)) (g := (mkF m 93 #[.val (.int ua), .val (.int ub), .val (.int uc), .val (.int ud), .val (.int uf), .val (.int (f1_0 (1 : Int32) (ua &&& (2147483647 : Int32)))), .val (.int (f1_0 (1 : Int32) (ub &&& (2147483647 : Int32)))), .val (.int (g_1 uf)), .val (.int (g_2 uf)), .val (.int l2), .val (.int c2), .val (.ref oa), .unset, .unset, .unset] [(.int c2), (.int l2), (.ref ob), (.ref ob)])) rfl (by rw [hml]; rfl) (Steps.refl _) (a := ob) (argsL := [(.int l2), (.int c2)]) (rest := [(.ref ob)]) (lenOf pd_2 rfl) rfl (by show 2 * 0 + _ ≤ _; exact Nat.le_of_eq rfl) (hb hby at_93) (fun _ _ => ⟨rfl, e11, (by decide : 2 + 0 ≤ _), (by decide : 4 + 0 ≤ _)⟩)
  dsimp only [Pt.U, Pt.locs, Pt.cells, Pt.slots] at X13 l13 y13 z13 st13 hQ13
  subst l13 y13 z13
  obtain ⟨rfl, N13q, K13, Eb13, Gl13, Gc13⟩ := hQ13
  have N13 := Fr.app N9 N13q
  have Zp14 : n0 ≤ T13.heap.size := Nat.le_trans Zp12 K13.1
  have Ea3 := Ea2.keep K13
  have Fl3 := Fl2.keep K13 (ninS nab nin0)
  have Fc3 := Fc2.keep K13 (ninS nab nin0)
  obtain ⟨cq15, kq15, q15a, q15b, q15c⟩ := isOf hZ rfl Ea3
  obtain ⟨_, _, ⟨T15, L15, k15, n15⟩, -, X15, ⟨Lc15, hQ15, l15, y15, z15⟩, st15⟩ := X13.virtualBack hx (y := (⟨"com/example/mintage/mintage/finding/Position", "hashCode", "()I"⟩ : MethodName)) (z := (⟨"com/example/mintage/mintage/finding/Position", "hashCode", "()I"⟩ : MethodName)) hown (mvT hZ (hw _ (List.mem_of_getElem? (i := 22) rfl))) (mvT hZ (hw _ (List.mem_of_getElem? (i := 23) rfl))) (notFace_of_selects (args := #[]) (mvT hZ (hw _ (List.mem_of_getElem? (i := 25) rfl)))) (mvT hZ (hw _ (List.mem_of_getElem? (i := 25) rfl))) (mvT hZ (hw _ (List.mem_of_getElem? (i := 24) rfl))) (by decide) (backOf (W := 0) (rm4 l Z a0 hw [] oa (f1_0 (1 : Int32) (ua &&& (2147483647 : Int32))) (f1_0 (1 : Int32) (ub &&& (2147483647 : Int32))) T13.heap n0 Fl3 Fc3) hZ (hw _ (List.mem_of_getElem? (i := 26) rfl)) (hw _ (List.mem_of_getElem? (i := 11) rfl)) (by decide) (by decide)) q15a q15c (g := (mkF m 100 #[.val (.int ua), .val (.int ub), .val (.int uc), .val (.int ud), .val (.int uf), .val (.int (f1_0 (1 : Int32) (ua &&& (2147483647 : Int32)))), .val (.int (f1_0 (1 : Int32) (ub &&& (2147483647 : Int32)))), .val (.int (g_1 uf)), .val (.int (g_2 uf)), .val (.int l2), .val (.int c2), .val (.ref oa), .val (.ref ob), .unset, .unset] [(.ref oa)])) rfl (by rw [hml]; rfl) (Steps.refl _) (argsL := []) (rest := []) (lenOf pd_3 rfl) rfl (by show 2 * 0 + _ ≤ _; exact Nat.le_of_eq rfl) (hb hby at_100) (fun _ _ => ⟨rfl, rfl, (by decide : 2 + 0 ≤ _), (by decide : 4 + 0 ≤ _)⟩)
  dsimp only [Pt.U, Pt.locs, Pt.cells, Pt.slots] at X15 l15 y15 z15 st15 hQ15
  subst l15 y15 z15
  obtain ⟨rfl, N15q, e15q⟩ := hQ15
  have N15 := Fr.app N13 N15q
  obtain ⟨cq16, kq16, q16a, q16b, q16c⟩ := isOf hZ e15q Eb13
  obtain ⟨_, _, ⟨T16, L16, k16, n16⟩, -, X16, ⟨Lc16, hQ16, l16, y16, z16⟩, st16⟩ := X15.virtualBack hx (y := (⟨"com/example/mintage/mintage/finding/Position", "hashCode", "()I"⟩ : MethodName)) (z := (⟨"com/example/mintage/mintage/finding/Position", "hashCode", "()I"⟩ : MethodName)) hown (mvT hZ (hw _ (List.mem_of_getElem? (i := 22) rfl))) (mvT hZ (hw _ (List.mem_of_getElem? (i := 23) rfl))) (notFace_of_selects (args := #[]) (mvT hZ (hw _ (List.mem_of_getElem? (i := 25) rfl)))) (mvT hZ (hw _ (List.mem_of_getElem? (i := 25) rfl))) (mvT hZ (hw _ (List.mem_of_getElem? (i := 24) rfl))) (by decide) (backOf (W := 0) (rm4 l Z a0 hw [] ob l2 c2 T13.heap n0 Gl13 Gc13) hZ (hw _ (List.mem_of_getElem? (i := 26) rfl)) (hw _ (List.mem_of_getElem? (i := 11) rfl)) (by decide) (by decide)) q16a q16c (g := (mkF m 107 #[.val (.int ua), .val (.int ub), .val (.int uc), .val (.int ud), .val (.int uf), .val (.int (f1_0 (1 : Int32) (ua &&& (2147483647 : Int32)))), .val (.int (f1_0 (1 : Int32) (ub &&& (2147483647 : Int32)))), .val (.int (g_1 uf)), .val (.int (g_2 uf)), .val (.int l2), .val (.int c2), .val (.ref oa), .val (.ref ob), .val (.int (((31 : Int32) * (f1_0 (1 : Int32) (ua &&& (2147483647 : Int32)))) + (f1_0 (1 : Int32) (ub &&& (2147483647 : Int32))))), .unset] [(.ref ob)])) rfl (by rw [hml]; rfl) (Steps.refl _) (argsL := []) (rest := []) (lenOf pd_3 rfl) rfl (by show 2 * 0 + _ ≤ _; exact Nat.le_of_eq rfl) (hb hby at_107) (fun _ _ => ⟨rfl, e15q, (by decide : 2 + 0 ≤ _), (by decide : 4 + 0 ≤ _)⟩)
  dsimp only [Pt.U, Pt.locs, Pt.cells, Pt.slots] at X16 l16 y16 z16 st16 hQ16
  subst l16 y16 z16
  obtain ⟨rfl, N16q, e16q⟩ := hQ16
  have N16 := Fr.app N15 N16q
  obtain ⟨cq17, kq17, q17a, q17b, q17c⟩ := isOf hZ e16q Ea3
  obtain ⟨_, _, ⟨T17, L17, k17, n17⟩, -, X17, ⟨Lc17, hQ17, l17, y17, z17⟩, st17⟩ := X16.virtualBack hx (y := (⟨"com/example/mintage/mintage/finding/Position", "hashCode", "()I"⟩ : MethodName)) (z := (⟨"com/example/mintage/mintage/finding/Position", "hashCode", "()I"⟩ : MethodName)) hown (mvT hZ (hw _ (List.mem_of_getElem? (i := 22) rfl))) (mvT hZ (hw _ (List.mem_of_getElem? (i := 23) rfl))) (notFace_of_selects (args := #[]) (mvT hZ (hw _ (List.mem_of_getElem? (i := 25) rfl)))) (mvT hZ (hw _ (List.mem_of_getElem? (i := 25) rfl))) (mvT hZ (hw _ (List.mem_of_getElem? (i := 24) rfl))) (by decide) (backOf (W := 1) (rm4 l Z a0 hw [] oa (f1_0 (1 : Int32) (ua &&& (2147483647 : Int32))) (f1_0 (1 : Int32) (ub &&& (2147483647 : Int32))) T13.heap n0 Fl3 Fc3) hZ (hw _ (List.mem_of_getElem? (i := 26) rfl)) (hw _ (List.mem_of_getElem? (i := 11) rfl)) (by decide) (by decide)) q17a q17c (g := (mkF m 116 #[.val (.int ua), .val (.int ub), .val (.int uc), .val (.int ud), .val (.int uf), .val (.int (f1_0 (1 : Int32) (ua &&& (2147483647 : Int32)))), .val (.int (f1_0 (1 : Int32) (ub &&& (2147483647 : Int32)))), .val (.int (g_1 uf)), .val (.int (g_2 uf)), .val (.int l2), .val (.int c2), .val (.ref oa), .val (.ref ob), .val (.int (((31 : Int32) * (f1_0 (1 : Int32) (ua &&& (2147483647 : Int32)))) + (f1_0 (1 : Int32) (ub &&& (2147483647 : Int32))))), .val (.int (((31 : Int32) * l2) + c2))] [(.ref oa), (.int (((31 : Int32) * (f1_0 (1 : Int32) (ua &&& (2147483647 : Int32)))) + (f1_0 (1 : Int32) (ub &&& (2147483647 : Int32)))))])) rfl (by rw [hml]; rfl) (Steps.refl _) (argsL := []) (rest := [(.int (((31 : Int32) * (f1_0 (1 : Int32) (ua &&& (2147483647 : Int32)))) + (f1_0 (1 : Int32) (ub &&& (2147483647 : Int32)))))]) (lenOf pd_3 rfl) rfl (by show 2 * 0 + _ ≤ _; exact Nat.le_of_eq rfl) (hb hby at_116) (fun _ _ => ⟨rfl, e16q, (by decide : 2 + 0 ≤ _), (by decide : 4 + 0 ≤ _)⟩)
  dsimp only [Pt.U, Pt.locs, Pt.cells, Pt.slots] at X17 l17 y17 z17 st17 hQ17
  subst l17 y17 z17
  obtain ⟨rfl, N17q, e17q⟩ := hQ17
  have N17 := Fr.app N16 N17q
  obtain ⟨cq18, kq18, q18a, q18b, q18c⟩ := isOf hZ e17q Ea3
  obtain ⟨_, _, ⟨T18, L18, k18, n18⟩, -, X18, ⟨Lc18, hQ18, l18, y18, z18⟩, st18⟩ := X17.virtualBack hx (y := (⟨"com/example/mintage/mintage/finding/Position", "equals", "(Ljava/lang/Object;)Z"⟩ : MethodName)) (z := (⟨"com/example/mintage/mintage/finding/Position", "equals", "(Ljava/lang/Object;)Z"⟩ : MethodName)) hown (mvT hZ (hw _ (List.mem_of_getElem? (i := 27) rfl))) (mvT hZ (hw _ (List.mem_of_getElem? (i := 28) rfl))) (notFace_of_selects (args := #[]) (mvT hZ (hw _ (List.mem_of_getElem? (i := 30) rfl)))) (mvT hZ (hw _ (List.mem_of_getElem? (i := 30) rfl))) (mvT hZ (hw _ (List.mem_of_getElem? (i := 29) rfl))) (by decide) (backOf (W := 0) (rm5 l Z a0 hw [] oa ob (f1_0 (1 : Int32) (ua &&& (2147483647 : Int32))) (f1_0 (1 : Int32) (ub &&& (2147483647 : Int32))) l2 c2 T13.heap n0 Fl3 Fc3 Gl13 Gc13 Eb13) hZ (hw _ (List.mem_of_getElem? (i := 31) rfl)) (hw _ (List.mem_of_getElem? (i := 11) rfl)) (by decide) (by decide)) q18a q18c (g := (mkF m 128 #[.val (.int ua), .val (.int ub), .val (.int uc), .val (.int ud), .val (.int uf), .val (.int (f1_0 (1 : Int32) (ua &&& (2147483647 : Int32)))), .val (.int (f1_0 (1 : Int32) (ub &&& (2147483647 : Int32)))), .val (.int (g_1 uf)), .val (.int (g_2 uf)), .val (.int l2), .val (.int c2), .val (.ref oa), .val (.ref ob), .val (.int (((31 : Int32) * (f1_0 (1 : Int32) (ua &&& (2147483647 : Int32)))) + (f1_0 (1 : Int32) (ub &&& (2147483647 : Int32))))), .val (.int (((31 : Int32) * l2) + c2))] [(.ref ob), (.ref oa)])) rfl (by rw [hml]; rfl) (Steps.refl _) (argsL := [(.ref ob)]) (rest := []) (lenOf pd_4 rfl) rfl (by show 2 * 0 + _ ≤ _; exact Nat.le_of_eq rfl) (hb hby at_128) (fun _ _ => ⟨rfl, e17q, (by decide : 2 + 0 ≤ _), (by decide : 4 + 0 ≤ _)⟩)
  dsimp only [Pt.U, Pt.locs, Pt.cells, Pt.slots] at X18 l18 y18 z18 st18 hQ18
  subst l18 y18 z18
  obtain ⟨rfl, N18q, e18q⟩ := hQ18
  have N18 := Fr.app N17 N18q
  have sg131 : ∀ {fs : List Frame}, own_RetTo e T18 m (some (.int (f0_131 ua ub l2 c2))) fs → Steps p.tables e below (T18.setTop (mkF m 131 #[.val (.int ua), .val (.int ub), .val (.int uc), .val (.int ud), .val (.int uf), .val (.int (f1_0 (1 : Int32) (ua &&& (2147483647 : Int32)))), .val (.int (f1_0 (1 : Int32) (ub &&& (2147483647 : Int32)))), .val (.int (g_1 uf)), .val (.int (g_2 uf)), .val (.int l2), .val (.int c2), .val (.ref oa), .val (.ref ob), .val (.int (((31 : Int32) * (f1_0 (1 : Int32) (ua &&& (2147483647 : Int32)))) + (f1_0 (1 : Int32) (ub &&& (2147483647 : Int32))))), .val (.int (((31 : Int32) * l2) + c2))] [(.int (own_f5 (f1_0 (1 : Int32) (ua &&& (2147483647 : Int32))) (f1_0 (1 : Int32) (ub &&& (2147483647 : Int32))) l2 c2))])) (T18.setFrames fs) := by
    intro fs hr
    show Steps p.tables e below (T18.setTop (mkF m 131 #[.val (.int ua), .val (.int ub), .val (.int uc), .val (.int ud), .val (.int uf), .val (.int (f1_0 (1 : Int32) (ua &&& (2147483647 : Int32)))), .val (.int (f1_0 (1 : Int32) (ub &&& (2147483647 : Int32)))), .val (.int (g_1 uf)), .val (.int (g_2 uf)), .val (.int l2), .val (.int c2), .val (.ref oa), .val (.ref ob), .val (.int (((31 : Int32) * (f1_0 (1 : Int32) (ua &&& (2147483647 : Int32)))) + (f1_0 (1 : Int32) (ub &&& (2147483647 : Int32))))), .val (.int (((31 : Int32) * l2) + c2))] [(.int (own_f5 (f1_0 (1 : Int32) (ua &&& (2147483647 : Int32))) (f1_0 (1 : Int32) (ub &&& (2147483647 : Int32))) l2 c2))])) _
    by_cases hc131 : (own_f5 (f1_0 (1 : Int32) (ua &&& (2147483647 : Int32))) (f1_0 (1 : Int32) (ub &&& (2147483647 : Int32))) l2 c2) = (0 : Int32)
    · refine XS.ifYes X18.here hx rfl (pc0 := 131) (pc' := 147) rfl (hb hby at_131) rfl ((if0 _ _).trans (teq hc131).1) (by decide) (by decide) ?_
      show Steps p.tables e below (T18.setTop (mkF m 147 #[.val (.int ua), .val (.int ub), .val (.int uc), .val (.int ud), .val (.int uf), .val (.int (f1_0 (1 : Int32) (ua &&& (2147483647 : Int32)))), .val (.int (f1_0 (1 : Int32) (ub &&& (2147483647 : Int32)))), .val (.int (g_1 uf)), .val (.int (g_2 uf)), .val (.int l2), .val (.int c2), .val (.ref oa), .val (.ref ob), .val (.int (((31 : Int32) * (f1_0 (1 : Int32) (ua &&& (2147483647 : Int32)))) + (f1_0 (1 : Int32) (ub &&& (2147483647 : Int32))))), .val (.int (((31 : Int32) * l2) + c2))] [])) _
      refine XS.iconst X18.here hx rfl (hb hby at_147) ?_
      have hv : f0_131 ua ub l2 c2 = (1 : Int32) := by unfold f0_131; rw [if_pos hc131]
      rw [hv] at hr
      show Steps p.tables e below (T18.setTop (mkF m 148 #[.val (.int ua), .val (.int ub), .val (.int uc), .val (.int ud), .val (.int uf), .val (.int (f1_0 (1 : Int32) (ua &&& (2147483647 : Int32)))), .val (.int (f1_0 (1 : Int32) (ub &&& (2147483647 : Int32)))), .val (.int (g_1 uf)), .val (.int (g_2 uf)), .val (.int l2), .val (.int c2), .val (.ref oa), .val (.ref ob), .val (.int (((31 : Int32) * (f1_0 (1 : Int32) (ua &&& (2147483647 : Int32)))) + (f1_0 (1 : Int32) (ub &&& (2147483647 : Int32))))), .val (.int (((31 : Int32) * l2) + c2))] [(.int (1 : Int32))])) _
      exact retN X18 hx (t := .boolean) Bd.returns (by simp) (hb hby at_148) hr
    · refine XS.ifNo X18.here hx rfl (hb hby at_131) rfl ((if0 _ _).trans (feq hc131).1) ?_
      show Steps p.tables e below (T18.setTop (mkF m 134 #[.val (.int ua), .val (.int ub), .val (.int uc), .val (.int ud), .val (.int uf), .val (.int (f1_0 (1 : Int32) (ua &&& (2147483647 : Int32)))), .val (.int (f1_0 (1 : Int32) (ub &&& (2147483647 : Int32)))), .val (.int (g_1 uf)), .val (.int (g_2 uf)), .val (.int l2), .val (.int c2), .val (.ref oa), .val (.ref ob), .val (.int (((31 : Int32) * (f1_0 (1 : Int32) (ua &&& (2147483647 : Int32)))) + (f1_0 (1 : Int32) (ub &&& (2147483647 : Int32))))), .val (.int (((31 : Int32) * l2) + c2))] [])) _
      refine XS.iload X18.here hx rfl (hb hby at_134) rfl ?_
      show Steps p.tables e below (T18.setTop (mkF m 136 #[.val (.int ua), .val (.int ub), .val (.int uc), .val (.int ud), .val (.int uf), .val (.int (f1_0 (1 : Int32) (ua &&& (2147483647 : Int32)))), .val (.int (f1_0 (1 : Int32) (ub &&& (2147483647 : Int32)))), .val (.int (g_1 uf)), .val (.int (g_2 uf)), .val (.int l2), .val (.int c2), .val (.ref oa), .val (.ref ob), .val (.int (((31 : Int32) * (f1_0 (1 : Int32) (ua &&& (2147483647 : Int32)))) + (f1_0 (1 : Int32) (ub &&& (2147483647 : Int32))))), .val (.int (((31 : Int32) * l2) + c2))] [(.int (((31 : Int32) * (f1_0 (1 : Int32) (ua &&& (2147483647 : Int32)))) + (f1_0 (1 : Int32) (ub &&& (2147483647 : Int32)))))])) _
      refine XS.iload X18.here hx rfl (hb hby at_136) rfl ?_
      show Steps p.tables e below (T18.setTop (mkF m 138 #[.val (.int ua), .val (.int ub), .val (.int uc), .val (.int ud), .val (.int uf), .val (.int (f1_0 (1 : Int32) (ua &&& (2147483647 : Int32)))), .val (.int (f1_0 (1 : Int32) (ub &&& (2147483647 : Int32)))), .val (.int (g_1 uf)), .val (.int (g_2 uf)), .val (.int l2), .val (.int c2), .val (.ref oa), .val (.ref ob), .val (.int (((31 : Int32) * (f1_0 (1 : Int32) (ua &&& (2147483647 : Int32)))) + (f1_0 (1 : Int32) (ub &&& (2147483647 : Int32))))), .val (.int (((31 : Int32) * l2) + c2))] [(.int (((31 : Int32) * l2) + c2)), (.int (((31 : Int32) * (f1_0 (1 : Int32) (ua &&& (2147483647 : Int32)))) + (f1_0 (1 : Int32) (ub &&& (2147483647 : Int32)))))])) _
      by_cases hc138 : (((31 : Int32) * (f1_0 (1 : Int32) (ua &&& (2147483647 : Int32)))) + (f1_0 (1 : Int32) (ub &&& (2147483647 : Int32)))) = (((31 : Int32) * l2) + c2)
      · refine XS.icmpNo X18.here hx rfl (hb hby at_138) rfl (teq hc138).2 ?_
        show Steps p.tables e below (T18.setTop (mkF m 141 #[.val (.int ua), .val (.int ub), .val (.int uc), .val (.int ud), .val (.int uf), .val (.int (f1_0 (1 : Int32) (ua &&& (2147483647 : Int32)))), .val (.int (f1_0 (1 : Int32) (ub &&& (2147483647 : Int32)))), .val (.int (g_1 uf)), .val (.int (g_2 uf)), .val (.int l2), .val (.int c2), .val (.ref oa), .val (.ref ob), .val (.int (((31 : Int32) * (f1_0 (1 : Int32) (ua &&& (2147483647 : Int32)))) + (f1_0 (1 : Int32) (ub &&& (2147483647 : Int32))))), .val (.int (((31 : Int32) * l2) + c2))] [])) _
        refine XS.iconst X18.here hx rfl (hb hby at_141) ?_
        show Steps p.tables e below (T18.setTop (mkF m 142 #[.val (.int ua), .val (.int ub), .val (.int uc), .val (.int ud), .val (.int uf), .val (.int (f1_0 (1 : Int32) (ua &&& (2147483647 : Int32)))), .val (.int (f1_0 (1 : Int32) (ub &&& (2147483647 : Int32)))), .val (.int (g_1 uf)), .val (.int (g_2 uf)), .val (.int l2), .val (.int c2), .val (.ref oa), .val (.ref ob), .val (.int (((31 : Int32) * (f1_0 (1 : Int32) (ua &&& (2147483647 : Int32)))) + (f1_0 (1 : Int32) (ub &&& (2147483647 : Int32))))), .val (.int (((31 : Int32) * l2) + c2))] [(.int (1 : Int32))])) _
        refine XS.goto X18.here hx rfl (pc0 := 142) (pc' := 146) rfl (hb hby at_142) (by decide) (by decide) ?_
        have hv : f0_131 ua ub l2 c2 = (1 : Int32) := by unfold f0_131; rw [if_neg hc131, if_pos hc138]
        rw [hv] at hr
        show Steps p.tables e below (T18.setTop (mkF m 146 #[.val (.int ua), .val (.int ub), .val (.int uc), .val (.int ud), .val (.int uf), .val (.int (f1_0 (1 : Int32) (ua &&& (2147483647 : Int32)))), .val (.int (f1_0 (1 : Int32) (ub &&& (2147483647 : Int32)))), .val (.int (g_1 uf)), .val (.int (g_2 uf)), .val (.int l2), .val (.int c2), .val (.ref oa), .val (.ref ob), .val (.int (((31 : Int32) * (f1_0 (1 : Int32) (ua &&& (2147483647 : Int32)))) + (f1_0 (1 : Int32) (ub &&& (2147483647 : Int32))))), .val (.int (((31 : Int32) * l2) + c2))] [(.int (1 : Int32))])) _
        exact retN X18 hx (t := .boolean) Bd.returns (by simp) (hb hby at_146) hr
      · refine XS.icmpYes X18.here hx rfl (pc0 := 138) (pc' := 145) rfl (hb hby at_138) rfl (feq hc138).2 (by decide) (by decide) ?_
        show Steps p.tables e below (T18.setTop (mkF m 145 #[.val (.int ua), .val (.int ub), .val (.int uc), .val (.int ud), .val (.int uf), .val (.int (f1_0 (1 : Int32) (ua &&& (2147483647 : Int32)))), .val (.int (f1_0 (1 : Int32) (ub &&& (2147483647 : Int32)))), .val (.int (g_1 uf)), .val (.int (g_2 uf)), .val (.int l2), .val (.int c2), .val (.ref oa), .val (.ref ob), .val (.int (((31 : Int32) * (f1_0 (1 : Int32) (ua &&& (2147483647 : Int32)))) + (f1_0 (1 : Int32) (ub &&& (2147483647 : Int32))))), .val (.int (((31 : Int32) * l2) + c2))] [])) _
        refine XS.iconst X18.here hx rfl (hb hby at_145) ?_
        have hv : f0_131 ua ub l2 c2 = (0 : Int32) := by unfold f0_131; rw [if_neg hc131, if_neg hc138]
        rw [hv] at hr
        show Steps p.tables e below (T18.setTop (mkF m 146 #[.val (.int ua), .val (.int ub), .val (.int uc), .val (.int ud), .val (.int uf), .val (.int (f1_0 (1 : Int32) (ua &&& (2147483647 : Int32)))), .val (.int (f1_0 (1 : Int32) (ub &&& (2147483647 : Int32)))), .val (.int (g_1 uf)), .val (.int (g_2 uf)), .val (.int l2), .val (.int c2), .val (.ref oa), .val (.ref ob), .val (.int (((31 : Int32) * (f1_0 (1 : Int32) (ua &&& (2147483647 : Int32)))) + (f1_0 (1 : Int32) (ub &&& (2147483647 : Int32))))), .val (.int (((31 : Int32) * l2) + c2))] [(.int (0 : Int32))])) _
        exact retN X18 hx (t := .boolean) Bd.returns (by simp) (hb hby at_146) hr
  obtain ⟨fs, hr, hrun, hended, hW, hsame⟩ := X18.leave (v := some (.int (1 : Int32))) (fun h => by rw [Bd.returns] at h; cases h)
  refine ⟨_, _, pre0 _ ?_, hrun, hended, _, _, rfl, ?_, ⟨_, rfl⟩, hW, hsame.mono (by decide) (by decide)⟩
  · show Steps p.tables e below (s₁.setTop (mkF m 0 #[.val (.int ua), .val (.int ub), .val (.int uc), .val (.int ud), .val (.int uf), .unset, .unset, .unset, .unset, .unset, .unset, .unset, .unset, .unset, .unset] [])) _
    refine XS.iloadN X0.here hx rfl (hb hby at_0) rfl ?_
    show Steps p.tables e below (s₁.setTop (mkF m 1 #[.val (.int ua), .val (.int ub), .val (.int uc), .val (.int ud), .val (.int uf), .unset, .unset, .unset, .unset, .unset, .unset, .unset, .unset, .unset, .unset] [(.int ua)])) _
    refine st1 _ ?_
    show Steps p.tables e below (T1.setTop (mkF m 4 #[.val (.int ua), .val (.int ub), .val (.int uc), .val (.int ud), .val (.int uf), .unset, .unset, .unset, .unset, .unset, .unset, .unset, .unset, .unset, .unset] [(.int (f1_0 (1 : Int32) (ua &&& (2147483647 : Int32))))])) _
    refine XS.istore X1.here hx rfl (hb hby at_4) rfl (l' := #[.val (.int ua), .val (.int ub), .val (.int uc), .val (.int ud), .val (.int uf), .val (.int (f1_0 (1 : Int32) (ua &&& (2147483647 : Int32)))), .unset, .unset, .unset, .unset, .unset, .unset, .unset, .unset, .unset]) rfl ?_
    show Steps p.tables e below (T1.setTop (mkF m 6 #[.val (.int ua), .val (.int ub), .val (.int uc), .val (.int ud), .val (.int uf), .val (.int (f1_0 (1 : Int32) (ua &&& (2147483647 : Int32)))), .unset, .unset, .unset, .unset, .unset, .unset, .unset, .unset, .unset] [])) _
    refine XS.iloadN X1.here hx rfl (hb hby at_6) rfl ?_
    show Steps p.tables e below (T1.setTop (mkF m 7 #[.val (.int ua), .val (.int ub), .val (.int uc), .val (.int ud), .val (.int uf), .val (.int (f1_0 (1 : Int32) (ua &&& (2147483647 : Int32)))), .unset, .unset, .unset, .unset, .unset, .unset, .unset, .unset, .unset] [(.int ub)])) _
    refine st2 _ ?_
    show Steps p.tables e below (T2.setTop (mkF m 10 #[.val (.int ua), .val (.int ub), .val (.int uc), .val (.int ud), .val (.int uf), .val (.int (f1_0 (1 : Int32) (ua &&& (2147483647 : Int32)))), .unset, .unset, .unset, .unset, .unset, .unset, .unset, .unset, .unset] [(.int (f1_0 (1 : Int32) (ub &&& (2147483647 : Int32))))])) _
    refine XS.istore X2.here hx rfl (hb hby at_10) rfl (l' := #[.val (.int ua), .val (.int ub), .val (.int uc), .val (.int ud), .val (.int uf), .val (.int (f1_0 (1 : Int32) (ua &&& (2147483647 : Int32)))), .val (.int (f1_0 (1 : Int32) (ub &&& (2147483647 : Int32)))), .unset, .unset, .unset, .unset, .unset, .unset, .unset, .unset]) rfl ?_
    show Steps p.tables e below (T2.setTop (mkF m 12 #[.val (.int ua), .val (.int ub), .val (.int uc), .val (.int ud), .val (.int uf), .val (.int (f1_0 (1 : Int32) (ua &&& (2147483647 : Int32)))), .val (.int (f1_0 (1 : Int32) (ub &&& (2147483647 : Int32)))), .unset, .unset, .unset, .unset, .unset, .unset, .unset, .unset] [])) _
    refine sg12 _ ?_
    show Steps p.tables e below (T2.setTop (mkF m 24 #[.val (.int ua), .val (.int ub), .val (.int uc), .val (.int ud), .val (.int uf), .val (.int (f1_0 (1 : Int32) (ua &&& (2147483647 : Int32)))), .val (.int (f1_0 (1 : Int32) (ub &&& (2147483647 : Int32)))), .unset, .unset, .unset, .unset, .unset, .unset, .unset, .unset] [(.int (g_1 uf))])) _
    refine XS.istore X2.here hx rfl (hb hby at_24) rfl (l' := #[.val (.int ua), .val (.int ub), .val (.int uc), .val (.int ud), .val (.int uf), .val (.int (f1_0 (1 : Int32) (ua &&& (2147483647 : Int32)))), .val (.int (f1_0 (1 : Int32) (ub &&& (2147483647 : Int32)))), .val (.int (g_1 uf)), .unset, .unset, .unset, .unset, .unset, .unset, .unset]) rfl ?_
    show Steps p.tables e below (T2.setTop (mkF m 26 #[.val (.int ua), .val (.int ub), .val (.int uc), .val (.int ud), .val (.int uf), .val (.int (f1_0 (1 : Int32) (ua &&& (2147483647 : Int32)))), .val (.int (f1_0 (1 : Int32) (ub &&& (2147483647 : Int32)))), .val (.int (g_1 uf)), .unset, .unset, .unset, .unset, .unset, .unset, .unset] [])) _
    refine sg26 _ ?_
    show Steps p.tables e below (T2.setTop (mkF m 38 #[.val (.int ua), .val (.int ub), .val (.int uc), .val (.int ud), .val (.int uf), .val (.int (f1_0 (1 : Int32) (ua &&& (2147483647 : Int32)))), .val (.int (f1_0 (1 : Int32) (ub &&& (2147483647 : Int32)))), .val (.int (g_1 uf)), .unset, .unset, .unset, .unset, .unset, .unset, .unset] [(.int (g_2 uf))])) _
    refine XS.istore X2.here hx rfl (hb hby at_38) rfl (l' := #[.val (.int ua), .val (.int ub), .val (.int uc), .val (.int ud), .val (.int uf), .val (.int (f1_0 (1 : Int32) (ua &&& (2147483647 : Int32)))), .val (.int (f1_0 (1 : Int32) (ub &&& (2147483647 : Int32)))), .val (.int (g_1 uf)), .val (.int (g_2 uf)), .unset, .unset, .unset, .unset, .unset, .unset]) rfl ?_
    show Steps p.tables e below (T2.setTop (mkF m 40 #[.val (.int ua), .val (.int ub), .val (.int uc), .val (.int ud), .val (.int uf), .val (.int (f1_0 (1 : Int32) (ua &&& (2147483647 : Int32)))), .val (.int (f1_0 (1 : Int32) (ub &&& (2147483647 : Int32)))), .val (.int (g_1 uf)), .val (.int (g_2 uf)), .unset, .unset, .unset, .unset, .unset, .unset] [])) _
    refine st4 _ ?_
    show Steps p.tables e below (T4.setTop (mkF m 56 #[.val (.int ua), .val (.int ub), .val (.int uc), .val (.int ud), .val (.int uf), .val (.int (f1_0 (1 : Int32) (ua &&& (2147483647 : Int32)))), .val (.int (f1_0 (1 : Int32) (ub &&& (2147483647 : Int32)))), .val (.int (g_1 uf)), .val (.int (g_2 uf)), .val (.int l2), .unset, .unset, .unset, .unset, .unset] [])) _
    refine st6 _ ?_
    show Steps p.tables e below (T6.setTop (mkF m 72 #[.val (.int ua), .val (.int ub), .val (.int uc), .val (.int ud), .val (.int uf), .val (.int (f1_0 (1 : Int32) (ua &&& (2147483647 : Int32)))), .val (.int (f1_0 (1 : Int32) (ub &&& (2147483647 : Int32)))), .val (.int (g_1 uf)), .val (.int (g_2 uf)), .val (.int l2), .val (.int c2), .unset, .unset, .unset, .unset] [])) _
    refine st7 _ ?_
    show Steps p.tables e below (T7.setTop (mkF m 75 #[.val (.int ua), .val (.int ub), .val (.int uc), .val (.int ud), .val (.int uf), .val (.int (f1_0 (1 : Int32) (ua &&& (2147483647 : Int32)))), .val (.int (f1_0 (1 : Int32) (ub &&& (2147483647 : Int32)))), .val (.int (g_1 uf)), .val (.int (g_2 uf)), .val (.int l2), .val (.int c2), .unset, .unset, .unset, .unset] [(.ref oa)])) _
    refine XS.dup X7.here hx rfl (hb hby at_75) rfl rfl ?_
    show Steps p.tables e below (T7.setTop (mkF m 76 #[.val (.int ua), .val (.int ub), .val (.int uc), .val (.int ud), .val (.int uf), .val (.int (f1_0 (1 : Int32) (ua &&& (2147483647 : Int32)))), .val (.int (f1_0 (1 : Int32) (ub &&& (2147483647 : Int32)))), .val (.int (g_1 uf)), .val (.int (g_2 uf)), .val (.int l2), .val (.int c2), .unset, .unset, .unset, .unset] [(.ref oa), (.ref oa)])) _
    refine XS.iload X7.here hx rfl (hb hby at_76) rfl ?_
    show Steps p.tables e below (T7.setTop (mkF m 78 #[.val (.int ua), .val (.int ub), .val (.int uc), .val (.int ud), .val (.int uf), .val (.int (f1_0 (1 : Int32) (ua &&& (2147483647 : Int32)))), .val (.int (f1_0 (1 : Int32) (ub &&& (2147483647 : Int32)))), .val (.int (g_1 uf)), .val (.int (g_2 uf)), .val (.int l2), .val (.int c2), .unset, .unset, .unset, .unset] [(.int (f1_0 (1 : Int32) (ua &&& (2147483647 : Int32)))), (.ref oa), (.ref oa)])) _
    refine XS.iload X7.here hx rfl (hb hby at_78) rfl ?_
    show Steps p.tables e below (T7.setTop (mkF m 80 #[.val (.int ua), .val (.int ub), .val (.int uc), .val (.int ud), .val (.int uf), .val (.int (f1_0 (1 : Int32) (ua &&& (2147483647 : Int32)))), .val (.int (f1_0 (1 : Int32) (ub &&& (2147483647 : Int32)))), .val (.int (g_1 uf)), .val (.int (g_2 uf)), .val (.int l2), .val (.int c2), .unset, .unset, .unset, .unset] [(.int (f1_0 (1 : Int32) (ub &&& (2147483647 : Int32)))), (.int (f1_0 (1 : Int32) (ua &&& (2147483647 : Int32)))), (.ref oa), (.ref oa)])) _
    refine st9.trans ?_
    show Steps p.tables e below (T9.setTop (mkF m 83 #[.val (.int ua), .val (.int ub), .val (.int uc), .val (.int ud), .val (.int uf), .val (.int (f1_0 (1 : Int32) (ua &&& (2147483647 : Int32)))), .val (.int (f1_0 (1 : Int32) (ub &&& (2147483647 : Int32)))), .val (.int (g_1 uf)), .val (.int (g_2 uf)), .val (.int l2), .val (.int c2), .unset, .unset, .unset, .unset] [(.ref oa)])) _
    refine XS.astore X9.here hx rfl (hb hby at_83) rfl rfl (l' := #[.val (.int ua), .val (.int ub), .val (.int uc), .val (.int ud), .val (.int uf), .val (.int (f1_0 (1 : Int32) (ua &&& (2147483647 : Int32)))), .val (.int (f1_0 (1 : Int32) (ub &&& (2147483647 : Int32)))), .val (.int (g_1 uf)), .val (.int (g_2 uf)), .val (.int l2), .val (.int c2), .val (.ref oa), .unset, .unset, .unset]) rfl ?_
    show Steps p.tables e below (T9.setTop (mkF m 85 #[.val (.int ua), .val (.int ub), .val (.int uc), .val (.int ud), .val (.int uf), .val (.int (f1_0 (1 : Int32) (ua &&& (2147483647 : Int32)))), .val (.int (f1_0 (1 : Int32) (ub &&& (2147483647 : Int32)))), .val (.int (g_1 uf)), .val (.int (g_2 uf)), .val (.int l2), .val (.int c2), .val (.ref oa), .unset, .unset, .unset] [])) _
    refine st11 _ ?_
    show Steps p.tables e below (T11.setTop (mkF m 88 #[.val (.int ua), .val (.int ub), .val (.int uc), .val (.int ud), .val (.int uf), .val (.int (f1_0 (1 : Int32) (ua &&& (2147483647 : Int32)))), .val (.int (f1_0 (1 : Int32) (ub &&& (2147483647 : Int32)))), .val (.int (g_1 uf)), .val (.int (g_2 uf)), .val (.int l2), .val (.int c2), .val (.ref oa), .unset, .unset, .unset] [(.ref ob)])) _
    refine XS.dup X11.here hx rfl (hb hby at_88) rfl rfl ?_
    show Steps p.tables e below (T11.setTop (mkF m 89 #[.val (.int ua), .val (.int ub), .val (.int uc), .val (.int ud), .val (.int uf), .val (.int (f1_0 (1 : Int32) (ua &&& (2147483647 : Int32)))), .val (.int (f1_0 (1 : Int32) (ub &&& (2147483647 : Int32)))), .val (.int (g_1 uf)), .val (.int (g_2 uf)), .val (.int l2), .val (.int c2), .val (.ref oa), .unset, .unset, .unset] [(.ref ob), (.ref ob)])) _
    refine XS.iload X11.here hx rfl (hb hby at_89) rfl ?_
    show Steps p.tables e below (T11.setTop (mkF m 91 #[.val (.int ua), .val (.int ub), .val (.int uc), .val (.int ud), .val (.int uf), .val (.int (f1_0 (1 : Int32) (ua &&& (2147483647 : Int32)))), .val (.int (f1_0 (1 : Int32) (ub &&& (2147483647 : Int32)))), .val (.int (g_1 uf)), .val (.int (g_2 uf)), .val (.int l2), .val (.int c2), .val (.ref oa), .unset, .unset, .unset] [(.int l2), (.ref ob), (.ref ob)])) _
    refine XS.iload X11.here hx rfl (hb hby at_91) rfl ?_
    show Steps p.tables e below (T11.setTop (mkF m 93 #[.val (.int ua), .val (.int ub), .val (.int uc), .val (.int ud), .val (.int uf), .val (.int (f1_0 (1 : Int32) (ua &&& (2147483647 : Int32)))), .val (.int (f1_0 (1 : Int32) (ub &&& (2147483647 : Int32)))), .val (.int (g_1 uf)), .val (.int (g_2 uf)), .val (.int l2), .val (.int c2), .val (.ref oa), .unset, .unset, .unset] [(.int c2), (.int l2), (.ref ob), (.ref ob)])) _
    refine st13.trans ?_
    show Steps p.tables e below (T13.setTop (mkF m 96 #[.val (.int ua), .val (.int ub), .val (.int uc), .val (.int ud), .val (.int uf), .val (.int (f1_0 (1 : Int32) (ua &&& (2147483647 : Int32)))), .val (.int (f1_0 (1 : Int32) (ub &&& (2147483647 : Int32)))), .val (.int (g_1 uf)), .val (.int (g_2 uf)), .val (.int l2), .val (.int c2), .val (.ref oa), .unset, .unset, .unset] [(.ref ob)])) _
    refine XS.astore X13.here hx rfl (hb hby at_96) rfl rfl (l' := #[.val (.int ua), .val (.int ub), .val (.int uc), .val (.int ud), .val (.int uf), .val (.int (f1_0 (1 : Int32) (ua &&& (2147483647 : Int32)))), .val (.int (f1_0 (1 : Int32) (ub &&& (2147483647 : Int32)))), .val (.int (g_1 uf)), .val (.int (g_2 uf)), .val (.int l2), .val (.int c2), .val (.ref oa), .val (.ref ob), .unset, .unset]) rfl ?_
    show Steps p.tables e below (T13.setTop (mkF m 98 #[.val (.int ua), .val (.int ub), .val (.int uc), .val (.int ud), .val (.int uf), .val (.int (f1_0 (1 : Int32) (ua &&& (2147483647 : Int32)))), .val (.int (f1_0 (1 : Int32) (ub &&& (2147483647 : Int32)))), .val (.int (g_1 uf)), .val (.int (g_2 uf)), .val (.int l2), .val (.int c2), .val (.ref oa), .val (.ref ob), .unset, .unset] [])) _
    refine XS.aload X13.here hx rfl (hb hby at_98) rfl rfl ?_
    show Steps p.tables e below (T13.setTop (mkF m 100 #[.val (.int ua), .val (.int ub), .val (.int uc), .val (.int ud), .val (.int uf), .val (.int (f1_0 (1 : Int32) (ua &&& (2147483647 : Int32)))), .val (.int (f1_0 (1 : Int32) (ub &&& (2147483647 : Int32)))), .val (.int (g_1 uf)), .val (.int (g_2 uf)), .val (.int l2), .val (.int c2), .val (.ref oa), .val (.ref ob), .unset, .unset] [(.ref oa)])) _
    refine st15.trans ?_
    show Steps p.tables e below (T15.setTop (mkF m 103 #[.val (.int ua), .val (.int ub), .val (.int uc), .val (.int ud), .val (.int uf), .val (.int (f1_0 (1 : Int32) (ua &&& (2147483647 : Int32)))), .val (.int (f1_0 (1 : Int32) (ub &&& (2147483647 : Int32)))), .val (.int (g_1 uf)), .val (.int (g_2 uf)), .val (.int l2), .val (.int c2), .val (.ref oa), .val (.ref ob), .unset, .unset] [(.int (((31 : Int32) * (f1_0 (1 : Int32) (ua &&& (2147483647 : Int32)))) + (f1_0 (1 : Int32) (ub &&& (2147483647 : Int32)))))])) _
    refine XS.istore X15.here hx rfl (hb hby at_103) rfl (l' := #[.val (.int ua), .val (.int ub), .val (.int uc), .val (.int ud), .val (.int uf), .val (.int (f1_0 (1 : Int32) (ua &&& (2147483647 : Int32)))), .val (.int (f1_0 (1 : Int32) (ub &&& (2147483647 : Int32)))), .val (.int (g_1 uf)), .val (.int (g_2 uf)), .val (.int l2), .val (.int c2), .val (.ref oa), .val (.ref ob), .val (.int (((31 : Int32) * (f1_0 (1 : Int32) (ua &&& (2147483647 : Int32)))) + (f1_0 (1 : Int32) (ub &&& (2147483647 : Int32))))), .unset]) rfl ?_
    show Steps p.tables e below (T15.setTop (mkF m 105 #[.val (.int ua), .val (.int ub), .val (.int uc), .val (.int ud), .val (.int uf), .val (.int (f1_0 (1 : Int32) (ua &&& (2147483647 : Int32)))), .val (.int (f1_0 (1 : Int32) (ub &&& (2147483647 : Int32)))), .val (.int (g_1 uf)), .val (.int (g_2 uf)), .val (.int l2), .val (.int c2), .val (.ref oa), .val (.ref ob), .val (.int (((31 : Int32) * (f1_0 (1 : Int32) (ua &&& (2147483647 : Int32)))) + (f1_0 (1 : Int32) (ub &&& (2147483647 : Int32))))), .unset] [])) _
    refine XS.aload X15.here hx rfl (hb hby at_105) rfl rfl ?_
    show Steps p.tables e below (T15.setTop (mkF m 107 #[.val (.int ua), .val (.int ub), .val (.int uc), .val (.int ud), .val (.int uf), .val (.int (f1_0 (1 : Int32) (ua &&& (2147483647 : Int32)))), .val (.int (f1_0 (1 : Int32) (ub &&& (2147483647 : Int32)))), .val (.int (g_1 uf)), .val (.int (g_2 uf)), .val (.int l2), .val (.int c2), .val (.ref oa), .val (.ref ob), .val (.int (((31 : Int32) * (f1_0 (1 : Int32) (ua &&& (2147483647 : Int32)))) + (f1_0 (1 : Int32) (ub &&& (2147483647 : Int32))))), .unset] [(.ref ob)])) _
    refine st16.trans ?_
    show Steps p.tables e below (T16.setTop (mkF m 110 #[.val (.int ua), .val (.int ub), .val (.int uc), .val (.int ud), .val (.int uf), .val (.int (f1_0 (1 : Int32) (ua &&& (2147483647 : Int32)))), .val (.int (f1_0 (1 : Int32) (ub &&& (2147483647 : Int32)))), .val (.int (g_1 uf)), .val (.int (g_2 uf)), .val (.int l2), .val (.int c2), .val (.ref oa), .val (.ref ob), .val (.int (((31 : Int32) * (f1_0 (1 : Int32) (ua &&& (2147483647 : Int32)))) + (f1_0 (1 : Int32) (ub &&& (2147483647 : Int32))))), .unset] [(.int (((31 : Int32) * l2) + c2))])) _
    refine XS.istore X16.here hx rfl (hb hby at_110) rfl (l' := #[.val (.int ua), .val (.int ub), .val (.int uc), .val (.int ud), .val (.int uf), .val (.int (f1_0 (1 : Int32) (ua &&& (2147483647 : Int32)))), .val (.int (f1_0 (1 : Int32) (ub &&& (2147483647 : Int32)))), .val (.int (g_1 uf)), .val (.int (g_2 uf)), .val (.int l2), .val (.int c2), .val (.ref oa), .val (.ref ob), .val (.int (((31 : Int32) * (f1_0 (1 : Int32) (ua &&& (2147483647 : Int32)))) + (f1_0 (1 : Int32) (ub &&& (2147483647 : Int32))))), .val (.int (((31 : Int32) * l2) + c2))]) rfl ?_
    show Steps p.tables e below (T16.setTop (mkF m 112 #[.val (.int ua), .val (.int ub), .val (.int uc), .val (.int ud), .val (.int uf), .val (.int (f1_0 (1 : Int32) (ua &&& (2147483647 : Int32)))), .val (.int (f1_0 (1 : Int32) (ub &&& (2147483647 : Int32)))), .val (.int (g_1 uf)), .val (.int (g_2 uf)), .val (.int l2), .val (.int c2), .val (.ref oa), .val (.ref ob), .val (.int (((31 : Int32) * (f1_0 (1 : Int32) (ua &&& (2147483647 : Int32)))) + (f1_0 (1 : Int32) (ub &&& (2147483647 : Int32))))), .val (.int (((31 : Int32) * l2) + c2))] [])) _
    refine XS.iload X16.here hx rfl (hb hby at_112) rfl ?_
    show Steps p.tables e below (T16.setTop (mkF m 114 #[.val (.int ua), .val (.int ub), .val (.int uc), .val (.int ud), .val (.int uf), .val (.int (f1_0 (1 : Int32) (ua &&& (2147483647 : Int32)))), .val (.int (f1_0 (1 : Int32) (ub &&& (2147483647 : Int32)))), .val (.int (g_1 uf)), .val (.int (g_2 uf)), .val (.int l2), .val (.int c2), .val (.ref oa), .val (.ref ob), .val (.int (((31 : Int32) * (f1_0 (1 : Int32) (ua &&& (2147483647 : Int32)))) + (f1_0 (1 : Int32) (ub &&& (2147483647 : Int32))))), .val (.int (((31 : Int32) * l2) + c2))] [(.int (((31 : Int32) * (f1_0 (1 : Int32) (ua &&& (2147483647 : Int32)))) + (f1_0 (1 : Int32) (ub &&& (2147483647 : Int32)))))])) _
    refine XS.aload X16.here hx rfl (hb hby at_114) rfl rfl ?_
    show Steps p.tables e below (T16.setTop (mkF m 116 #[.val (.int ua), .val (.int ub), .val (.int uc), .val (.int ud), .val (.int uf), .val (.int (f1_0 (1 : Int32) (ua &&& (2147483647 : Int32)))), .val (.int (f1_0 (1 : Int32) (ub &&& (2147483647 : Int32)))), .val (.int (g_1 uf)), .val (.int (g_2 uf)), .val (.int l2), .val (.int c2), .val (.ref oa), .val (.ref ob), .val (.int (((31 : Int32) * (f1_0 (1 : Int32) (ua &&& (2147483647 : Int32)))) + (f1_0 (1 : Int32) (ub &&& (2147483647 : Int32))))), .val (.int (((31 : Int32) * l2) + c2))] [(.ref oa), (.int (((31 : Int32) * (f1_0 (1 : Int32) (ua &&& (2147483647 : Int32)))) + (f1_0 (1 : Int32) (ub &&& (2147483647 : Int32)))))])) _
    refine st17.trans ?_
    show Steps p.tables e below (T17.setTop (mkF m 119 #[.val (.int ua), .val (.int ub), .val (.int uc), .val (.int ud), .val (.int uf), .val (.int (f1_0 (1 : Int32) (ua &&& (2147483647 : Int32)))), .val (.int (f1_0 (1 : Int32) (ub &&& (2147483647 : Int32)))), .val (.int (g_1 uf)), .val (.int (g_2 uf)), .val (.int l2), .val (.int c2), .val (.ref oa), .val (.ref ob), .val (.int (((31 : Int32) * (f1_0 (1 : Int32) (ua &&& (2147483647 : Int32)))) + (f1_0 (1 : Int32) (ub &&& (2147483647 : Int32))))), .val (.int (((31 : Int32) * l2) + c2))] [(.int (((31 : Int32) * (f1_0 (1 : Int32) (ua &&& (2147483647 : Int32)))) + (f1_0 (1 : Int32) (ub &&& (2147483647 : Int32))))), (.int (((31 : Int32) * (f1_0 (1 : Int32) (ua &&& (2147483647 : Int32)))) + (f1_0 (1 : Int32) (ub &&& (2147483647 : Int32)))))])) _
    refine XS.icmpYes X17.here hx rfl (pc0 := 119) (pc' := 124) rfl (hb hby at_119) rfl (teq rfl).1 (by decide) (by decide) ?_
    show Steps p.tables e below (T17.setTop (mkF m 124 #[.val (.int ua), .val (.int ub), .val (.int uc), .val (.int ud), .val (.int uf), .val (.int (f1_0 (1 : Int32) (ua &&& (2147483647 : Int32)))), .val (.int (f1_0 (1 : Int32) (ub &&& (2147483647 : Int32)))), .val (.int (g_1 uf)), .val (.int (g_2 uf)), .val (.int l2), .val (.int c2), .val (.ref oa), .val (.ref ob), .val (.int (((31 : Int32) * (f1_0 (1 : Int32) (ua &&& (2147483647 : Int32)))) + (f1_0 (1 : Int32) (ub &&& (2147483647 : Int32))))), .val (.int (((31 : Int32) * l2) + c2))] [])) _
    refine XS.aload X17.here hx rfl (hb hby at_124) rfl rfl ?_
    show Steps p.tables e below (T17.setTop (mkF m 126 #[.val (.int ua), .val (.int ub), .val (.int uc), .val (.int ud), .val (.int uf), .val (.int (f1_0 (1 : Int32) (ua &&& (2147483647 : Int32)))), .val (.int (f1_0 (1 : Int32) (ub &&& (2147483647 : Int32)))), .val (.int (g_1 uf)), .val (.int (g_2 uf)), .val (.int l2), .val (.int c2), .val (.ref oa), .val (.ref ob), .val (.int (((31 : Int32) * (f1_0 (1 : Int32) (ua &&& (2147483647 : Int32)))) + (f1_0 (1 : Int32) (ub &&& (2147483647 : Int32))))), .val (.int (((31 : Int32) * l2) + c2))] [(.ref oa)])) _
    refine XS.aload X17.here hx rfl (hb hby at_126) rfl rfl ?_
    show Steps p.tables e below (T17.setTop (mkF m 128 #[.val (.int ua), .val (.int ub), .val (.int uc), .val (.int ud), .val (.int uf), .val (.int (f1_0 (1 : Int32) (ua &&& (2147483647 : Int32)))), .val (.int (f1_0 (1 : Int32) (ub &&& (2147483647 : Int32)))), .val (.int (g_1 uf)), .val (.int (g_2 uf)), .val (.int l2), .val (.int c2), .val (.ref oa), .val (.ref ob), .val (.int (((31 : Int32) * (f1_0 (1 : Int32) (ua &&& (2147483647 : Int32)))) + (f1_0 (1 : Int32) (ub &&& (2147483647 : Int32))))), .val (.int (((31 : Int32) * l2) + c2))] [(.ref ob), (.ref oa)])) _
    refine st18.trans ?_
    show Steps p.tables e below (T18.setTop (mkF m 131 #[.val (.int ua), .val (.int ub), .val (.int uc), .val (.int ud), .val (.int uf), .val (.int (f1_0 (1 : Int32) (ua &&& (2147483647 : Int32)))), .val (.int (f1_0 (1 : Int32) (ub &&& (2147483647 : Int32)))), .val (.int (g_1 uf)), .val (.int (g_2 uf)), .val (.int l2), .val (.int c2), .val (.ref oa), .val (.ref ob), .val (.int (((31 : Int32) * (f1_0 (1 : Int32) (ua &&& (2147483647 : Int32)))) + (f1_0 (1 : Int32) (ub &&& (2147483647 : Int32))))), .val (.int (((31 : Int32) * l2) + c2))] [(.int (own_f5 (f1_0 (1 : Int32) (ua &&& (2147483647 : Int32))) (f1_0 (1 : Int32) (ub &&& (2147483647 : Int32))) l2 c2))])) _
    exact sg131 (by rw [own_one]; exact hr)
  · show Q0 Z ua ub uc ud uf h0 n0 _ T18.heap _
    rw [e18q]
    exact ⟨rfl, N18⟩
set_option maxRecDepth 65536 in
set_option maxHeartbeats 40000000 in
theorem comes_1 {Post : Tables → Env → Array Value → State → Outcome → State → Prop} (hpost : ∀ tb e args s v u, (limb_1_1.after args s (.returned v) u = true ∧ limb_1_2.after args s (.returned v) u = true ∧ True) → FrameEnd s (.returned v) u (Jvm.fieldLocs frame_1_writes args s ++ Jvm.arrayLocs frame_1_arrays args s ++ Jvm.staticLocs frame_1_statics s) 16 128 → Post tb e args s (.returned v) u) :
    ArmFor flags0 classFile x code maxLocals ret World_1 tables_1 room_1 Calls_1 rest_1 Pre_1 Post := by
  intro l hfl _ _ p e ha hc hk s m args below hf hA hF happ hP
  obtain ⟨hcalls, hrest, hpre⟩ := hP
  obtain ⟨-, -, -, hnamed, -, -, -, hat⟩ := (Spec.applies_iff hf).mp happ
  obtain ⟨hg, hn⟩ := and_e (Cond.before_iff.mp (show (Jvm.Cond.and given_1 narrow_1).before args s = true from hpre))
  obtain ⟨h1, r0⟩ := and_e hg
  obtain ⟨g0, r1⟩ := and_e r0
  obtain ⟨g1, r2⟩ := and_e r1
  obtain ⟨g2, r3⟩ := and_e r2
  obtain ⟨g3, r4⟩ := and_e r3
  obtain ⟨w0, w1, w2, w3, w4, rfl⟩ : ∃ w0 w1 w2 w3 w4 : Value, args = #[w0, w1, w2, w3, w4] := by
    have hs : args.size = 5 := by simpa [Cond.value, given_1] using h1
    obtain ⟨L⟩ := args
    match L, hs with
    | [w0, w1, w2, w3, w4], _ => exact ⟨w0, w1, w2, w3, w4, rfl⟩
  have hw := fun d (hd : d ∈ tables_1) => atoms_spec (ws := Jvm.Cond.code x code maxLocals ret :: tables_1) hat d (List.mem_cons_of_mem _ hd)
  obtain ⟨i0, ei0⟩ := is_v g0
  obtain rfl : w0 = (.int i0) := Option.some.inj ei0
  obtain ⟨i1, ei1⟩ := is_v g1
  obtain rfl : w1 = (.int i1) := Option.some.inj ei1
  obtain ⟨i2, ei2⟩ := is_v g2
  obtain rfl : w2 = (.int i2) := Option.some.inj ei2
  obtain ⟨i3, ei3⟩ := is_v g3
  obtain rfl : w3 = (.int i3) := Option.some.inj ei3
  obtain ⟨i4, ei4⟩ := is_v r4
  obtain rfl : w4 = (.int i4) := Option.some.inj ei4
  obtain ⟨n, o, h1, h2, h3, _, L, rfl, ⟨rfl, N⟩, hq⟩ := rm0 l s _ hw tables_1 i0 i1 i2 i3 i4 s.heap s.heap.size (Nat.le_refl _) p e ha hc hk s m _ below hf ((Spec.applies_iff_loose hf).mp happ).1 ⟨rfl, State.Warmed39.refl s, rfl⟩ trivial
  refine ⟨n, _, h1, h2, h3, hpost _ _ _ _ _ _ ⟨Cond.after_iff.mpr rfl, Cond.after_iff.mpr (eq_i res_at (Term.int_eval (1)) rfl), trivial⟩ ⟨hq.1, hq.2.1, (hq.2.2.sift fun y hy => Or.inr (N y hy)).mono (by decide) (by decide)⟩⟩
theorem main_1_1 : Claimed_1_1 := comes_1 fun _ _ _ _ _ _ h hF => ⟨h.1, hF⟩
theorem main_1_2 : Claimed_1_2 := comes_1 fun _ _ _ _ _ _ h hF => ⟨h.2.1, hF⟩
end Jvm.Pilot.@@N@@
namespace Jvm.Pilot.@@N@@
open Jvm Jvm.ClassFile Sem Op Lib Jvm.Free Jvm.Stand Jvm.Pilot.@@N@@.Jvm.D
/-! MADE BY PROGRAM (witnessworld.py) out of the Statement's table words and the real class files: 11 classes; the members and pool entries that the words name. The judged class is class 1, her method 2. -/
namespace start1
open Jvm.ClassFile
def u (s : String) : CpInfo := .utf8 (stringToUtf16 s)
/-- a pool by its gaps: so many unusable entries, then the entry; so many at the end -/
def gap : Nat → List CpInfo → List CpInfo
  | 0, r => r
  | n + 1, r => .unusable :: gap n r
def poolList (es : List (Nat × CpInfo)) (last : Nat) : List CpInfo := es.foldr (fun e r => gap e.1 (e.2 :: r)) (gap last [])
def pool (es : List (Nat × CpInfo)) (last : Nat) : Array CpInfo := ⟨poolList es last⟩
def fileOf (pool : Array CpInfo) (this : Nat) (attrs : Array Attribute := #[]) (ms : Array MethodInfo := #[]) (fl : Nat := 33) (sup : Nat := 0) (ifs : Array Nat := #[]) (fds : Array FieldInfo := #[]) : ClassFile where
  minorVersion := 0
  majorVersion := 65
  constantPool := pool
  accessFlags := fl
  thisClass := this
  superClass := sup
  interfaces := ifs
  fields := fds
  methods := ms
  attributes := attrs
def plain (name : String) (sup : Option ClassId) : Class where
  name := name
  kind := .ordinary
  loader := none
  accessFlags := 33
  super := sup
  interfaces := #[]
  cf := none
  fields := #[]
  methods := #[]
  instanceTypes := #[]
  staticTypes := #[]
  resolved := #[]
  callSites := []
  init := .initialized
  statics := none
  mirror := none

def pool0 : Array CpInfo := pool [(5, u "<init>"), (0, u "()V"), (1, .class_ 10), (1, u "java/lang/Object")] 113

def k0c0 : Code := { maxStack := 0, maxLocals := 1, code := object_method_1_code, exceptionTable := #[], attributes := #[] }
def k0m0 : Method := { name := "<init>", desc := "()V", sig := { parameters := [], returnType := none }, accessFlags := 1, code := some k0c0 }
/-- java/lang/Object -/
def k0 : Class := { plain "java/lang/Object" none with
  accessFlags := 33
  interfaces := #[]
  cf := some (fileOf pool0 8 #[] #[{ accessFlags := 1, nameIndex := 5, descriptorIndex := 6, attributes := #[] }] 33 0 #[] #[])
  fields := #[]
  methods := #[k0m0]
  instanceTypes := #[]
  staticTypes := #[]
  resolved := Array.replicate 124 none
  statics := none }

def pool1 : Array CpInfo := pool [(2, .class_ 4), (1, u "java/lang/Object"), (0, u "<init>"), (0, u "()V"), (0, .integer 2147483647), (0, .methodref 9 10), (0, .class_ 11), (0, .nameAndType 12 13), (0, u "java/lang/Math"), (0, u "max"), (0, u "(II)I"), (0, .methodref 15 16), (0, .class_ 17), (0, .nameAndType 18 19), (0, u "com/example/mintage/mintage/finding/PositionHashCodePinLaw"), (0, u "positive"), (0, u "(I)I"), (0, .class_ 21), (0, u "com/example/mintage/mintage/finding/Position"), (0, .methodref 20 23), (0, .nameAndType 5 24), (0, u "(II)V"), (0, .methodref 20 26), (0, .nameAndType 27 28), (0, u "hashCode"), (0, u "()I"), (0, .methodref 20 30), (0, .nameAndType 31 32), (0, u "equals"), (0, u "(Ljava/lang/Object;)Z"), (2, u "law"), (0, u "(IIIII)Z")] 3

def k1m0 : Method := { name := "<init>", desc := "()V", sig := { parameters := [], returnType := none }, accessFlags := 2, code := none }
def k1c1 : Code := { maxStack := 3, maxLocals := 1, code := method_2_code, exceptionTable := #[], attributes := #[] }
def k1m1 : Method := { name := "positive", desc := "(I)I", sig := { parameters := [.int], returnType := some .int }, accessFlags := 10, code := some k1c1 }
def k1c2 : Code := { maxStack := 4, maxLocals := 15, code := code, exceptionTable := #[], attributes := #[] }
def k1m2 : Method := { name := "law", desc := "(IIIII)Z", sig := { parameters := [.int, .int, .int, .int, .int], returnType := some .boolean }, accessFlags := 9, code := some k1c2 }
/-- com/example/mintage/mintage/finding/PositionHashCodePinLaw -/
def k1 : Class := { plain "com/example/mintage/mintage/finding/PositionHashCodePinLaw" (some 0) with
  accessFlags := 49
  interfaces := #[]
  cf := some (fileOf pool1 15 #[] #[{ accessFlags := 2, nameIndex := 5, descriptorIndex := 6, attributes := #[] }, { accessFlags := 10, nameIndex := 18, descriptorIndex := 19, attributes := #[] }, { accessFlags := 9, nameIndex := 35, descriptorIndex := 36, attributes := #[] }] 49 2 #[] #[])
  fields := #[]
  methods := #[k1m0, k1m1, k1m2]
  instanceTypes := #[]
  staticTypes := #[]
  resolved := Array.replicate 40 none
  statics := none }

def pool2 : Array CpInfo := pool [(1, .class_ 2), (0, u "java/lang/Math"), (1, .class_ 6), (1, u "java/lang/Object"), (0, u "<init>"), (0, u "()V"), (89, .class_ 100), (1, u "java/lang/Math$RandomNumberGeneratorHolder"), (71, u "negativeZeroFloatBits"), (0, u "J"), (2, u "negativeZeroDoubleBits"), (21, u "max"), (46, u "$assertionsDisabled"), (0, u "Z"), (88, u "(II)I"), (2, u "twoToTheDoubleScaleDown"), (0, u "D"), (4, u "twoToTheDoubleScaleUp"), (9, u "E"), (3, u "PI"), (2, u "TAU"), (2, u "DEGREES_TO_RADIANS"), (0, u "RADIANS_TO_DEGREES")] 94

def k2m0 : Method := { name := "<init>", desc := "()V", sig := { parameters := [], returnType := none }, accessFlags := 2, code := none }
def k2c1 : Code := { maxStack := 2, maxLocals := 2, code := jdk_29_method_65_code, exceptionTable := #[], attributes := #[] }
def k2m1 : Method := { name := "max", desc := "(II)I", sig := { parameters := [.int, .int], returnType := some .int }, accessFlags := 9, code := some k2c1 }
/-- java/lang/Math -/
def k2 : Class := { plain "java/lang/Math" (some 0) with
  accessFlags := 49
  interfaces := #[]
  cf := some (fileOf pool2 1 #[.nestMembers #[98]] #[{ accessFlags := 2, nameIndex := 7, descriptorIndex := 8, attributes := #[] }, { accessFlags := 9, nameIndex := 198, descriptorIndex := 335, attributes := #[] }] 49 4 #[] #[{ accessFlags := 25, nameIndex := 354, descriptorIndex := 339, attributes := #[] }, { accessFlags := 25, nameIndex := 358, descriptorIndex := 339, attributes := #[] }, { accessFlags := 25, nameIndex := 361, descriptorIndex := 339, attributes := #[] }, { accessFlags := 26, nameIndex := 364, descriptorIndex := 339, attributes := #[] }, { accessFlags := 26, nameIndex := 365, descriptorIndex := 339, attributes := #[] }, { accessFlags := 26, nameIndex := 172, descriptorIndex := 173, attributes := #[] }, { accessFlags := 26, nameIndex := 176, descriptorIndex := 173, attributes := #[] }, { accessFlags := 8, nameIndex := 344, descriptorIndex := 339, attributes := #[] }, { accessFlags := 8, nameIndex := 338, descriptorIndex := 339, attributes := #[] }, { accessFlags := 4120, nameIndex := 245, descriptorIndex := 246, attributes := #[] }])
  fields := #[{ name := "E", type := .double, accessFlags := 25, slot := 0, constantValue := 0 }, { name := "PI", type := .double, accessFlags := 25, slot := 1, constantValue := 0 }, { name := "TAU", type := .double, accessFlags := 25, slot := 2, constantValue := 0 }, { name := "DEGREES_TO_RADIANS", type := .double, accessFlags := 26, slot := 3, constantValue := 0 }, { name := "RADIANS_TO_DEGREES", type := .double, accessFlags := 26, slot := 4, constantValue := 0 }, { name := "negativeZeroFloatBits", type := .long, accessFlags := 26, slot := 5, constantValue := 0 }, { name := "negativeZeroDoubleBits", type := .long, accessFlags := 26, slot := 6, constantValue := 0 }, { name := "twoToTheDoubleScaleUp", type := .double, accessFlags := 8, slot := 7, constantValue := 0 }, { name := "twoToTheDoubleScaleDown", type := .double, accessFlags := 8, slot := 8, constantValue := 0 }, { name := "$assertionsDisabled", type := .boolean, accessFlags := 4120, slot := 9, constantValue := 0 }]
  methods := #[k2m0, k2m1]
  instanceTypes := #[]
  staticTypes := #[.double, .double, .double, .double, .double, .long, .long, .double, .double, .boolean]
  resolved := Array.replicate 460 none
  statics := none }

def pool3 : Array CpInfo := pool [(1, .class_ 2), (0, u "java/lang/Comparable"), (0, .class_ 4), (0, u "java/lang/Object")] 7

/-- java/lang/Comparable -/
def k3 : Class := { plain "java/lang/Comparable" (some 0) with
  accessFlags := 1537
  interfaces := #[]
  cf := some (fileOf pool3 1 #[] #[] 1537 3 #[] #[])
  fields := #[]
  methods := #[]
  instanceTypes := #[]
  staticTypes := #[]
  resolved := Array.replicate 12 none
  statics := none }

def pool4 : Array CpInfo := pool [(1, .methodref 2 3), (0, .class_ 4), (0, .nameAndType 5 6), (0, u "java/lang/Object"), (0, u "<init>"), (0, u "()V"), (9, .fieldref 17 18), (0, .class_ 19), (0, .nameAndType 20 21), (0, u "com/example/mintage/mintage/finding/Position"), (0, u "line"), (0, u "I"), (0, .fieldref 17 23), (0, .nameAndType 24 21), (0, u "column"), (11, .class_ 37), (0, u "java/lang/Comparable"), (0, u "(II)V"), (3, u "()I"), (0, u "equals"), (0, u "(Ljava/lang/Object;)Z"), (0, u "hashCode")] 25

def k4c0 : Code := { maxStack := 4, maxLocals := 3, code := prog_4_method_1_code, exceptionTable := #[], attributes := #[] }
def k4m0 : Method := { name := "<init>", desc := "(II)V", sig := { parameters := [.int, .int], returnType := none }, accessFlags := 1, code := some k4c0 }
def k4c1 : Code := { maxStack := 2, maxLocals := 3, code := prog_4_method_5_code, exceptionTable := #[], attributes := #[] }
def k4m1 : Method := { name := "equals", desc := "(Ljava/lang/Object;)Z", sig := { parameters := [(.object "java/lang/Object")], returnType := some .boolean }, accessFlags := 1, code := some k4c1 }
def k4c2 : Code := { maxStack := 2, maxLocals := 1, code := prog_4_method_6_code, exceptionTable := #[], attributes := #[] }
def k4m2 : Method := { name := "hashCode", desc := "()I", sig := { parameters := [], returnType := some .int }, accessFlags := 1, code := some k4c2 }
/-- com/example/mintage/mintage/finding/Position -/
def k4 : Class := { plain "com/example/mintage/mintage/finding/Position" (some 0) with
  accessFlags := 49
  interfaces := #[3]
  cf := some (fileOf pool4 17 #[] #[{ accessFlags := 1, nameIndex := 5, descriptorIndex := 38, attributes := #[] }, { accessFlags := 1, nameIndex := 43, descriptorIndex := 44, attributes := #[] }, { accessFlags := 1, nameIndex := 45, descriptorIndex := 42, attributes := #[] }] 49 2 #[36] #[{ accessFlags := 18, nameIndex := 20, descriptorIndex := 21, attributes := #[] }, { accessFlags := 18, nameIndex := 24, descriptorIndex := 21, attributes := #[] }])
  fields := #[{ name := "line", type := .int, accessFlags := 18, slot := 0, constantValue := 0 }, { name := "column", type := .int, accessFlags := 18, slot := 1, constantValue := 0 }]
  methods := #[k4m0, k4m1, k4m2]
  instanceTypes := #[.int, .int]
  staticTypes := #[]
  resolved := Array.replicate 71 none
  statics := none }

def pool5 : Array CpInfo := pool [(1, u "java/lang/Cloneable"), (0, .class_ 1), (0, u "java/lang/Object"), (0, .class_ 3)] 3

/-- java/lang/Cloneable -/
def k5 : Class := { plain "java/lang/Cloneable" (some 0) with
  accessFlags := 1537
  interfaces := #[]
  cf := some (fileOf pool5 2 #[] #[] 1537 4 #[] #[])
  fields := #[]
  methods := #[]
  instanceTypes := #[]
  staticTypes := #[]
  resolved := Array.replicate 8 none
  statics := none }

def pool6 : Array CpInfo := pool [(1, u "java/io/Serializable"), (0, .class_ 1), (0, u "java/lang/Object"), (0, .class_ 3)] 3

/-- java/io/Serializable -/
def k6 : Class := { plain "java/io/Serializable" (some 0) with
  accessFlags := 1537
  interfaces := #[]
  cf := some (fileOf pool6 2 #[] #[] 1537 4 #[] #[])
  fields := #[]
  methods := #[]
  instanceTypes := #[]
  staticTypes := #[]
  resolved := Array.replicate 8 none
  statics := none }

/-- the primitive byte -/
def k7 : Class := { plain "byte" none with kind := .primitive 'B', accessFlags := 0x411 }
/-- [B -/
def k8 : Class := { plain "[B" (some 0) with kind := .array 7 .byte, interfaces := #[5, 6], accessFlags := 1041 }

/-- the primitive int -/
def k9 : Class := { plain "int" none with kind := .primitive 'I', accessFlags := 0x411 }
/-- [I -/
def k10 : Class := { plain "[I" (some 0) with kind := .array 9 .int, interfaces := #[5, 6], accessFlags := 1041 }

def heap : Heap := #[]
def classes : Array Class := #[k0, k1, k2, k3, k4, k5, k6, k7, k8, k9, k10]
def interned : List (Array UInt16 × Addr) := []
def slotsUsed : Nat := 0
def theMethod : MethodId := ⟨1, 2⟩
def args0 : Array Value := #[.int 5, .int 7, .int 1, .int 2, .int 3]
def aboutOver (below : List Frame) : State where
  vm := { classes := classes, interned := interned.toArray }
  heap := heap
  slotsUsed := slotsUsed
  threads := #[{ frames := .invoking theMethod args0 :: below }]
def below0 : List Frame := [.native { method := ⟨0, 0⟩, args := #[] }]
def about1 : State := aboutOver below0
def p0 : Program := .bare "" "" ""
def e0 : Env := launch0.env 0 0 0
theorem w_frames : about1.frames = Frame.invoking theMethod args0 :: below0 := rfl
set_option maxRecDepth 65536 in
theorem w_args : argsFit about1.vm theMethod args0 = true := by decide +kernel
set_option maxRecDepth 65536 in
theorem w_heap : heapFits about1 = true := by decide +kernel
set_option maxRecDepth 65536 in
theorem w_runnable : about1.curStatus? = some .runnable := by decide +kernel
set_option maxRecDepth 65536 in
theorem w_alone : about1.alone = true := by decide +kernel
set_option maxRecDepth 65536 in
theorem w_named : about1.methodNamed? x = some theMethod := by decide +kernel
set_option maxRecDepth 65536 in
theorem w_hears : about1.hears theMethod below0 = true := by decide +kernel
set_option maxRecDepth 65536 in
theorem w_ripe : about1.ripe theMethod args0 below0 = true := by decide +kernel
theorem w_running : about1.status = .running := rfl
set_option maxRecDepth 65536 in
theorem w_room : about1.hasRoom e0.platform room_1 = true :=
  launch0.hasRoom_least _ room_1 (by decide +kernel) (by decide +kernel) (by decide +kernel) (by decide +kernel) (by decide +kernel) (by decide +kernel)
theorem allAtoms_all (ts : List Jvm.Cond) (a : Array Jvm.Value) (st : Jvm.State) : (allAtoms ts).before a st = ts.all (fun c => c.before a st) := by
  induction ts with
  | nil => rfl
  | cons c t ih =>
    show (Jvm.Cond.and c (allAtoms t)).before a st = _
    rw [Jvm.Cond.before_and, ih, List.all_cons]
def words1 : List Jvm.Cond := Jvm.Cond.code x code maxLocals ret :: tables_1
/-- a 'code' word, met by the world's own term for the bytes: nothing is compared byte by byte -/
theorem code_word {y : MethodName} {bytes : ByteArray} {mx : Nat} {rt : Option FieldType} {a : Array Value} {s : State} {m : MethodId} {meth : Method} {c : Code} (h1 : s.methodNamed? y = some m) (h2 : s.vm.method? m = some meth) (h3 : meth.code = some c) (h4 : c.code = bytes)
    (h5 : (c.maxLocals == mx && c.exceptionTable.isEmpty && decide (c.maxStack ≤ mostOperands) && decide (meth.sig.returnType = rt) && !meth.locks && decide (parseMethodDescriptor y.desc = some meth.sig)) = true) : (Jvm.Cond.code y bytes mx rt).before a s = true := by
  simp only [Bool.and_eq_true, beq_iff_eq, Bool.not_eq_true', decide_eq_true_eq] at h5
  obtain ⟨⟨⟨⟨⟨g1, g2⟩, g3⟩, g4⟩, g5⟩, g6⟩ := h5
  simp [Cond.before, Cond.holds, Cond.value, h1, h2, h3, h4, g1, g2, g3, g4, g5, g6]
def isCode : Jvm.Cond → Bool
  | .code _ _ _ _ => true
  | _ => false
theorem all_split {L : List Jvm.Cond} {P : Jvm.Cond → Bool} (h1 : L.all (fun c => isCode c || P c) = true) (h2 : ∀ c ∈ L.filter isCode, P c = true) : L.all P = true := by
  refine List.all_eq_true.mpr fun c hc => ?_
  have h := List.all_eq_true.mp h1 c hc
  rcases Bool.eq_false_or_eq_true (isCode c) with hi | hi
  · exact h2 c (List.mem_filter.mpr ⟨hc, hi⟩)
  · simpa [hi] using h
set_option maxRecDepth 65536 in
theorem w_c0 : (Jvm.Cond.code x code maxLocals ret).before args0 about1 = true := code_word (m := ⟨1, 2⟩) (meth := k1m2) (c := k1c2) (by decide +kernel) rfl rfl rfl (by decide +kernel)
set_option maxRecDepth 65536 in
theorem w_c1 : (Jvm.Cond.code ({ cls := "com/example/mintage/mintage/finding/PositionHashCodePinLaw", name := "positive", desc := "(I)I" } : Jvm.MethodName) method_2_code (1 : Nat) (Option.some Jvm.ClassFile.FieldType.int)).before args0 about1 = true := code_word (m := ⟨1, 1⟩) (meth := k1m1) (c := k1c1) (by decide +kernel) rfl rfl rfl (by decide +kernel)
set_option maxRecDepth 65536 in
theorem w_c2 : (Jvm.Cond.code ({ cls := "java/lang/Math", name := "max", desc := "(II)I" } : Jvm.MethodName) jdk_29_method_65_code (2 : Nat) (Option.some Jvm.ClassFile.FieldType.int)).before args0 about1 = true := code_word (m := ⟨2, 1⟩) (meth := k2m1) (c := k2c1) (by decide +kernel) rfl rfl rfl (by decide +kernel)
set_option maxRecDepth 65536 in
theorem w_c3 : (Jvm.Cond.code ({ cls := "com/example/mintage/mintage/finding/Position", name := "<init>", desc := "(II)V" } : Jvm.MethodName) prog_4_method_1_code (3 : Nat) (Option.none : Option Jvm.ClassFile.FieldType)).before args0 about1 = true := code_word (m := ⟨4, 0⟩) (meth := k4m0) (c := k4c0) (by decide +kernel) rfl rfl rfl (by decide +kernel)
set_option maxRecDepth 65536 in
theorem w_c4 : (Jvm.Cond.code ({ cls := "java/lang/Object", name := "<init>", desc := "()V" } : Jvm.MethodName) object_method_1_code (1 : Nat) (Option.none : Option Jvm.ClassFile.FieldType)).before args0 about1 = true := code_word (m := ⟨0, 0⟩) (meth := k0m0) (c := k0c0) (by decide +kernel) rfl rfl rfl (by decide +kernel)
set_option maxRecDepth 65536 in
theorem w_c5 : (Jvm.Cond.code ({ cls := "com/example/mintage/mintage/finding/Position", name := "hashCode", desc := "()I" } : Jvm.MethodName) prog_4_method_6_code (1 : Nat) (Option.some Jvm.ClassFile.FieldType.int)).before args0 about1 = true := code_word (m := ⟨4, 2⟩) (meth := k4m2) (c := k4c2) (by decide +kernel) rfl rfl rfl (by decide +kernel)
set_option maxRecDepth 65536 in
theorem w_c6 : (Jvm.Cond.code ({ cls := "com/example/mintage/mintage/finding/Position", name := "equals", desc := "(Ljava/lang/Object;)Z" } : Jvm.MethodName) prog_4_method_5_code (3 : Nat) (Option.some Jvm.ClassFile.FieldType.boolean)).before args0 about1 = true := code_word (m := ⟨4, 1⟩) (meth := k4m1) (c := k4c1) (by decide +kernel) rfl rfl rfl (by decide +kernel)
def codes1 : List Jvm.Cond := [Jvm.Cond.code x code maxLocals ret, Jvm.Cond.code ({ cls := "com/example/mintage/mintage/finding/PositionHashCodePinLaw", name := "positive", desc := "(I)I" } : Jvm.MethodName) method_2_code (1 : Nat) (Option.some Jvm.ClassFile.FieldType.int), Jvm.Cond.code ({ cls := "java/lang/Math", name := "max", desc := "(II)I" } : Jvm.MethodName) jdk_29_method_65_code (2 : Nat) (Option.some Jvm.ClassFile.FieldType.int), Jvm.Cond.code ({ cls := "com/example/mintage/mintage/finding/Position", name := "<init>", desc := "(II)V" } : Jvm.MethodName) prog_4_method_1_code (3 : Nat) (Option.none : Option Jvm.ClassFile.FieldType), Jvm.Cond.code ({ cls := "java/lang/Object", name := "<init>", desc := "()V" } : Jvm.MethodName) object_method_1_code (1 : Nat) (Option.none : Option Jvm.ClassFile.FieldType), Jvm.Cond.code ({ cls := "com/example/mintage/mintage/finding/Position", name := "hashCode", desc := "()I" } : Jvm.MethodName) prog_4_method_6_code (1 : Nat) (Option.some Jvm.ClassFile.FieldType.int), Jvm.Cond.code ({ cls := "com/example/mintage/mintage/finding/Position", name := "equals", desc := "(Ljava/lang/Object;)Z" } : Jvm.MethodName) prog_4_method_5_code (3 : Nat) (Option.some Jvm.ClassFile.FieldType.boolean)]
set_option maxRecDepth 65536 in
theorem codes_eq : words1.filter isCode = codes1 := rfl
theorem w_codes : ∀ c ∈ words1.filter isCode, c.before args0 about1 = true := by
  rw [codes_eq]
  intro c hc
  simp only [codes1, List.mem_cons, List.not_mem_nil, or_false] at hc
  rcases hc with rfl | rfl | rfl | rfl | rfl | rfl | rfl
  · exact w_c0
  · exact w_c1
  · exact w_c2
  · exact w_c3
  · exact w_c4
  · exact w_c5
  · exact w_c6
set_option maxRecDepth 65536 in
theorem w_t1 : (words1.take 24).all (fun c => isCode c || c.before args0 about1) = true := by decide +kernel
set_option maxRecDepth 65536 in
theorem w_t2 : (words1.drop 24).all (fun c => isCode c || c.before args0 about1) = true := by decide +kernel
theorem w_tables : (allAtoms (Jvm.Cond.code x code maxLocals ret :: tables_1)).before args0 about1 = true := by
  rw [allAtoms_all]
  show words1.all (fun c => c.before args0 about1) = true
  refine all_split ?_ w_codes
  rw [← List.take_append_drop 24 words1, List.all_append, w_t1, w_t2]
  rfl
set_option maxRecDepth 65536 in
theorem w_case : (Jvm.Cond.and given_1 narrow_1).before args0 about1 = true := by decide +kernel
theorem w_applies : (headSpec (Jvm.Cond.code x code maxLocals ret :: tables_1) room_1).applies x e0.platform about1 = true :=
  (Spec.applies_iff w_frames).mpr ⟨w_running, w_runnable, w_alone, w_named, w_hears, w_ripe, w_room, w_tables⟩
theorem atStart : AtStart classFile x code maxLocals ret World_1 tables_1 room_1 Calls_1 rest_1 Pre_1 launch0 p0 e0 about1 theMethod args0 below0 :=
  ⟨lists_1, trivial, launch0.admits_env _ _ _, launch0.least_env, fairChoices_fair.cas, fairChoices_fair.clock, w_frames, w_args, w_heap, w_applies, trivial, trivial, w_case⟩
end start1
theorem witness_1 : WitnessClaimed_1 := ⟨start1.p0, start1.e0, start1.about1, start1.theMethod, start1.args0, start1.below0, start1.atStart⟩
end Jvm.Pilot.@@N@@
