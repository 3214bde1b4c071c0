import JvmDerived
import JvmDerived.Pilot.@@N@@Statement
import JvmDerived.Pilot.@@N@@Code
set_option linter.unusedVariables false
set_option linter.unusedSimpArgs false
namespace Jvm.RoadKit
open Sem ClassFile Op Lib Jvm.Stand Jvm.Free Jvm.LawKit
section New
variable {p : Program} {l : Launch} {e : Env} {R : Room} {s : State} {m : MethodId} {args : Array Value} {below : List Frame} {meth : Method} {c : Code} {T : State} {locs : List Loc} {cells slots : Nat}
theorem retI (X : Stand p l e R s m args below meth c T locs cells slots) (hx : p.tables.exec = Jvm.exec) {pc : Nat} {Ls : Array Slot} {z : Int32} {rest : List Value} (hret : meth.sig.returnType = some .int) (hd : decode c.code pc = .ok (.ireturn, 1)) {fs : List Frame}
    (hl : ∀ (f : JFrame) (acts : List Action), f.method = m → f.locked = none → f.entered = [] → (doReturn e (T.setTop f) acts (some (.int z))).1 = T.setFrames fs) : Steps p.tables e below (T.setTop (mkF m pc Ls (.int z :: rest))) (T.setFrames fs) := by
  have hm' : T.vm.method? m = some meth := X.method'
  have hn : narrow .int (.int z) = .int z := rfl
  show Steps p.tables e below (T.setTop { method := m, pc := pc, locals := Ls, stack := _ :: rest, locked := none }) _
  jvm_step X.here [X.here.top, hx, hd, hm', hret, hn]
  first | (intro acts; rw [hl _ acts rfl rfl rfl]) | rw [hl _ _ rfl rfl rfl]
  exact Steps.refl _
end New
end Jvm.RoadKit
namespace Jvm.Pilot.@@N@@
open Jvm Jvm.ClassFile Sem Op Lib Jvm.Free Jvm.Stand Jvm.LawKit Jvm.RoadKit Bundle Jvm.Pilot.@@N@@.Jvm.D
/-- what the return with the value v leads to -/
def own_RetTo (e : Env) (T : State) (m : MethodId) (v : Option Value) (fs : List Frame) : Prop := ∀ (f : JFrame) (acts : List Action), f.method = m → f.locked = none → f.entered = [] → (doReturn e (T.setTop f) acts v).1 = T.setFrames fs
def f1_0 (u0 : Int32) : Int32 := (if u0 = (32 : Int32) then (1 : Int32) else (if u0 = (9 : Int32) then (1 : Int32) else (if u0 = (10 : Int32) then (1 : Int32) else (if u0 = (13 : Int32) then (1 : Int32) else (0 : Int32)))))
theorem d1_0 : decode prog_31_method_23_code 0 = .ok (.iload_n 0, 1) := by decide +kernel
theorem d1_1 : decode prog_31_method_23_code 1 = .ok (.bipush 32, 2) := by decide +kernel
theorem d1_3 : decode prog_31_method_23_code 3 = .ok (.if_icmp .eq 21, 3) := by decide +kernel
theorem d1_6 : decode prog_31_method_23_code 6 = .ok (.iload_n 0, 1) := by decide +kernel
theorem d1_7 : decode prog_31_method_23_code 7 = .ok (.bipush 9, 2) := by decide +kernel
theorem d1_9 : decode prog_31_method_23_code 9 = .ok (.if_icmp .eq 15, 3) := by decide +kernel
theorem d1_12 : decode prog_31_method_23_code 12 = .ok (.iload_n 0, 1) := by decide +kernel
theorem d1_13 : decode prog_31_method_23_code 13 = .ok (.bipush 10, 2) := by decide +kernel
theorem d1_15 : decode prog_31_method_23_code 15 = .ok (.if_icmp .eq 9, 3) := by decide +kernel
theorem d1_18 : decode prog_31_method_23_code 18 = .ok (.iload_n 0, 1) := by decide +kernel
theorem d1_19 : decode prog_31_method_23_code 19 = .ok (.bipush 13, 2) := by decide +kernel
theorem d1_21 : decode prog_31_method_23_code 21 = .ok (.if_icmp .ne 7, 3) := by decide +kernel
theorem d1_24 : decode prog_31_method_23_code 24 = .ok (.iconst 1, 1) := by decide +kernel
theorem d1_25 : decode prog_31_method_23_code 25 = .ok (.goto 4, 3) := by decide +kernel
theorem d1_28 : decode prog_31_method_23_code 28 = .ok (.iconst 0, 1) := by decide +kernel
theorem d1_29 : decode prog_31_method_23_code 29 = .ok (.ireturn, 1) := by decide +kernel
theorem pn_0 : plainName "com/example/bingli/bingli/core/MarkupTrack" = true := by first | (simp [plainName, overriddenIn]; done) | decide +kernel
theorem ef_1 (m : MethodId) (x0 : Int32) : entryFrame m #[(.int x0)] 1 = mkF m 0 #[.val (.int x0)] [] := by first | (simp [entryFrame, mkF, argsToLocals, Value.category]; done) | rfl
def Q1 (Z : State) (u0 : Int32) (h0 : Heap) (n0 : Nat) (v : Option Value) (h : Heap) (L : List Loc) : Prop := v = some (.int (f1_0 u0)) ∧ Fr n0 L ∧ h = h0
set_option maxRecDepth 65536 in
set_option maxHeartbeats 40000000 in
theorem rm1 (l : Launch) (Z : State) (a0 : Array Value) (hw : ∀ d ∈ tables_1, d.before a0 Z = true) (ws : List Jvm.Cond) (u0 : Int32) (h0 : Heap) (n0 : Nat) :
    MetFree l (⟨"com/example/bingli/bingli/core/MarkupTrack", "isSpace", "(I)Z"⟩ : MethodName) (head1 (Jvm.Cond.code (⟨"com/example/bingli/bingli/core/MarkupTrack", "isSpace", "(I)Z"⟩ : MethodName) prog_31_method_23_code 1 (some .boolean) :: ws) ({ frames := 0, cells := 0, slots := 0, locals := 0 } : Room)) (fun a U => a = #[(.int u0)] ∧ Z.Warmed39 U.vm ∧ U.heap = h0) (fun _ _ _ _ _ => True) (fun _ U o U' => ∃ v L, o = .returned v ∧ Q1 Z u0 h0 n0 v U'.heap L ∧ FrameEnd U o U' L ({ frames := 0, cells := 0, slots := 0, locals := 0 } : Room).cells ({ frames := 0, cells := 0, slots := 0, locals := 0 } : Room).slots) := by
  refine MetFree.of_bodySF (plainFor_of_name pn_0) hisR ?_
  intro p e s m args below meth c s₁ Bd hml0 hP hK
  obtain ⟨rfl, hZ, hh⟩ := hP
  have hx := Bd.exec
  have hby := Bd.bytes
  have hml : c.maxLocals = 1 := hml0
  have hown : s.vm.findClass "com/example/bingli/bingli/core/MarkupTrack" = some m.cls := findClass_of_methodNamed Bd.named
  have hnm := (name_of_methodNamed Bd.named Bd.method).1
  have X0 : Stand p l e ({ frames := 0, cells := 0, slots := 0, locals := 0 } : Room) s m #[(.int u0)] below meth c s₁ [] 0 0 := Stand.of_body Bd
  have e0 : s₁.heap = h0 := by rw [← hh, Bd.state]; rfl
  have N0 := Fr.nil n0
  have pre0 : ∀ t, Steps p.tables e below (s₁.setTop (mkF m 0 #[.val (.int u0)] [])) t → Steps p.tables e below (s₁.setTop (entryFrame m #[(.int u0)] 1)) t := fun t k => castTop (ef_1 m u0) k
  have sg0 : ∀ {fs : List Frame}, own_RetTo e s₁ m (some (.int (f1_0 u0))) fs → Steps p.tables e below (s₁.setTop (mkF m 0 #[.val (.int u0)] [])) (s₁.setFrames fs) := by
    intro fs hr
    show Steps p.tables e below (s₁.setTop (mkF m 0 #[.val (.int u0)] [])) _
    refine XS.iloadN X0.here hx rfl (hb hby d1_0) rfl ?_
    show Steps p.tables e below (s₁.setTop (mkF m 1 #[.val (.int u0)] [(.int u0)])) _
    refine XS.bipush X0.here hx rfl (hb hby d1_1) ?_
    show Steps p.tables e below (s₁.setTop (mkF m 3 #[.val (.int u0)] [(.int (32 : Int32)), (.int u0)])) _
    by_cases hc3 : u0 = (32 : Int32)
    · refine XS.icmpYes X0.here hx rfl (pc0 := 3) (pc' := 24) rfl (hb hby d1_3) rfl (teq hc3).1 (by decide) (by decide) ?_
      show Steps p.tables e below (s₁.setTop (mkF m 24 #[.val (.int u0)] [])) _
      refine XS.iconst X0.here hx rfl (hb hby d1_24) ?_
      show Steps p.tables e below (s₁.setTop (mkF m 25 #[.val (.int u0)] [(.int (1 : Int32))])) _
      refine XS.goto X0.here hx rfl (pc0 := 25) (pc' := 29) rfl (hb hby d1_25) (by decide) (by decide) ?_
      have hv : f1_0 u0 = (1 : Int32) := by unfold f1_0; rw [if_pos hc3]
      rw [hv] at hr
      show Steps p.tables e below (s₁.setTop (mkF m 29 #[.val (.int u0)] [(.int (1 : Int32))])) _
      exact retN X0 hx (t := .boolean) Bd.returns (by simp) (hb hby d1_29) hr
    · refine XS.icmpNo X0.here hx rfl (hb hby d1_3) rfl (feq hc3).1 ?_
      show Steps p.tables e below (s₁.setTop (mkF m 6 #[.val (.int u0)] [])) _
      refine XS.iloadN X0.here hx rfl (hb hby d1_6) rfl ?_
      show Steps p.tables e below (s₁.setTop (mkF m 7 #[.val (.int u0)] [(.int u0)])) _
      refine XS.bipush X0.here hx rfl (hb hby d1_7) ?_
      show Steps p.tables e below (s₁.setTop (mkF m 9 #[.val (.int u0)] [(.int (9 : Int32)), (.int u0)])) _
      by_cases hc9 : u0 = (9 : Int32)
      · refine XS.icmpYes X0.here hx rfl (pc0 := 9) (pc' := 24) rfl (hb hby d1_9) rfl (teq hc9).1 (by decide) (by decide) ?_
        show Steps p.tables e below (s₁.setTop (mkF m 24 #[.val (.int u0)] [])) _
        refine XS.iconst X0.here hx rfl (hb hby d1_24) ?_
        show Steps p.tables e below (s₁.setTop (mkF m 25 #[.val (.int u0)] [(.int (1 : Int32))])) _
        refine XS.goto X0.here hx rfl (pc0 := 25) (pc' := 29) rfl (hb hby d1_25) (by decide) (by decide) ?_
        have hv : f1_0 u0 = (1 : Int32) := by unfold f1_0; rw [if_neg hc3, if_pos hc9]
        rw [hv] at hr
        show Steps p.tables e below (s₁.setTop (mkF m 29 #[.val (.int u0)] [(.int (1 : Int32))])) _
        exact retN X0 hx (t := .boolean) Bd.returns (by simp) (hb hby d1_29) hr
      · refine XS.icmpNo X0.here hx rfl (hb hby d1_9) rfl (feq hc9).1 ?_
        show Steps p.tables e below (s₁.setTop (mkF m 12 #[.val (.int u0)] [])) _
        refine XS.iloadN X0.here hx rfl (hb hby d1_12) rfl ?_
        show Steps p.tables e below (s₁.setTop (mkF m 13 #[.val (.int u0)] [(.int u0)])) _
        refine XS.bipush X0.here hx rfl (hb hby d1_13) ?_
        show Steps p.tables e below (s₁.setTop (mkF m 15 #[.val (.int u0)] [(.int (10 : Int32)), (.int u0)])) _
        by_cases hc15 : u0 = (10 : Int32)
        · refine XS.icmpYes X0.here hx rfl (pc0 := 15) (pc' := 24) rfl (hb hby d1_15) rfl (teq hc15).1 (by decide) (by decide) ?_
          show Steps p.tables e below (s₁.setTop (mkF m 24 #[.val (.int u0)] [])) _
          refine XS.iconst X0.here hx rfl (hb hby d1_24) ?_
          show Steps p.tables e below (s₁.setTop (mkF m 25 #[.val (.int u0)] [(.int (1 : Int32))])) _
          refine XS.goto X0.here hx rfl (pc0 := 25) (pc' := 29) rfl (hb hby d1_25) (by decide) (by decide) ?_
          have hv : f1_0 u0 = (1 : Int32) := by unfold f1_0; rw [if_neg hc3, if_neg hc9, if_pos hc15]
          rw [hv] at hr
          show Steps p.tables e below (s₁.setTop (mkF m 29 #[.val (.int u0)] [(.int (1 : Int32))])) _
          exact retN X0 hx (t := .boolean) Bd.returns (by simp) (hb hby d1_29) hr
        · refine XS.icmpNo X0.here hx rfl (hb hby d1_15) rfl (feq hc15).1 ?_
          show Steps p.tables e below (s₁.setTop (mkF m 18 #[.val (.int u0)] [])) _
          refine XS.iloadN X0.here hx rfl (hb hby d1_18) rfl ?_
          show Steps p.tables e below (s₁.setTop (mkF m 19 #[.val (.int u0)] [(.int u0)])) _
          refine XS.bipush X0.here hx rfl (hb hby d1_19) ?_
          show Steps p.tables e below (s₁.setTop (mkF m 21 #[.val (.int u0)] [(.int (13 : Int32)), (.int u0)])) _
          by_cases hc21 : u0 = (13 : Int32)
          · refine XS.icmpNo X0.here hx rfl (hb hby d1_21) rfl (teq hc21).2 ?_
            show Steps p.tables e below (s₁.setTop (mkF m 24 #[.val (.int u0)] [])) _
            refine XS.iconst X0.here hx rfl (hb hby d1_24) ?_
            show Steps p.tables e below (s₁.setTop (mkF m 25 #[.val (.int u0)] [(.int (1 : Int32))])) _
            refine XS.goto X0.here hx rfl (pc0 := 25) (pc' := 29) rfl (hb hby d1_25) (by decide) (by decide) ?_
            have hv : f1_0 u0 = (1 : Int32) := by unfold f1_0; rw [if_neg hc3, if_neg hc9, if_neg hc15, if_pos hc21]
            rw [hv] at hr
            show Steps p.tables e below (s₁.setTop (mkF m 29 #[.val (.int u0)] [(.int (1 : Int32))])) _
            exact retN X0 hx (t := .boolean) Bd.returns (by simp) (hb hby d1_29) hr
          · refine XS.icmpYes X0.here hx rfl (pc0 := 21) (pc' := 28) rfl (hb hby d1_21) rfl (feq hc21).2 (by decide) (by decide) ?_
            show Steps p.tables e below (s₁.setTop (mkF m 28 #[.val (.int u0)] [])) _
            refine XS.iconst X0.here hx rfl (hb hby d1_28) ?_
            have hv : f1_0 u0 = (0 : Int32) := by unfold f1_0; rw [if_neg hc3, if_neg hc9, if_neg hc15, if_neg hc21]
            rw [hv] at hr
            show Steps p.tables e below (s₁.setTop (mkF m 29 #[.val (.int u0)] [(.int (0 : Int32))])) _
            exact retN X0 hx (t := .boolean) Bd.returns (by simp) (hb hby d1_29) hr
  obtain ⟨fs, hr, hrun, hended, hW, hsame⟩ := X0.leave (v := some (.int (f1_0 u0))) (fun h => by rw [Bd.returns] at h; cases h)
  refine ⟨_, _, pre0 _ ?_, hrun, hended, _, _, rfl, ?_, ⟨_, rfl⟩, hW, hsame.mono (by decide) (by decide)⟩
  · show Steps p.tables e below (s₁.setTop (mkF m 0 #[.val (.int u0)] [])) _
    exact sg0 hr
  · show Q1 Z u0 h0 n0 _ s₁.heap _
    rw [e0]
    exact ⟨rfl, N0, rfl⟩
def f2_0 (u0 : Int32) : Int32 := (if u0 < (0 : Int32) then (0 : Int32) else (if (32 : Int32) < u0 then (0 : Int32) else (if ((((4294977024 : Int64).toUInt64 >>> (u0 &&& 0x3f).toInt64.toUInt64).toInt64) &&& (1 : Int64)) = (1 : Int64) then (1 : Int32) else (0 : Int32))))
theorem d2_0 : decode method_2_code 0 = .ok (.iload_n 0, 1) := by decide +kernel
theorem d2_1 : decode method_2_code 1 = .ok (.ifCond .lt 9, 3) := by decide +kernel
theorem d2_4 : decode method_2_code 4 = .ok (.iload_n 0, 1) := by decide +kernel
theorem d2_5 : decode method_2_code 5 = .ok (.bipush 32, 2) := by decide +kernel
theorem d2_7 : decode method_2_code 7 = .ok (.if_icmp .le 5, 3) := by decide +kernel
theorem d2_10 : decode method_2_code 10 = .ok (.iconst 0, 1) := by decide +kernel
theorem d2_11 : decode method_2_code 11 = .ok (.ireturn, 1) := by decide +kernel
theorem d2_12 : decode method_2_code 12 = .ok (.ldc2_w 9, 3) := by decide +kernel
theorem d2_15 : decode method_2_code 15 = .ok (.iload_n 0, 1) := by decide +kernel
theorem d2_16 : decode method_2_code 16 = .ok (.lushr, 1) := by decide +kernel
theorem d2_17 : decode method_2_code 17 = .ok (.lconst 1, 1) := by decide +kernel
theorem d2_18 : decode method_2_code 18 = .ok (.land, 1) := by decide +kernel
theorem d2_19 : decode method_2_code 19 = .ok (.lconst 1, 1) := by decide +kernel
theorem d2_20 : decode method_2_code 20 = .ok (.lcmp, 1) := by decide +kernel
theorem d2_21 : decode method_2_code 21 = .ok (.ifCond .ne 7, 3) := by decide +kernel
theorem d2_24 : decode method_2_code 24 = .ok (.iconst 1, 1) := by decide +kernel
theorem d2_25 : decode method_2_code 25 = .ok (.goto 4, 3) := by decide +kernel
theorem d2_28 : decode method_2_code 28 = .ok (.iconst 0, 1) := by decide +kernel
theorem d2_29 : decode method_2_code 29 = .ok (.ireturn, 1) := by decide +kernel
theorem pn_1 : plainName "com/example/bingli/bingli/core/MarkupTrackIsSpacePinLaw" = true := by first | (simp [plainName, overriddenIn]; done) | decide +kernel
theorem ef_2 (m : MethodId) (x0 : Int32) : entryFrame m #[(.int x0)] 1 = mkF m 0 #[.val (.int x0)] [] := by first | (simp [entryFrame, mkF, argsToLocals, Value.category]; done) | rfl
def Q2 (Z : State) (u0 : Int32) (h0 : Heap) (n0 : Nat) (v : Option Value) (h : Heap) (L : List Loc) : Prop := v = some (.int (f2_0 u0)) ∧ Fr n0 L ∧ h = h0
set_option maxRecDepth 65536 in
set_option maxHeartbeats 40000000 in
theorem rm2 (l : Launch) (Z : State) (a0 : Array Value) (hw : ∀ d ∈ tables_1, d.before a0 Z = true) (ws : List Jvm.Cond) (u0 : Int32) (h0 : Heap) (n0 : Nat) :
    MetFree l (⟨"com/example/bingli/bingli/core/MarkupTrackIsSpacePinLaw", "ref", "(I)Z"⟩ : MethodName) (head1 (Jvm.Cond.code (⟨"com/example/bingli/bingli/core/MarkupTrackIsSpacePinLaw", "ref", "(I)Z"⟩ : MethodName) method_2_code 1 (some .boolean) :: ws) ({ frames := 0, cells := 0, slots := 0, locals := 0 } : Room)) (fun a U => a = #[(.int u0)] ∧ Z.Warmed39 U.vm ∧ U.heap = h0) (fun _ _ _ _ _ => True) (fun _ U o U' => ∃ v L, o = .returned v ∧ Q2 Z u0 h0 n0 v U'.heap L ∧ FrameEnd U o U' L ({ frames := 0, cells := 0, slots := 0, locals := 0 } : Room).cells ({ frames := 0, cells := 0, slots := 0, locals := 0 } : Room).slots) := by
  refine MetFree.of_bodySF (plainFor_of_name pn_1) hisR ?_
  intro p e s m args below meth c s₁ Bd hml0 hP hK
  obtain ⟨rfl, hZ, hh⟩ := hP
  have hx := Bd.exec
  have hby := Bd.bytes
  have hml : c.maxLocals = 1 := hml0
  have hown : s.vm.findClass "com/example/bingli/bingli/core/MarkupTrackIsSpacePinLaw" = some m.cls := findClass_of_methodNamed Bd.named
  have hnm := (name_of_methodNamed Bd.named Bd.method).1
  have X0 : Stand p l e ({ frames := 0, cells := 0, slots := 0, locals := 0 } : Room) s m #[(.int u0)] below meth c s₁ [] 0 0 := Stand.of_body Bd
  have e0 : s₁.heap = h0 := by rw [← hh, Bd.state]; rfl
  have N0 := Fr.nil n0
  have pre0 : ∀ t, Steps p.tables e below (s₁.setTop (mkF m 0 #[.val (.int u0)] [])) t → Steps p.tables e below (s₁.setTop (entryFrame m #[(.int u0)] 1)) t := fun t k => castTop (ef_2 m u0) k
  have sg0 : ∀ {fs : List Frame}, own_RetTo e s₁ m (some (.int (f2_0 u0))) fs → Steps p.tables e below (s₁.setTop (mkF m 0 #[.val (.int u0)] [])) (s₁.setFrames fs) := by
    intro fs hr
    show Steps p.tables e below (s₁.setTop (mkF m 0 #[.val (.int u0)] [])) _
    refine XS.iloadN X0.here hx rfl (hb hby d2_0) rfl ?_
    show Steps p.tables e below (s₁.setTop (mkF m 1 #[.val (.int u0)] [(.int u0)])) _
    by_cases hc1 : u0 < (0 : Int32)
    · refine XS.ifYes X0.here hx rfl (pc0 := 1) (pc' := 10) rfl (hb hby d2_1) rfl ((if0 _ _).trans (tlt hc1).1) (by decide) (by decide) ?_
      show Steps p.tables e below (s₁.setTop (mkF m 10 #[.val (.int u0)] [])) _
      refine XS.iconst X0.here hx rfl (hb hby d2_10) ?_
      have hv : f2_0 u0 = (0 : Int32) := by unfold f2_0; rw [if_pos hc1]
      rw [hv] at hr
      show Steps p.tables e below (s₁.setTop (mkF m 11 #[.val (.int u0)] [(.int (0 : Int32))])) _
      exact retN X0 hx (t := .boolean) Bd.returns (by simp) (hb hby d2_11) hr
    · refine XS.ifNo X0.here hx rfl (hb hby d2_1) rfl ((if0 _ _).trans (flt hc1).1) ?_
      show Steps p.tables e below (s₁.setTop (mkF m 4 #[.val (.int u0)] [])) _
      refine XS.iloadN X0.here hx rfl (hb hby d2_4) rfl ?_
      show Steps p.tables e below (s₁.setTop (mkF m 5 #[.val (.int u0)] [(.int u0)])) _
      refine XS.bipush X0.here hx rfl (hb hby d2_5) ?_
      show Steps p.tables e below (s₁.setTop (mkF m 7 #[.val (.int u0)] [(.int (32 : Int32)), (.int u0)])) _
      by_cases hc7 : (32 : Int32) < u0
      · refine XS.icmpNo X0.here hx rfl (hb hby d2_7) rfl (tlt hc7).2.2.2 ?_
        show Steps p.tables e below (s₁.setTop (mkF m 10 #[.val (.int u0)] [])) _
        refine XS.iconst X0.here hx rfl (hb hby d2_10) ?_
        have hv : f2_0 u0 = (0 : Int32) := by unfold f2_0; rw [if_neg hc1, if_pos hc7]
        rw [hv] at hr
        show Steps p.tables e below (s₁.setTop (mkF m 11 #[.val (.int u0)] [(.int (0 : Int32))])) _
        exact retN X0 hx (t := .boolean) Bd.returns (by simp) (hb hby d2_11) hr
      · refine XS.icmpYes X0.here hx rfl (pc0 := 7) (pc' := 12) rfl (hb hby d2_7) rfl (flt hc7).2.2.2 (by decide) (by decide) ?_
        show Steps p.tables e below (s₁.setTop (mkF m 12 #[.val (.int u0)] [])) _
        refine X0.ldc2Long hx hown (mvT hZ (hw _ (List.mem_of_getElem? (i := 10) rfl))) (g := (mkF m 12 #[.val (.int u0)] [])) rfl (hb hby d2_12) _ ?_
        show Steps p.tables e below (s₁.setTop (mkF m 15 #[.val (.int u0)] [(.long (4294977024 : Int64))])) _
        refine XS.iloadN X0.here hx rfl (hb hby d2_15) rfl ?_
        show Steps p.tables e below (s₁.setTop (mkF m 16 #[.val (.int u0)] [(.int u0), (.long (4294977024 : Int64))])) _
        refine XS.lushr X0.here hx rfl (hb hby d2_16) rfl ?_
        show Steps p.tables e below (s₁.setTop (mkF m 17 #[.val (.int u0)] [(.long (((4294977024 : Int64).toUInt64 >>> (u0 &&& 0x3f).toInt64.toUInt64).toInt64))])) _
        refine XS.lconst X0.here hx rfl (hb hby d2_17) ?_
        show Steps p.tables e below (s₁.setTop (mkF m 18 #[.val (.int u0)] [(.long (1 : Int64)), (.long (((4294977024 : Int64).toUInt64 >>> (u0 &&& 0x3f).toInt64.toUInt64).toInt64))])) _
        refine XS.land X0.here hx rfl (hb hby d2_18) rfl ?_
        show Steps p.tables e below (s₁.setTop (mkF m 19 #[.val (.int u0)] [(.long ((((4294977024 : Int64).toUInt64 >>> (u0 &&& 0x3f).toInt64.toUInt64).toInt64) &&& (1 : Int64)))])) _
        refine XS.lconst X0.here hx rfl (hb hby d2_19) ?_
        show Steps p.tables e below (s₁.setTop (mkF m 20 #[.val (.int u0)] [(.long (1 : Int64)), (.long ((((4294977024 : Int64).toUInt64 >>> (u0 &&& 0x3f).toInt64.toUInt64).toInt64) &&& (1 : Int64)))])) _
        refine XS.lcmp X0.here hx rfl (hb hby d2_20) rfl ?_
        show Steps p.tables e below (s₁.setTop (mkF m 21 #[.val (.int u0)] [(.int (lcmpW ((((4294977024 : Int64).toUInt64 >>> (u0 &&& 0x3f).toInt64.toUInt64).toInt64) &&& (1 : Int64)) (1 : Int64)))])) _
        by_cases hc21 : ((((4294977024 : Int64).toUInt64 >>> (u0 &&& 0x3f).toInt64.toUInt64).toInt64) &&& (1 : Int64)) = (1 : Int64)
        · refine XS.ifNo X0.here hx rfl (hb hby d2_21) rfl ((if0 _ _).trans (teq ((lw_eq ((((4294977024 : Int64).toUInt64 >>> (u0 &&& 0x3f).toInt64.toUInt64).toInt64) &&& (1 : Int64)) (1 : Int64)).mpr hc21)).2) ?_
          show Steps p.tables e below (s₁.setTop (mkF m 24 #[.val (.int u0)] [])) _
          refine XS.iconst X0.here hx rfl (hb hby d2_24) ?_
          show Steps p.tables e below (s₁.setTop (mkF m 25 #[.val (.int u0)] [(.int (1 : Int32))])) _
          refine XS.goto X0.here hx rfl (pc0 := 25) (pc' := 29) rfl (hb hby d2_25) (by decide) (by decide) ?_
          have hv : f2_0 u0 = (1 : Int32) := by unfold f2_0; rw [if_neg hc1, if_neg hc7, if_pos hc21]
          rw [hv] at hr
          show Steps p.tables e below (s₁.setTop (mkF m 29 #[.val (.int u0)] [(.int (1 : Int32))])) _
          exact retN X0 hx (t := .boolean) Bd.returns (by simp) (hb hby d2_29) hr
        · refine XS.ifYes X0.here hx rfl (pc0 := 21) (pc' := 28) rfl (hb hby d2_21) rfl ((if0 _ _).trans (feq (fun q => hc21 ((lw_eq ((((4294977024 : Int64).toUInt64 >>> (u0 &&& 0x3f).toInt64.toUInt64).toInt64) &&& (1 : Int64)) (1 : Int64)).mp q))).2) (by decide) (by decide) ?_
          show Steps p.tables e below (s₁.setTop (mkF m 28 #[.val (.int u0)] [])) _
          refine XS.iconst X0.here hx rfl (hb hby d2_28) ?_
          have hv : f2_0 u0 = (0 : Int32) := by unfold f2_0; rw [if_neg hc1, if_neg hc7, if_neg hc21]
          rw [hv] at hr
          show Steps p.tables e below (s₁.setTop (mkF m 29 #[.val (.int u0)] [(.int (0 : Int32))])) _
          exact retN X0 hx (t := .boolean) Bd.returns (by simp) (hb hby d2_29) hr
  obtain ⟨fs, hr, hrun, hended, hW, hsame⟩ := X0.leave (v := some (.int (f2_0 u0))) (fun h => by rw [Bd.returns] at h; cases h)
  refine ⟨_, _, pre0 _ ?_, hrun, hended, _, _, rfl, ?_, ⟨_, rfl⟩, hW, hsame.mono (by decide) (by decide)⟩
  · show Steps p.tables e below (s₁.setTop (mkF m 0 #[.val (.int u0)] [])) _
    exact sg0 hr
  · show Q2 Z u0 h0 n0 _ s₁.heap _
    rw [e0]
    exact ⟨rfl, N0, rfl⟩
theorem own_small : ∀ k : Fin 33, f1_0 (Int32.ofNat k.val) = f2_0 (Int32.ofNat k.val) := by decide +kernel
theorem own_eq (p : Int32) : f1_0 p = f2_0 p := by
  by_cases h1 : p < (0 : Int32)
  · have hne : ∀ c : Int32, ¬ c < 0 → ¬ p = c := fun c hc q => hc (q ▸ h1)
    unfold f1_0 f2_0
    rw [if_neg (hne _ (by decide)), if_neg (hne _ (by decide)), if_neg (hne _ (by decide)), if_neg (hne _ (by decide)), if_pos h1]
  · by_cases h2 : (32 : Int32) < p
    · have hne : ∀ c : Int32, ¬ (32 : Int32) < c → ¬ p = c := fun c hc q => hc (q ▸ h2)
      unfold f1_0 f2_0
      rw [if_neg (hne _ (by decide)), if_neg (hne _ (by decide)), if_neg (hne _ (by decide)), if_neg (hne _ (by decide)), if_neg h1, if_pos h2]
    · have q1 : ¬ p.toInt < 0 := fun q => h1 (Int32.lt_iff_toInt_lt.mpr q)
      have q2 : ¬ (32 : Int) < p.toInt := fun q => h2 (Int32.lt_iff_toInt_lt.mpr q)
      have q3 : p = Int32.ofNat p.toInt.toNat := by
        rw [← Int32.toInt_inj, Int32.toInt_ofNat_of_lt (by omega)]
        omega
      have := own_small ⟨p.toInt.toNat, by omega⟩
      rw [q3]; exact this
theorem pd_0 : parseMethodDescriptor "(I)Z" = some ⟨[.int], some .boolean⟩ := by decide +kernel
theorem ef_0 (m : MethodId) (x0 : Int32) (x1 : Int32) : entryFrame m #[(.int x0), (.int x1)] maxLocals = mkF m 0 #[.val (.int x0), .val (.int x1), .unset, .unset, .unset] [] := by first | (simp [entryFrame, mkF, argsToLocals, Value.category, maxLocals]; done) | rfl
def Q0 (Z : State) (px : Int32) (pk : Int32) (h0 : Heap) (n0 : Nat) (v : Option Value) (h : Heap) (L : List Loc) : Prop := v = some (.int (1 : Int32)) ∧ Fr n0 L
set_option maxRecDepth 65536 in
set_option maxHeartbeats 40000000 in
theorem rm0 (l : Launch) (Z : State) (a0 : Array Value) (hw : ∀ d ∈ tables_1, d.before a0 Z = true) (ws : List Jvm.Cond) (px : Int32) (pk : Int32) (h0 : Heap) (n0 : Nat) (Z0 : n0 ≤ h0.size) :
    MetFree l x (head1 (Jvm.Cond.code x code maxLocals ret :: ws) room_1) (fun a U => a = #[(.int px), (.int pk)] ∧ Z.Warmed39 U.vm ∧ U.heap = h0) (fun _ _ _ _ _ => True) (fun _ U o U' => ∃ v L, o = .returned v ∧ Q0 Z px pk h0 n0 v U'.heap L ∧ FrameEnd U o U' L 0 0) := by
  refine MetFree.of_bodySF (plainFor_of_name pn_1) hisR ?_
  intro p e s m args below meth c s₁ Bd hml0 hP hK
  obtain ⟨rfl, hZ, hh⟩ := hP
  have hx := Bd.exec
  have hby := Bd.bytes
  have hml : c.maxLocals = 5 := hml0
  have hown : s.vm.findClass "com/example/bingli/bingli/core/MarkupTrackIsSpacePinLaw" = some m.cls := findClass_of_methodNamed Bd.named
  have hnm := (name_of_methodNamed Bd.named Bd.method).1
  have X0 : Stand p l e room_1 s m #[(.int px), (.int pk)] below meth c s₁ [] 0 0 := Stand.of_body Bd
  have e0 : s₁.heap = h0 := by rw [← hh, Bd.state]; rfl
  have N0 := Fr.nil n0
  have pre0 : ∀ t, Steps p.tables e below (s₁.setTop (mkF m 0 #[.val (.int px), .val (.int pk), .unset, .unset, .unset] [])) t → Steps p.tables e below (s₁.setTop (entryFrame m #[(.int px), (.int pk)] maxLocals)) t := fun t k => castTop (ef_0 m px pk) k
  obtain ⟨_, _, ⟨T1, L1, k1, n1⟩, -, X1, ⟨Lc1, hQ1, l1, y1, z1⟩, st1⟩ := Jvm.LawKit.callS X0 hx (y := (⟨"com/example/bingli/bingli/core/MarkupTrack", "isSpace", "(I)Z"⟩ : MethodName)) hown (mvT hZ (hw _ (List.mem_of_getElem? (i := 2) rfl))) (mvT hZ (hw _ (List.mem_of_getElem? (i := 3) rfl))) (mvT hZ (hw _ (List.mem_of_getElem? (i := 4) rfl))) (mvT hZ (hw _ (List.mem_of_getElem? (i := 5) rfl))) (by decide) (backOf (W := 0) (rm1 l Z a0 hw [] px h0 n0) hZ (hw _ (List.mem_of_getElem? (i := 5) rfl)) (hw _ (List.mem_of_getElem? (i := 4) rfl)) (by decide) (by decide)) (g := (mkF m 19 #[.val (.int px), .val (.int pk), .val (.int ((pk &&& (63 : Int32)) - (8 : Int32))), .val (.int ((pk &&& (2147418112 : Int32)) ||| (px &&& (65535 : Int32)))), .unset] [(.int px)])) rfl (by rw [hml]; rfl) (argsL := [(.int px)]) (rest := []) (lenOf pd_0 rfl) rfl (by show 2 * 0 + _ ≤ _; exact Nat.le_of_eq rfl) (hb hby at_19) (fun _ _ => ⟨rfl, e0, (by decide : 0 + 0 ≤ _), (by decide : 0 + 0 ≤ _)⟩)
  dsimp only [Pt.U, Pt.locs, Pt.cells, Pt.slots] at X1 l1 y1 z1 st1 hQ1
  subst l1 y1 z1
  obtain ⟨rfl, N1q, e1q⟩ := hQ1
  have N1 := Fr.app N0 N1q
  obtain ⟨_, _, ⟨T2, L2, k2, n2⟩, -, X2, ⟨Lc2, hQ2, l2, y2, z2⟩, st2⟩ := Jvm.LawKit.callS X1 hx (y := (⟨"com/example/bingli/bingli/core/MarkupTrackIsSpacePinLaw", "ref", "(I)Z"⟩ : MethodName)) hown (mvT hZ (hw _ (List.mem_of_getElem? (i := 6) rfl))) (mvT hZ (hw _ (List.mem_of_getElem? (i := 7) rfl))) (mvT hZ (hw _ (List.mem_of_getElem? (i := 8) rfl))) (mvT hZ (hw _ (List.mem_of_getElem? (i := 9) rfl))) (by decide) (backOf (W := 1) (rm2 l Z a0 hw [] px h0 n0) hZ (hw _ (List.mem_of_getElem? (i := 9) rfl)) (hw _ (List.mem_of_getElem? (i := 8) rfl)) (by decide) (by decide)) (g := (mkF m 23 #[.val (.int px), .val (.int pk), .val (.int ((pk &&& (63 : Int32)) - (8 : Int32))), .val (.int ((pk &&& (2147418112 : Int32)) ||| (px &&& (65535 : Int32)))), .unset] [(.int px), (.int (f1_0 px))])) rfl (by rw [hml]; rfl) (argsL := [(.int px)]) (rest := [(.int (f1_0 px))]) (lenOf pd_0 rfl) rfl (by show 2 * 0 + _ ≤ _; exact Nat.le_of_eq rfl) (hb hby at_23) (fun _ _ => ⟨rfl, e1q, (by decide : 0 + 0 ≤ _), (by decide : 0 + 0 ≤ _)⟩)
  dsimp only [Pt.U, Pt.locs, Pt.cells, Pt.slots] at X2 l2 y2 z2 st2 hQ2
  subst l2 y2 z2
  obtain ⟨rfl, N2q, e2q⟩ := hQ2
  have N2 := Fr.app N1 N2q
  obtain ⟨_, _, ⟨T3, L3, k3, n3⟩, -, X3, ⟨Lc3, hQ3, l3, y3, z3⟩, st3⟩ := Jvm.LawKit.callS X2 hx (y := (⟨"com/example/bingli/bingli/core/MarkupTrack", "isSpace", "(I)Z"⟩ : MethodName)) hown (mvT hZ (hw _ (List.mem_of_getElem? (i := 2) rfl))) (mvT hZ (hw _ (List.mem_of_getElem? (i := 3) rfl))) (mvT hZ (hw _ (List.mem_of_getElem? (i := 4) rfl))) (mvT hZ (hw _ (List.mem_of_getElem? (i := 5) rfl))) (by decide) (backOf (W := 0) (rm1 l Z a0 hw [] ((pk &&& (63 : Int32)) - (8 : Int32)) h0 n0) hZ (hw _ (List.mem_of_getElem? (i := 5) rfl)) (hw _ (List.mem_of_getElem? (i := 4) rfl)) (by decide) (by decide)) (g := (mkF m 42 #[.val (.int px), .val (.int pk), .val (.int ((pk &&& (63 : Int32)) - (8 : Int32))), .val (.int ((pk &&& (2147418112 : Int32)) ||| (px &&& (65535 : Int32)))), .val (.int (1 : Int32))] [(.int ((pk &&& (63 : Int32)) - (8 : Int32)))])) rfl (by rw [hml]; rfl) (argsL := [(.int ((pk &&& (63 : Int32)) - (8 : Int32)))]) (rest := []) (lenOf pd_0 rfl) rfl (by show 2 * 0 + _ ≤ _; exact Nat.le_of_eq rfl) (hb hby at_42) (fun _ _ => ⟨rfl, e2q, (by decide : 0 + 0 ≤ _), (by decide : 0 + 0 ≤ _)⟩)
  dsimp only [Pt.U, Pt.locs, Pt.cells, Pt.slots] at X3 l3 y3 z3 st3 hQ3
  subst l3 y3 z3
  obtain ⟨rfl, N3q, e3q⟩ := hQ3
  have N3 := Fr.app N2 N3q
  obtain ⟨_, _, ⟨T4, L4, k4, n4⟩, -, X4, ⟨Lc4, hQ4, l4, y4, z4⟩, st4⟩ := Jvm.LawKit.callS X3 hx (y := (⟨"com/example/bingli/bingli/core/MarkupTrackIsSpacePinLaw", "ref", "(I)Z"⟩ : MethodName)) hown (mvT hZ (hw _ (List.mem_of_getElem? (i := 6) rfl))) (mvT hZ (hw _ (List.mem_of_getElem? (i := 7) rfl))) (mvT hZ (hw _ (List.mem_of_getElem? (i := 8) rfl))) (mvT hZ (hw _ (List.mem_of_getElem? (i := 9) rfl))) (by decide) (backOf (W := 1) (rm2 l Z a0 hw [] ((pk &&& (63 : Int32)) - (8 : Int32)) h0 n0) hZ (hw _ (List.mem_of_getElem? (i := 9) rfl)) (hw _ (List.mem_of_getElem? (i := 8) rfl)) (by decide) (by decide)) (g := (mkF m 46 #[.val (.int px), .val (.int pk), .val (.int ((pk &&& (63 : Int32)) - (8 : Int32))), .val (.int ((pk &&& (2147418112 : Int32)) ||| (px &&& (65535 : Int32)))), .val (.int (1 : Int32))] [(.int ((pk &&& (63 : Int32)) - (8 : Int32))), (.int (f1_0 ((pk &&& (63 : Int32)) - (8 : Int32))))])) rfl (by rw [hml]; rfl) (argsL := [(.int ((pk &&& (63 : Int32)) - (8 : Int32)))]) (rest := [(.int (f1_0 ((pk &&& (63 : Int32)) - (8 : Int32))))]) (lenOf pd_0 rfl) rfl (by show 2 * 0 + _ ≤ _; exact Nat.le_of_eq rfl) (hb hby at_46) (fun _ _ => ⟨rfl, e3q, (by decide : 0 + 0 ≤ _), (by decide : 0 + 0 ≤ _)⟩)
  dsimp only [Pt.U, Pt.locs, Pt.cells, Pt.slots] at X4 l4 y4 z4 st4 hQ4
  subst l4 y4 z4
  obtain ⟨rfl, N4q, e4q⟩ := hQ4
  have N4 := Fr.app N3 N4q
  obtain ⟨_, _, ⟨T5, L5, k5, n5⟩, -, X5, ⟨Lc5, hQ5, l5, y5, z5⟩, st5⟩ := Jvm.LawKit.callS X4 hx (y := (⟨"com/example/bingli/bingli/core/MarkupTrack", "isSpace", "(I)Z"⟩ : MethodName)) hown (mvT hZ (hw _ (List.mem_of_getElem? (i := 2) rfl))) (mvT hZ (hw _ (List.mem_of_getElem? (i := 3) rfl))) (mvT hZ (hw _ (List.mem_of_getElem? (i := 4) rfl))) (mvT hZ (hw _ (List.mem_of_getElem? (i := 5) rfl))) (by decide) (backOf (W := 0) (rm1 l Z a0 hw [] ((pk &&& (2147418112 : Int32)) ||| (px &&& (65535 : Int32))) h0 n0) hZ (hw _ (List.mem_of_getElem? (i := 5) rfl)) (hw _ (List.mem_of_getElem? (i := 4) rfl)) (by decide) (by decide)) (g := (mkF m 65 #[.val (.int px), .val (.int pk), .val (.int ((pk &&& (63 : Int32)) - (8 : Int32))), .val (.int ((pk &&& (2147418112 : Int32)) ||| (px &&& (65535 : Int32)))), .val (.int (1 : Int32))] [(.int ((pk &&& (2147418112 : Int32)) ||| (px &&& (65535 : Int32))))])) rfl (by rw [hml]; rfl) (argsL := [(.int ((pk &&& (2147418112 : Int32)) ||| (px &&& (65535 : Int32))))]) (rest := []) (lenOf pd_0 rfl) rfl (by show 2 * 0 + _ ≤ _; exact Nat.le_of_eq rfl) (hb hby at_65) (fun _ _ => ⟨rfl, e4q, (by decide : 0 + 0 ≤ _), (by decide : 0 + 0 ≤ _)⟩)
  dsimp only [Pt.U, Pt.locs, Pt.cells, Pt.slots] at X5 l5 y5 z5 st5 hQ5
  subst l5 y5 z5
  obtain ⟨rfl, N5q, e5q⟩ := hQ5
  have N5 := Fr.app N4 N5q
  obtain ⟨_, _, ⟨T6, L6, k6, n6⟩, -, X6, ⟨Lc6, hQ6, l6, y6, z6⟩, st6⟩ := Jvm.LawKit.callS X5 hx (y := (⟨"com/example/bingli/bingli/core/MarkupTrackIsSpacePinLaw", "ref", "(I)Z"⟩ : MethodName)) hown (mvT hZ (hw _ (List.mem_of_getElem? (i := 6) rfl))) (mvT hZ (hw _ (List.mem_of_getElem? (i := 7) rfl))) (mvT hZ (hw _ (List.mem_of_getElem? (i := 8) rfl))) (mvT hZ (hw _ (List.mem_of_getElem? (i := 9) rfl))) (by decide) (backOf (W := 1) (rm2 l Z a0 hw [] ((pk &&& (2147418112 : Int32)) ||| (px &&& (65535 : Int32))) h0 n0) hZ (hw _ (List.mem_of_getElem? (i := 9) rfl)) (hw _ (List.mem_of_getElem? (i := 8) rfl)) (by decide) (by decide)) (g := (mkF m 69 #[.val (.int px), .val (.int pk), .val (.int ((pk &&& (63 : Int32)) - (8 : Int32))), .val (.int ((pk &&& (2147418112 : Int32)) ||| (px &&& (65535 : Int32)))), .val (.int (1 : Int32))] [(.int ((pk &&& (2147418112 : Int32)) ||| (px &&& (65535 : Int32)))), (.int (f1_0 ((pk &&& (2147418112 : Int32)) ||| (px &&& (65535 : Int32)))))])) rfl (by rw [hml]; rfl) (argsL := [(.int ((pk &&& (2147418112 : Int32)) ||| (px &&& (65535 : Int32))))]) (rest := [(.int (f1_0 ((pk &&& (2147418112 : Int32)) ||| (px &&& (65535 : Int32)))))]) (lenOf pd_0 rfl) rfl (by show 2 * 0 + _ ≤ _; exact Nat.le_of_eq rfl) (hb hby at_69) (fun _ _ => ⟨rfl, e5q, (by decide : 0 + 0 ≤ _), (by decide : 0 + 0 ≤ _)⟩)
  dsimp only [Pt.U, Pt.locs, Pt.cells, Pt.slots] at X6 l6 y6 z6 st6 hQ6
  subst l6 y6 z6
  obtain ⟨rfl, N6q, e6q⟩ := hQ6
  have N6 := Fr.app N5 N6q
  obtain ⟨_, _, ⟨T7, L7, k7, n7⟩, -, X7, ⟨Lc7, hQ7, l7, y7, z7⟩, st7⟩ := Jvm.LawKit.callS X6 hx (y := (⟨"com/example/bingli/bingli/core/MarkupTrack", "isSpace", "(I)Z"⟩ : MethodName)) hown (mvT hZ (hw _ (List.mem_of_getElem? (i := 2) rfl))) (mvT hZ (hw _ (List.mem_of_getElem? (i := 3) rfl))) (mvT hZ (hw _ (List.mem_of_getElem? (i := 4) rfl))) (mvT hZ (hw _ (List.mem_of_getElem? (i := 5) rfl))) (by decide) (backOf (W := 0) (rm1 l Z a0 hw [] (32 : Int32) h0 n0) hZ (hw _ (List.mem_of_getElem? (i := 5) rfl)) (hw _ (List.mem_of_getElem? (i := 4) rfl)) (by decide) (by decide)) (g := (mkF m 89 #[.val (.int px), .val (.int pk), .val (.int ((pk &&& (63 : Int32)) - (8 : Int32))), .val (.int ((pk &&& (2147418112 : Int32)) ||| (px &&& (65535 : Int32)))), .val (.int (1 : Int32))] [(.int (32 : Int32))])) rfl (by rw [hml]; rfl) (argsL := [(.int (32 : Int32))]) (rest := []) (lenOf pd_0 rfl) rfl (by show 2 * 0 + _ ≤ _; exact Nat.le_of_eq rfl) (hb hby at_89) (fun _ _ => ⟨rfl, e6q, (by decide : 0 + 0 ≤ _), (by decide : 0 + 0 ≤ _)⟩)
  dsimp only [Pt.U, Pt.locs, Pt.cells, Pt.slots] at X7 l7 y7 z7 st7 hQ7
  subst l7 y7 z7
  obtain ⟨rfl, N7q, e7q⟩ := hQ7
  have N7 := Fr.app N6 N7q
  obtain ⟨_, _, ⟨T8, L8, k8, n8⟩, -, X8, ⟨Lc8, hQ8, l8, y8, z8⟩, st8⟩ := Jvm.LawKit.callS X7 hx (y := (⟨"com/example/bingli/bingli/core/MarkupTrack", "isSpace", "(I)Z"⟩ : MethodName)) hown (mvT hZ (hw _ (List.mem_of_getElem? (i := 2) rfl))) (mvT hZ (hw _ (List.mem_of_getElem? (i := 3) rfl))) (mvT hZ (hw _ (List.mem_of_getElem? (i := 4) rfl))) (mvT hZ (hw _ (List.mem_of_getElem? (i := 5) rfl))) (by decide) (backOf (W := 0) (rm1 l Z a0 hw [] (9 : Int32) h0 n0) hZ (hw _ (List.mem_of_getElem? (i := 5) rfl)) (hw _ (List.mem_of_getElem? (i := 4) rfl)) (by decide) (by decide)) (g := (mkF m 97 #[.val (.int px), .val (.int pk), .val (.int ((pk &&& (63 : Int32)) - (8 : Int32))), .val (.int ((pk &&& (2147418112 : Int32)) ||| (px &&& (65535 : Int32)))), .val (.int (1 : Int32))] [(.int (9 : Int32))])) rfl (by rw [hml]; rfl) (argsL := [(.int (9 : Int32))]) (rest := []) (lenOf pd_0 rfl) rfl (by show 2 * 0 + _ ≤ _; exact Nat.le_of_eq rfl) (hb hby at_97) (fun _ _ => ⟨rfl, e7q, (by decide : 0 + 0 ≤ _), (by decide : 0 + 0 ≤ _)⟩)
  dsimp only [Pt.U, Pt.locs, Pt.cells, Pt.slots] at X8 l8 y8 z8 st8 hQ8
  subst l8 y8 z8
  obtain ⟨rfl, N8q, e8q⟩ := hQ8
  have N8 := Fr.app N7 N8q
  obtain ⟨_, _, ⟨T9, L9, k9, n9⟩, -, X9, ⟨Lc9, hQ9, l9, y9, z9⟩, st9⟩ := Jvm.LawKit.callS X8 hx (y := (⟨"com/example/bingli/bingli/core/MarkupTrack", "isSpace", "(I)Z"⟩ : MethodName)) hown (mvT hZ (hw _ (List.mem_of_getElem? (i := 2) rfl))) (mvT hZ (hw _ (List.mem_of_getElem? (i := 3) rfl))) (mvT hZ (hw _ (List.mem_of_getElem? (i := 4) rfl))) (mvT hZ (hw _ (List.mem_of_getElem? (i := 5) rfl))) (by decide) (backOf (W := 0) (rm1 l Z a0 hw [] (10 : Int32) h0 n0) hZ (hw _ (List.mem_of_getElem? (i := 5) rfl)) (hw _ (List.mem_of_getElem? (i := 4) rfl)) (by decide) (by decide)) (g := (mkF m 105 #[.val (.int px), .val (.int pk), .val (.int ((pk &&& (63 : Int32)) - (8 : Int32))), .val (.int ((pk &&& (2147418112 : Int32)) ||| (px &&& (65535 : Int32)))), .val (.int (1 : Int32))] [(.int (10 : Int32))])) rfl (by rw [hml]; rfl) (argsL := [(.int (10 : Int32))]) (rest := []) (lenOf pd_0 rfl) rfl (by show 2 * 0 + _ ≤ _; exact Nat.le_of_eq rfl) (hb hby at_105) (fun _ _ => ⟨rfl, e8q, (by decide : 0 + 0 ≤ _), (by decide : 0 + 0 ≤ _)⟩)
  dsimp only [Pt.U, Pt.locs, Pt.cells, Pt.slots] at X9 l9 y9 z9 st9 hQ9
  subst l9 y9 z9
  obtain ⟨rfl, N9q, e9q⟩ := hQ9
  have N9 := Fr.app N8 N9q
  obtain ⟨_, _, ⟨T10, L10, k10, n10⟩, -, X10, ⟨Lc10, hQ10, l10, y10, z10⟩, st10⟩ := Jvm.LawKit.callS X9 hx (y := (⟨"com/example/bingli/bingli/core/MarkupTrack", "isSpace", "(I)Z"⟩ : MethodName)) hown (mvT hZ (hw _ (List.mem_of_getElem? (i := 2) rfl))) (mvT hZ (hw _ (List.mem_of_getElem? (i := 3) rfl))) (mvT hZ (hw _ (List.mem_of_getElem? (i := 4) rfl))) (mvT hZ (hw _ (List.mem_of_getElem? (i := 5) rfl))) (by decide) (backOf (W := 0) (rm1 l Z a0 hw [] (13 : Int32) h0 n0) hZ (hw _ (List.mem_of_getElem? (i := 5) rfl)) (hw _ (List.mem_of_getElem? (i := 4) rfl)) (by decide) (by decide)) (g := (mkF m 113 #[.val (.int px), .val (.int pk), .val (.int ((pk &&& (63 : Int32)) - (8 : Int32))), .val (.int ((pk &&& (2147418112 : Int32)) ||| (px &&& (65535 : Int32)))), .val (.int (1 : Int32))] [(.int (13 : Int32))])) rfl (by rw [hml]; rfl) (argsL := [(.int (13 : Int32))]) (rest := []) (lenOf pd_0 rfl) rfl (by show 2 * 0 + _ ≤ _; exact Nat.le_of_eq rfl) (hb hby at_113) (fun _ _ => ⟨rfl, e9q, (by decide : 0 + 0 ≤ _), (by decide : 0 + 0 ≤ _)⟩)
  dsimp only [Pt.U, Pt.locs, Pt.cells, Pt.slots] at X10 l10 y10 z10 st10 hQ10
  subst l10 y10 z10
  obtain ⟨rfl, N10q, e10q⟩ := hQ10
  have N10 := Fr.app N9 N10q
  obtain ⟨fs, hr, hrun, hended, hW, hsame⟩ := X10.leave (v := some (.int (1 : Int32))) (fun h => by rw [Bd.returns] at h; cases h)
  refine ⟨_, _, pre0 _ ?_, hrun, hended, _, _, rfl, ?_, ⟨_, rfl⟩, hW, hsame.mono (by decide) (by decide)⟩
  · show Steps p.tables e below (s₁.setTop (mkF m 0 #[.val (.int px), .val (.int pk), .unset, .unset, .unset] [])) _
    refine XS.iloadN X0.here hx rfl (hb hby at_0) rfl ?_
    show Steps p.tables e below (s₁.setTop (mkF m 1 #[.val (.int px), .val (.int pk), .unset, .unset, .unset] [(.int pk)])) _
    refine XS.bipush X0.here hx rfl (hb hby at_1) ?_
    show Steps p.tables e below (s₁.setTop (mkF m 3 #[.val (.int px), .val (.int pk), .unset, .unset, .unset] [(.int (63 : Int32)), (.int pk)])) _
    refine XS.iand X0.here hx rfl (hb hby at_3) rfl ?_
    show Steps p.tables e below (s₁.setTop (mkF m 4 #[.val (.int px), .val (.int pk), .unset, .unset, .unset] [(.int (pk &&& (63 : Int32)))])) _
    refine XS.bipush X0.here hx rfl (hb hby at_4) ?_
    show Steps p.tables e below (s₁.setTop (mkF m 6 #[.val (.int px), .val (.int pk), .unset, .unset, .unset] [(.int (8 : Int32)), (.int (pk &&& (63 : Int32)))])) _
    refine XS.isub X0.here hx rfl (hb hby at_6) rfl ?_
    show Steps p.tables e below (s₁.setTop (mkF m 7 #[.val (.int px), .val (.int pk), .unset, .unset, .unset] [(.int ((pk &&& (63 : Int32)) - (8 : Int32)))])) _
    refine XS.istoreN X0.here hx rfl (hb hby at_7) rfl (l' := #[.val (.int px), .val (.int pk), .val (.int ((pk &&& (63 : Int32)) - (8 : Int32))), .unset, .unset]) rfl ?_
    show Steps p.tables e below (s₁.setTop (mkF m 8 #[.val (.int px), .val (.int pk), .val (.int ((pk &&& (63 : Int32)) - (8 : Int32))), .unset, .unset] [])) _
    refine XS.iloadN X0.here hx rfl (hb hby at_8) rfl ?_
    show Steps p.tables e below (s₁.setTop (mkF m 9 #[.val (.int px), .val (.int pk), .val (.int ((pk &&& (63 : Int32)) - (8 : Int32))), .unset, .unset] [(.int pk)])) _
    refine X0.ldcInt hx hown (mvT hZ (hw _ (List.mem_of_getElem? (i := 0) rfl))) (g := (mkF m 9 #[.val (.int px), .val (.int pk), .val (.int ((pk &&& (63 : Int32)) - (8 : Int32))), .unset, .unset] [(.int pk)])) rfl (hb hby at_9) _ ?_
    show Steps p.tables e below (s₁.setTop (mkF m 11 #[.val (.int px), .val (.int pk), .val (.int ((pk &&& (63 : Int32)) - (8 : Int32))), .unset, .unset] [(.int (2147418112 : Int32)), (.int pk)])) _
    refine XS.iand X0.here hx rfl (hb hby at_11) rfl ?_
    show Steps p.tables e below (s₁.setTop (mkF m 12 #[.val (.int px), .val (.int pk), .val (.int ((pk &&& (63 : Int32)) - (8 : Int32))), .unset, .unset] [(.int (pk &&& (2147418112 : Int32)))])) _
    refine XS.iloadN X0.here hx rfl (hb hby at_12) rfl ?_
    show Steps p.tables e below (s₁.setTop (mkF m 13 #[.val (.int px), .val (.int pk), .val (.int ((pk &&& (63 : Int32)) - (8 : Int32))), .unset, .unset] [(.int px), (.int (pk &&& (2147418112 : Int32)))])) _
    refine X0.ldcInt hx hown (mvT hZ (hw _ (List.mem_of_getElem? (i := 1) rfl))) (g := (mkF m 13 #[.val (.int px), .val (.int pk), .val (.int ((pk &&& (63 : Int32)) - (8 : Int32))), .unset, .unset] [(.int px), (.int (pk &&& (2147418112 : Int32)))])) rfl (hb hby at_13) _ ?_
    show Steps p.tables e below (s₁.setTop (mkF m 15 #[.val (.int px), .val (.int pk), .val (.int ((pk &&& (63 : Int32)) - (8 : Int32))), .unset, .unset] [(.int (65535 : Int32)), (.int px), (.int (pk &&& (2147418112 : Int32)))])) _
    refine XS.iand X0.here hx rfl (hb hby at_15) rfl ?_
    show Steps p.tables e below (s₁.setTop (mkF m 16 #[.val (.int px), .val (.int pk), .val (.int ((pk &&& (63 : Int32)) - (8 : Int32))), .unset, .unset] [(.int (px &&& (65535 : Int32))), (.int (pk &&& (2147418112 : Int32)))])) _
    refine XS.ior X0.here hx rfl (hb hby at_16) rfl ?_
    show Steps p.tables e below (s₁.setTop (mkF m 17 #[.val (.int px), .val (.int pk), .val (.int ((pk &&& (63 : Int32)) - (8 : Int32))), .unset, .unset] [(.int ((pk &&& (2147418112 : Int32)) ||| (px &&& (65535 : Int32))))])) _
    refine XS.istoreN X0.here hx rfl (hb hby at_17) rfl (l' := #[.val (.int px), .val (.int pk), .val (.int ((pk &&& (63 : Int32)) - (8 : Int32))), .val (.int ((pk &&& (2147418112 : Int32)) ||| (px &&& (65535 : Int32)))), .unset]) rfl ?_
    show Steps p.tables e below (s₁.setTop (mkF m 18 #[.val (.int px), .val (.int pk), .val (.int ((pk &&& (63 : Int32)) - (8 : Int32))), .val (.int ((pk &&& (2147418112 : Int32)) ||| (px &&& (65535 : Int32)))), .unset] [])) _
    refine XS.iloadN X0.here hx rfl (hb hby at_18) rfl ?_
    show Steps p.tables e below (s₁.setTop (mkF m 19 #[.val (.int px), .val (.int pk), .val (.int ((pk &&& (63 : Int32)) - (8 : Int32))), .val (.int ((pk &&& (2147418112 : Int32)) ||| (px &&& (65535 : Int32)))), .unset] [(.int px)])) _
    refine st1 _ ?_
    show Steps p.tables e below (T1.setTop (mkF m 22 #[.val (.int px), .val (.int pk), .val (.int ((pk &&& (63 : Int32)) - (8 : Int32))), .val (.int ((pk &&& (2147418112 : Int32)) ||| (px &&& (65535 : Int32)))), .unset] [(.int (f1_0 px))])) _
    refine XS.iloadN X1.here hx rfl (hb hby at_22) rfl ?_
    show Steps p.tables e below (T1.setTop (mkF m 23 #[.val (.int px), .val (.int pk), .val (.int ((pk &&& (63 : Int32)) - (8 : Int32))), .val (.int ((pk &&& (2147418112 : Int32)) ||| (px &&& (65535 : Int32)))), .unset] [(.int px), (.int (f1_0 px))])) _
    refine st2 _ ?_
    show Steps p.tables e below (T2.setTop (mkF m 26 #[.val (.int px), .val (.int pk), .val (.int ((pk &&& (63 : Int32)) - (8 : Int32))), .val (.int ((pk &&& (2147418112 : Int32)) ||| (px &&& (65535 : Int32)))), .unset] [(.int (f2_0 px)), (.int (f1_0 px))])) _
    refine XS.icmpNo X2.here hx rfl (hb hby at_26) rfl (teq (own_eq px)).2 ?_
    show Steps p.tables e below (T2.setTop (mkF m 29 #[.val (.int px), .val (.int pk), .val (.int ((pk &&& (63 : Int32)) - (8 : Int32))), .val (.int ((pk &&& (2147418112 : Int32)) ||| (px &&& (65535 : Int32)))), .unset] [])) _
    refine XS.iconst X2.here hx rfl (hb hby at_29) ?_
    show Steps p.tables e below (T2.setTop (mkF m 30 #[.val (.int px), .val (.int pk), .val (.int ((pk &&& (63 : Int32)) - (8 : Int32))), .val (.int ((pk &&& (2147418112 : Int32)) ||| (px &&& (65535 : Int32)))), .unset] [(.int (1 : Int32))])) _
    refine XS.goto X2.here hx rfl (pc0 := 30) (pc' := 34) rfl (hb hby at_30) (by decide) (by decide) ?_
    show Steps p.tables e below (T2.setTop (mkF m 34 #[.val (.int px), .val (.int pk), .val (.int ((pk &&& (63 : Int32)) - (8 : Int32))), .val (.int ((pk &&& (2147418112 : Int32)) ||| (px &&& (65535 : Int32)))), .unset] [(.int (1 : Int32))])) _
    refine XS.istore X2.here hx rfl (hb hby at_34) rfl (l' := #[.val (.int px), .val (.int pk), .val (.int ((pk &&& (63 : Int32)) - (8 : Int32))), .val (.int ((pk &&& (2147418112 : Int32)) ||| (px &&& (65535 : Int32)))), .val (.int (1 : Int32))]) rfl ?_
    show Steps p.tables e below (T2.setTop (mkF m 36 #[.val (.int px), .val (.int pk), .val (.int ((pk &&& (63 : Int32)) - (8 : Int32))), .val (.int ((pk &&& (2147418112 : Int32)) ||| (px &&& (65535 : Int32)))), .val (.int (1 : Int32))] [])) _
    refine XS.iload X2.here hx rfl (hb hby at_36) rfl ?_
    show Steps p.tables e below (T2.setTop (mkF m 38 #[.val (.int px), .val (.int pk), .val (.int ((pk &&& (63 : Int32)) - (8 : Int32))), .val (.int ((pk &&& (2147418112 : Int32)) ||| (px &&& (65535 : Int32)))), .val (.int (1 : Int32))] [(.int (1 : Int32))])) _
    refine XS.ifNo X2.here hx rfl (hb hby at_38) rfl ((if0 _ _).trans (feq (by decide : ¬ ((1 : Int32) = (0 : Int32)))).1) ?_
    show Steps p.tables e below (T2.setTop (mkF m 41 #[.val (.int px), .val (.int pk), .val (.int ((pk &&& (63 : Int32)) - (8 : Int32))), .val (.int ((pk &&& (2147418112 : Int32)) ||| (px &&& (65535 : Int32)))), .val (.int (1 : Int32))] [])) _
    refine XS.iloadN X2.here hx rfl (hb hby at_41) rfl ?_
    show Steps p.tables e below (T2.setTop (mkF m 42 #[.val (.int px), .val (.int pk), .val (.int ((pk &&& (63 : Int32)) - (8 : Int32))), .val (.int ((pk &&& (2147418112 : Int32)) ||| (px &&& (65535 : Int32)))), .val (.int (1 : Int32))] [(.int ((pk &&& (63 : Int32)) - (8 : Int32)))])) _
    refine st3 _ ?_
    show Steps p.tables e below (T3.setTop (mkF m 45 #[.val (.int px), .val (.int pk), .val (.int ((pk &&& (63 : Int32)) - (8 : Int32))), .val (.int ((pk &&& (2147418112 : Int32)) ||| (px &&& (65535 : Int32)))), .val (.int (1 : Int32))] [(.int (f1_0 ((pk &&& (63 : Int32)) - (8 : Int32))))])) _
    refine XS.iloadN X3.here hx rfl (hb hby at_45) rfl ?_
    show Steps p.tables e below (T3.setTop (mkF m 46 #[.val (.int px), .val (.int pk), .val (.int ((pk &&& (63 : Int32)) - (8 : Int32))), .val (.int ((pk &&& (2147418112 : Int32)) ||| (px &&& (65535 : Int32)))), .val (.int (1 : Int32))] [(.int ((pk &&& (63 : Int32)) - (8 : Int32))), (.int (f1_0 ((pk &&& (63 : Int32)) - (8 : Int32))))])) _
    refine st4 _ ?_
    show Steps p.tables e below (T4.setTop (mkF m 49 #[.val (.int px), .val (.int pk), .val (.int ((pk &&& (63 : Int32)) - (8 : Int32))), .val (.int ((pk &&& (2147418112 : Int32)) ||| (px &&& (65535 : Int32)))), .val (.int (1 : Int32))] [(.int (f2_0 ((pk &&& (63 : Int32)) - (8 : Int32)))), (.int (f1_0 ((pk &&& (63 : Int32)) - (8 : Int32))))])) _
    refine XS.icmpNo X4.here hx rfl (hb hby at_49) rfl (teq (own_eq ((pk &&& (63 : Int32)) - (8 : Int32)))).2 ?_
    show Steps p.tables e below (T4.setTop (mkF m 52 #[.val (.int px), .val (.int pk), .val (.int ((pk &&& (63 : Int32)) - (8 : Int32))), .val (.int ((pk &&& (2147418112 : Int32)) ||| (px &&& (65535 : Int32)))), .val (.int (1 : Int32))] [])) _
    refine XS.iconst X4.here hx rfl (hb hby at_52) ?_
    show Steps p.tables e below (T4.setTop (mkF m 53 #[.val (.int px), .val (.int pk), .val (.int ((pk &&& (63 : Int32)) - (8 : Int32))), .val (.int ((pk &&& (2147418112 : Int32)) ||| (px &&& (65535 : Int32)))), .val (.int (1 : Int32))] [(.int (1 : Int32))])) _
    refine XS.goto X4.here hx rfl (pc0 := 53) (pc' := 57) rfl (hb hby at_53) (by decide) (by decide) ?_
    show Steps p.tables e below (T4.setTop (mkF m 57 #[.val (.int px), .val (.int pk), .val (.int ((pk &&& (63 : Int32)) - (8 : Int32))), .val (.int ((pk &&& (2147418112 : Int32)) ||| (px &&& (65535 : Int32)))), .val (.int (1 : Int32))] [(.int (1 : Int32))])) _
    refine XS.istore X4.here hx rfl (hb hby at_57) rfl (l' := #[.val (.int px), .val (.int pk), .val (.int ((pk &&& (63 : Int32)) - (8 : Int32))), .val (.int ((pk &&& (2147418112 : Int32)) ||| (px &&& (65535 : Int32)))), .val (.int (1 : Int32))]) rfl ?_
    show Steps p.tables e below (T4.setTop (mkF m 59 #[.val (.int px), .val (.int pk), .val (.int ((pk &&& (63 : Int32)) - (8 : Int32))), .val (.int ((pk &&& (2147418112 : Int32)) ||| (px &&& (65535 : Int32)))), .val (.int (1 : Int32))] [])) _
    refine XS.iload X4.here hx rfl (hb hby at_59) rfl ?_
    show Steps p.tables e below (T4.setTop (mkF m 61 #[.val (.int px), .val (.int pk), .val (.int ((pk &&& (63 : Int32)) - (8 : Int32))), .val (.int ((pk &&& (2147418112 : Int32)) ||| (px &&& (65535 : Int32)))), .val (.int (1 : Int32))] [(.int (1 : Int32))])) _
    refine XS.ifNo X4.here hx rfl (hb hby at_61) rfl ((if0 _ _).trans (feq (by decide : ¬ ((1 : Int32) = (0 : Int32)))).1) ?_
    show Steps p.tables e below (T4.setTop (mkF m 64 #[.val (.int px), .val (.int pk), .val (.int ((pk &&& (63 : Int32)) - (8 : Int32))), .val (.int ((pk &&& (2147418112 : Int32)) ||| (px &&& (65535 : Int32)))), .val (.int (1 : Int32))] [])) _
    refine XS.iloadN X4.here hx rfl (hb hby at_64) rfl ?_
    show Steps p.tables e below (T4.setTop (mkF m 65 #[.val (.int px), .val (.int pk), .val (.int ((pk &&& (63 : Int32)) - (8 : Int32))), .val (.int ((pk &&& (2147418112 : Int32)) ||| (px &&& (65535 : Int32)))), .val (.int (1 : Int32))] [(.int ((pk &&& (2147418112 : Int32)) ||| (px &&& (65535 : Int32))))])) _
    refine st5 _ ?_
    show Steps p.tables e below (T5.setTop (mkF m 68 #[.val (.int px), .val (.int pk), .val (.int ((pk &&& (63 : Int32)) - (8 : Int32))), .val (.int ((pk &&& (2147418112 : Int32)) ||| (px &&& (65535 : Int32)))), .val (.int (1 : Int32))] [(.int (f1_0 ((pk &&& (2147418112 : Int32)) ||| (px &&& (65535 : Int32)))))])) _
    refine XS.iloadN X5.here hx rfl (hb hby at_68) rfl ?_
    show Steps p.tables e below (T5.setTop (mkF m 69 #[.val (.int px), .val (.int pk), .val (.int ((pk &&& (63 : Int32)) - (8 : Int32))), .val (.int ((pk &&& (2147418112 : Int32)) ||| (px &&& (65535 : Int32)))), .val (.int (1 : Int32))] [(.int ((pk &&& (2147418112 : Int32)) ||| (px &&& (65535 : Int32)))), (.int (f1_0 ((pk &&& (2147418112 : Int32)) ||| (px &&& (65535 : Int32)))))])) _
    refine st6 _ ?_
    show Steps p.tables e below (T6.setTop (mkF m 72 #[.val (.int px), .val (.int pk), .val (.int ((pk &&& (63 : Int32)) - (8 : Int32))), .val (.int ((pk &&& (2147418112 : Int32)) ||| (px &&& (65535 : Int32)))), .val (.int (1 : Int32))] [(.int (f2_0 ((pk &&& (2147418112 : Int32)) ||| (px &&& (65535 : Int32))))), (.int (f1_0 ((pk &&& (2147418112 : Int32)) ||| (px &&& (65535 : Int32)))))])) _
    refine XS.icmpNo X6.here hx rfl (hb hby at_72) rfl (teq (own_eq ((pk &&& (2147418112 : Int32)) ||| (px &&& (65535 : Int32))))).2 ?_
    show Steps p.tables e below (T6.setTop (mkF m 75 #[.val (.int px), .val (.int pk), .val (.int ((pk &&& (63 : Int32)) - (8 : Int32))), .val (.int ((pk &&& (2147418112 : Int32)) ||| (px &&& (65535 : Int32)))), .val (.int (1 : Int32))] [])) _
    refine XS.iconst X6.here hx rfl (hb hby at_75) ?_
    show Steps p.tables e below (T6.setTop (mkF m 76 #[.val (.int px), .val (.int pk), .val (.int ((pk &&& (63 : Int32)) - (8 : Int32))), .val (.int ((pk &&& (2147418112 : Int32)) ||| (px &&& (65535 : Int32)))), .val (.int (1 : Int32))] [(.int (1 : Int32))])) _
    refine XS.goto X6.here hx rfl (pc0 := 76) (pc' := 80) rfl (hb hby at_76) (by decide) (by decide) ?_
    show Steps p.tables e below (T6.setTop (mkF m 80 #[.val (.int px), .val (.int pk), .val (.int ((pk &&& (63 : Int32)) - (8 : Int32))), .val (.int ((pk &&& (2147418112 : Int32)) ||| (px &&& (65535 : Int32)))), .val (.int (1 : Int32))] [(.int (1 : Int32))])) _
    refine XS.istore X6.here hx rfl (hb hby at_80) rfl (l' := #[.val (.int px), .val (.int pk), .val (.int ((pk &&& (63 : Int32)) - (8 : Int32))), .val (.int ((pk &&& (2147418112 : Int32)) ||| (px &&& (65535 : Int32)))), .val (.int (1 : Int32))]) rfl ?_
    show Steps p.tables e below (T6.setTop (mkF m 82 #[.val (.int px), .val (.int pk), .val (.int ((pk &&& (63 : Int32)) - (8 : Int32))), .val (.int ((pk &&& (2147418112 : Int32)) ||| (px &&& (65535 : Int32)))), .val (.int (1 : Int32))] [])) _
    refine XS.iload X6.here hx rfl (hb hby at_82) rfl ?_
    show Steps p.tables e below (T6.setTop (mkF m 84 #[.val (.int px), .val (.int pk), .val (.int ((pk &&& (63 : Int32)) - (8 : Int32))), .val (.int ((pk &&& (2147418112 : Int32)) ||| (px &&& (65535 : Int32)))), .val (.int (1 : Int32))] [(.int (1 : Int32))])) _
    refine XS.ifNo X6.here hx rfl (hb hby at_84) rfl ((if0 _ _).trans (feq (by decide : ¬ ((1 : Int32) = (0 : Int32)))).1) ?_
    show Steps p.tables e below (T6.setTop (mkF m 87 #[.val (.int px), .val (.int pk), .val (.int ((pk &&& (63 : Int32)) - (8 : Int32))), .val (.int ((pk &&& (2147418112 : Int32)) ||| (px &&& (65535 : Int32)))), .val (.int (1 : Int32))] [])) _
    refine XS.bipush X6.here hx rfl (hb hby at_87) ?_
    show Steps p.tables e below (T6.setTop (mkF m 89 #[.val (.int px), .val (.int pk), .val (.int ((pk &&& (63 : Int32)) - (8 : Int32))), .val (.int ((pk &&& (2147418112 : Int32)) ||| (px &&& (65535 : Int32)))), .val (.int (1 : Int32))] [(.int (32 : Int32))])) _
    refine st7 _ ?_
    show Steps p.tables e below (T7.setTop (mkF m 92 #[.val (.int px), .val (.int pk), .val (.int ((pk &&& (63 : Int32)) - (8 : Int32))), .val (.int ((pk &&& (2147418112 : Int32)) ||| (px &&& (65535 : Int32)))), .val (.int (1 : Int32))] [(.int (f1_0 (32 : Int32)))])) _
    refine XS.ifNo X7.here hx rfl (hb hby at_92) rfl ((if0 _ _).trans (feq (by decide : ¬ ((f1_0 (32 : Int32)) = (0 : Int32)))).1) ?_
    show Steps p.tables e below (T7.setTop (mkF m 95 #[.val (.int px), .val (.int pk), .val (.int ((pk &&& (63 : Int32)) - (8 : Int32))), .val (.int ((pk &&& (2147418112 : Int32)) ||| (px &&& (65535 : Int32)))), .val (.int (1 : Int32))] [])) _
    refine XS.bipush X7.here hx rfl (hb hby at_95) ?_
    show Steps p.tables e below (T7.setTop (mkF m 97 #[.val (.int px), .val (.int pk), .val (.int ((pk &&& (63 : Int32)) - (8 : Int32))), .val (.int ((pk &&& (2147418112 : Int32)) ||| (px &&& (65535 : Int32)))), .val (.int (1 : Int32))] [(.int (9 : Int32))])) _
    refine st8 _ ?_
    show Steps p.tables e below (T8.setTop (mkF m 100 #[.val (.int px), .val (.int pk), .val (.int ((pk &&& (63 : Int32)) - (8 : Int32))), .val (.int ((pk &&& (2147418112 : Int32)) ||| (px &&& (65535 : Int32)))), .val (.int (1 : Int32))] [(.int (f1_0 (9 : Int32)))])) _
    refine XS.ifNo X8.here hx rfl (hb hby at_100) rfl ((if0 _ _).trans (feq (by decide : ¬ ((f1_0 (9 : Int32)) = (0 : Int32)))).1) ?_
    show Steps p.tables e below (T8.setTop (mkF m 103 #[.val (.int px), .val (.int pk), .val (.int ((pk &&& (63 : Int32)) - (8 : Int32))), .val (.int ((pk &&& (2147418112 : Int32)) ||| (px &&& (65535 : Int32)))), .val (.int (1 : Int32))] [])) _
    refine XS.bipush X8.here hx rfl (hb hby at_103) ?_
    show Steps p.tables e below (T8.setTop (mkF m 105 #[.val (.int px), .val (.int pk), .val (.int ((pk &&& (63 : Int32)) - (8 : Int32))), .val (.int ((pk &&& (2147418112 : Int32)) ||| (px &&& (65535 : Int32)))), .val (.int (1 : Int32))] [(.int (10 : Int32))])) _
    refine st9 _ ?_
    show Steps p.tables e below (T9.setTop (mkF m 108 #[.val (.int px), .val (.int pk), .val (.int ((pk &&& (63 : Int32)) - (8 : Int32))), .val (.int ((pk &&& (2147418112 : Int32)) ||| (px &&& (65535 : Int32)))), .val (.int (1 : Int32))] [(.int (f1_0 (10 : Int32)))])) _
    refine XS.ifNo X9.here hx rfl (hb hby at_108) rfl ((if0 _ _).trans (feq (by decide : ¬ ((f1_0 (10 : Int32)) = (0 : Int32)))).1) ?_
    show Steps p.tables e below (T9.setTop (mkF m 111 #[.val (.int px), .val (.int pk), .val (.int ((pk &&& (63 : Int32)) - (8 : Int32))), .val (.int ((pk &&& (2147418112 : Int32)) ||| (px &&& (65535 : Int32)))), .val (.int (1 : Int32))] [])) _
    refine XS.bipush X9.here hx rfl (hb hby at_111) ?_
    show Steps p.tables e below (T9.setTop (mkF m 113 #[.val (.int px), .val (.int pk), .val (.int ((pk &&& (63 : Int32)) - (8 : Int32))), .val (.int ((pk &&& (2147418112 : Int32)) ||| (px &&& (65535 : Int32)))), .val (.int (1 : Int32))] [(.int (13 : Int32))])) _
    refine st10 _ ?_
    show Steps p.tables e below (T10.setTop (mkF m 116 #[.val (.int px), .val (.int pk), .val (.int ((pk &&& (63 : Int32)) - (8 : Int32))), .val (.int ((pk &&& (2147418112 : Int32)) ||| (px &&& (65535 : Int32)))), .val (.int (1 : Int32))] [(.int (f1_0 (13 : Int32)))])) _
    refine XS.ifNo X10.here hx rfl (hb hby at_116) rfl ((if0 _ _).trans (feq (by decide : ¬ ((f1_0 (13 : Int32)) = (0 : Int32)))).1) ?_
    show Steps p.tables e below (T10.setTop (mkF m 119 #[.val (.int px), .val (.int pk), .val (.int ((pk &&& (63 : Int32)) - (8 : Int32))), .val (.int ((pk &&& (2147418112 : Int32)) ||| (px &&& (65535 : Int32)))), .val (.int (1 : Int32))] [])) _
    refine XS.iconst X10.here hx rfl (hb hby at_119) ?_
    show Steps p.tables e below (T10.setTop (mkF m 120 #[.val (.int px), .val (.int pk), .val (.int ((pk &&& (63 : Int32)) - (8 : Int32))), .val (.int ((pk &&& (2147418112 : Int32)) ||| (px &&& (65535 : Int32)))), .val (.int (1 : Int32))] [(.int (1 : Int32))])) _
    refine XS.goto X10.here hx rfl (pc0 := 120) (pc' := 124) rfl (hb hby at_120) (by decide) (by decide) ?_
    show Steps p.tables e below (T10.setTop (mkF m 124 #[.val (.int px), .val (.int pk), .val (.int ((pk &&& (63 : Int32)) - (8 : Int32))), .val (.int ((pk &&& (2147418112 : Int32)) ||| (px &&& (65535 : Int32)))), .val (.int (1 : Int32))] [(.int (1 : Int32))])) _
    refine XS.istore X10.here hx rfl (hb hby at_124) rfl (l' := #[.val (.int px), .val (.int pk), .val (.int ((pk &&& (63 : Int32)) - (8 : Int32))), .val (.int ((pk &&& (2147418112 : Int32)) ||| (px &&& (65535 : Int32)))), .val (.int (1 : Int32))]) rfl ?_
    show Steps p.tables e below (T10.setTop (mkF m 126 #[.val (.int px), .val (.int pk), .val (.int ((pk &&& (63 : Int32)) - (8 : Int32))), .val (.int ((pk &&& (2147418112 : Int32)) ||| (px &&& (65535 : Int32)))), .val (.int (1 : Int32))] [])) _
    refine XS.iload X10.here hx rfl (hb hby at_126) rfl ?_
    show Steps p.tables e below (T10.setTop (mkF m 128 #[.val (.int px), .val (.int pk), .val (.int ((pk &&& (63 : Int32)) - (8 : Int32))), .val (.int ((pk &&& (2147418112 : Int32)) ||| (px &&& (65535 : Int32)))), .val (.int (1 : Int32))] [(.int (1 : Int32))])) _
    exact retN X10 hx (t := .boolean) Bd.returns (by simp) (hb hby at_128) hr
  · show Q0 Z px pk h0 n0 _ T10.heap _
    rw [e10q]
    exact ⟨rfl, N10⟩
set_option maxRecDepth 65536 in
set_option maxHeartbeats 40000000 in
theorem comes_1 {Post : Tables → Env → Array Value → State → Outcome → State → Prop} (hpost : ∀ tb e args s v u, (limb_1_1.after args s (.returned v) u = true ∧ limb_1_2.after args s (.returned v) u = true ∧ True) → FrameEnd s (.returned v) u (Jvm.fieldLocs frame_1_writes args s ++ Jvm.arrayLocs frame_1_arrays args s ++ Jvm.staticLocs frame_1_statics s) 0 0 → Post tb e args s (.returned v) u) :
    ArmFor flags0 classFile x code maxLocals ret World_1 tables_1 room_1 Calls_1 rest_1 Pre_1 Post := by
  intro l hfl _ _ p e ha hc hk s m args below hf hA hF happ hP
  obtain ⟨hcalls, hrest, hpre⟩ := hP
  obtain ⟨-, -, -, hnamed, -, -, -, hat⟩ := (Spec.applies_iff hf).mp happ
  obtain ⟨hg, hn⟩ := and_e (Cond.before_iff.mp (show (Jvm.Cond.and given_1 narrow_1).before args s = true from hpre))
  obtain ⟨h1, r0⟩ := and_e hg
  obtain ⟨g0, r1⟩ := and_e r0
  obtain ⟨w0, w1, rfl⟩ : ∃ w0 w1 : Value, args = #[w0, w1] := by
    have hs : args.size = 2 := by simpa [Cond.value, given_1] using h1
    obtain ⟨L⟩ := args
    match L, hs with
    | [w0, w1], _ => exact ⟨w0, w1, rfl⟩
  have hw := fun d (hd : d ∈ tables_1) => atoms_spec (ws := Jvm.Cond.code x code maxLocals ret :: tables_1) hat d (List.mem_cons_of_mem _ hd)
  obtain ⟨i0, ei0⟩ := is_v g0
  obtain rfl : w0 = (.int i0) := Option.some.inj ei0
  obtain ⟨i1, ei1⟩ := is_v r1
  obtain rfl : w1 = (.int i1) := Option.some.inj ei1
  obtain ⟨n, o, h1, h2, h3, _, L, rfl, ⟨rfl, N⟩, hq⟩ := rm0 l s _ hw tables_1 i0 i1 s.heap s.heap.size (Nat.le_refl _) p e ha hc hk s m _ below hf ((Spec.applies_iff_loose hf).mp happ).1 ⟨rfl, State.Warmed39.refl s, rfl⟩ trivial
  refine ⟨n, _, h1, h2, h3, hpost _ _ _ _ _ _ ⟨Cond.after_iff.mpr rfl, Cond.after_iff.mpr (eq_i res_at (Term.int_eval (1)) rfl), trivial⟩ ⟨hq.1, hq.2.1, (hq.2.2.sift fun y hy => Or.inr (N y hy)).mono (by decide) (by decide)⟩⟩
theorem main_1_1 : Claimed_1_1 := comes_1 fun _ _ _ _ _ _ h hF => ⟨h.1, hF⟩
theorem main_1_2 : Claimed_1_2 := comes_1 fun _ _ _ _ _ _ h hF => ⟨h.2.1, hF⟩
end Jvm.Pilot.@@N@@
namespace Jvm.Pilot.@@N@@
open Jvm Jvm.ClassFile Sem Op Lib Jvm.Free Jvm.Stand Jvm.Pilot.@@N@@.Jvm.D
/-! MADE BY PROGRAM (witnessworld.py) out of the Statement's table words and the real class files: 9 classes; the members and pool entries that the words name. The judged class is class 1, her method 2. -/
namespace start1
open Jvm.ClassFile
def u (s : String) : CpInfo := .utf8 (stringToUtf16 s)
/-- a pool by its gaps: so many unusable entries, then the entry; so many at the end -/
def gap : Nat → List CpInfo → List CpInfo
  | 0, r => r
  | n + 1, r => .unusable :: gap n r
def poolList (es : List (Nat × CpInfo)) (last : Nat) : List CpInfo := es.foldr (fun e r => gap e.1 (e.2 :: r)) (gap last [])
def pool (es : List (Nat × CpInfo)) (last : Nat) : Array CpInfo := ⟨poolList es last⟩
def fileOf (pool : Array CpInfo) (this : Nat) (attrs : Array Attribute := #[]) (ms : Array MethodInfo := #[]) (fl : Nat := 33) (sup : Nat := 0) (ifs : Array Nat := #[]) (fds : Array FieldInfo := #[]) : ClassFile where
  minorVersion := 0
  majorVersion := 65
  constantPool := pool
  accessFlags := fl
  thisClass := this
  superClass := sup
  interfaces := ifs
  fields := fds
  methods := ms
  attributes := attrs
def plain (name : String) (sup : Option ClassId) : Class where
  name := name
  kind := .ordinary
  loader := none
  accessFlags := 33
  super := sup
  interfaces := #[]
  cf := none
  fields := #[]
  methods := #[]
  instanceTypes := #[]
  staticTypes := #[]
  resolved := #[]
  callSites := []
  init := .initialized
  statics := none
  mirror := none

def pool0 : Array CpInfo := pool [(5, u "<init>"), (0, u "()V"), (1, .class_ 10), (1, u "java/lang/Object")] 113

def k0m0 : Method := { name := "<init>", desc := "()V", sig := { parameters := [], returnType := none }, accessFlags := 1, code := none }
/-- java/lang/Object -/
def k0 : Class := { plain "java/lang/Object" none with
  accessFlags := 33
  interfaces := #[]
  cf := some (fileOf pool0 8 #[] #[{ accessFlags := 1, nameIndex := 5, descriptorIndex := 6, attributes := #[] }] 33 0 #[] #[])
  fields := #[]
  methods := #[k0m0]
  instanceTypes := #[]
  staticTypes := #[]
  resolved := Array.replicate 124 none
  statics := none }

def pool1 : Array CpInfo := pool [(2, .class_ 4), (1, u "java/lang/Object"), (0, u "<init>"), (0, u "()V"), (0, .class_ 8), (0, u "com/example/bingli/bingli/core/MarkupTrackIsSpacePinLaw"), (0, .long 4294977024), (1, .integer 2147418112), (0, .integer 65535), (0, .methodref 14 15), (0, .class_ 16), (0, .nameAndType 17 18), (0, u "com/example/bingli/bingli/core/MarkupTrack"), (0, u "isSpace"), (0, u "(I)Z"), (0, .methodref 7 20), (0, .nameAndType 21 18), (0, u "ref"), (0, u "S_BITS"), (0, u "J"), (4, u "law"), (0, u "(II)Z")] 2

def k1m0 : Method := { name := "<init>", desc := "()V", sig := { parameters := [], returnType := none }, accessFlags := 1, code := none }
def k1c1 : Code := { maxStack := 4, maxLocals := 1, code := method_2_code, exceptionTable := #[], attributes := #[] }
def k1m1 : Method := { name := "ref", desc := "(I)Z", sig := { parameters := [.int], returnType := some .boolean }, accessFlags := 10, code := some k1c1 }
def k1c2 : Code := { maxStack := 3, maxLocals := 5, code := code, exceptionTable := #[], attributes := #[] }
def k1m2 : Method := { name := "law", desc := "(II)Z", sig := { parameters := [.int, .int], returnType := some .boolean }, accessFlags := 9, code := some k1c2 }
/-- com/example/bingli/bingli/core/MarkupTrackIsSpacePinLaw -/
def k1 : Class := { plain "com/example/bingli/bingli/core/MarkupTrackIsSpacePinLaw" (some 0) with
  accessFlags := 49
  interfaces := #[]
  cf := some (fileOf pool1 7 #[] #[{ accessFlags := 1, nameIndex := 5, descriptorIndex := 6, attributes := #[] }, { accessFlags := 10, nameIndex := 21, descriptorIndex := 18, attributes := #[] }, { accessFlags := 9, nameIndex := 28, descriptorIndex := 29, attributes := #[] }] 49 2 #[] #[{ accessFlags := 26, nameIndex := 22, descriptorIndex := 23, attributes := #[] }])
  fields := #[{ name := "S_BITS", type := .long, accessFlags := 26, slot := 0, constantValue := 0 }]
  methods := #[k1m0, k1m1, k1m2]
  instanceTypes := #[]
  staticTypes := #[.long]
  resolved := Array.replicate 32 none
  statics := none }

def pool2 : Array CpInfo := pool [(2, .class_ 4), (1, u "java/lang/Object"), (0, u "<init>"), (0, u "()V"), (1, .class_ 10), (1, u "com/example/bingli/bingli/core/MarkupTrack"), (0, u "opens"), (0, u "[J"), (10, u "tail"), (0, u "[C"), (2, u "openNamespaces"), (0, u "[I"), (2, u "limits"), (0, u "Lcom/example/bingli/bingli/core/MarkupTrack$Limits;"), (2, u "line"), (0, u "I"), (2, u "lineStart"), (0, u "J"), (4, u "lastCr"), (2, u "first"), (2, u "size"), (2, u "passed"), (1, .class_ 58), (1, u "com/example/bingli/bingli/core/MarkupTrack$Markup"), (1, u "Lcom/example/bingli/bingli/core/MarkupTrack$Markup;"), (2, u "markup"), (8, u "refusal"), (0, u "Ljava/lang/String;"), (2, u "namespacesInScope"), (2, u "tagNamespaces"), (2, u "depth"), (51, u "markupStart"), (1, .class_ 138), (1, u "com/example/bingli/bingli/core/MarkupTrack$Limits"), (18, u "declaring"), (0, u "Z"), (2, u "nameStart"), (32, u "markupLine"), (5, u "elementName"), (2, u "tagAttributes"), (2, u "isSpace"), (0, u "(I)Z"), (8, u "namespaceNameStart"), (2, u "namespaceNameChars"), (2, u "referenceRadix"), (54, u "referencePoint"), (28, u "XMLNS"), (1, u "NO_REFERENCE"), (1, u "NAMED_REFERENCE")] 36

def k2m0 : Method := { name := "<init>", desc := "()V", sig := { parameters := [], returnType := none }, accessFlags := 0, code := none }
def k2c1 : Code := { maxStack := 2, maxLocals := 1, code := prog_31_method_23_code, exceptionTable := #[], attributes := #[] }
def k2m1 : Method := { name := "isSpace", desc := "(I)Z", sig := { parameters := [.int], returnType := some .boolean }, accessFlags := 8, code := some k2c1 }
/-- com/example/bingli/bingli/core/MarkupTrack -/
def k2 : Class := { plain "com/example/bingli/bingli/core/MarkupTrack" (some 0) with
  accessFlags := 48
  interfaces := #[]
  cf := some (fileOf pool2 8 #[.nestMembers #[56, 136]] #[{ accessFlags := 0, nameIndex := 5, descriptorIndex := 6, attributes := #[] }, { accessFlags := 8, nameIndex := 206, descriptorIndex := 207, attributes := #[] }] 48 2 #[] #[{ accessFlags := 26, nameIndex := 306, descriptorIndex := 73, attributes := #[] }, { accessFlags := 26, nameIndex := 308, descriptorIndex := 36, attributes := #[] }, { accessFlags := 26, nameIndex := 310, descriptorIndex := 36, attributes := #[] }, { accessFlags := 2, nameIndex := 35, descriptorIndex := 36, attributes := #[] }, { accessFlags := 2, nameIndex := 39, descriptorIndex := 40, attributes := #[] }, { accessFlags := 2, nameIndex := 45, descriptorIndex := 40, attributes := #[] }, { accessFlags := 2, nameIndex := 11, descriptorIndex := 12, attributes := #[] }, { accessFlags := 2, nameIndex := 48, descriptorIndex := 36, attributes := #[] }, { accessFlags := 2, nameIndex := 51, descriptorIndex := 36, attributes := #[] }, { accessFlags := 2, nameIndex := 54, descriptorIndex := 40, attributes := #[] }, { accessFlags := 18, nameIndex := 23, descriptorIndex := 24, attributes := #[] }, { accessFlags := 2, nameIndex := 63, descriptorIndex := 60, attributes := #[] }, { accessFlags := 2, nameIndex := 134, descriptorIndex := 40, attributes := #[] }, { accessFlags := 2, nameIndex := 194, descriptorIndex := 36, attributes := #[] }, { accessFlags := 2, nameIndex := 31, descriptorIndex := 32, attributes := #[] }, { accessFlags := 2, nameIndex := 72, descriptorIndex := 73, attributes := #[] }, { accessFlags := 2, nameIndex := 161, descriptorIndex := 40, attributes := #[] }, { accessFlags := 2, nameIndex := 200, descriptorIndex := 158, attributes := #[] }, { accessFlags := 2, nameIndex := 203, descriptorIndex := 36, attributes := #[] }, { accessFlags := 2, nameIndex := 157, descriptorIndex := 158, attributes := #[] }, { accessFlags := 2, nameIndex := 216, descriptorIndex := 40, attributes := #[] }, { accessFlags := 2, nameIndex := 219, descriptorIndex := 36, attributes := #[] }, { accessFlags := 2, nameIndex := 222, descriptorIndex := 36, attributes := #[] }, { accessFlags := 2, nameIndex := 277, descriptorIndex := 36, attributes := #[] }, { accessFlags := 2, nameIndex := 76, descriptorIndex := 36, attributes := #[] }, { accessFlags := 2, nameIndex := 79, descriptorIndex := 36, attributes := #[] }, { accessFlags := 2, nameIndex := 27, descriptorIndex := 28, attributes := #[] }, { accessFlags := 2, nameIndex := 82, descriptorIndex := 36, attributes := #[] }])
  fields := #[{ name := "XMLNS", type := (.object "java/lang/String"), accessFlags := 26, slot := 0, constantValue := 0 }, { name := "NO_REFERENCE", type := .int, accessFlags := 26, slot := 1, constantValue := 0 }, { name := "NAMED_REFERENCE", type := .int, accessFlags := 26, slot := 2, constantValue := 0 }, { name := "line", type := .int, accessFlags := 2, slot := 0, constantValue := 0 }, { name := "lineStart", type := .long, accessFlags := 2, slot := 1, constantValue := 0 }, { name := "lastCr", type := .long, accessFlags := 2, slot := 2, constantValue := 0 }, { name := "opens", type := (.array .long), accessFlags := 2, slot := 3, constantValue := 0 }, { name := "first", type := .int, accessFlags := 2, slot := 4, constantValue := 0 }, { name := "size", type := .int, accessFlags := 2, slot := 5, constantValue := 0 }, { name := "passed", type := .long, accessFlags := 2, slot := 6, constantValue := 0 }, { name := "tail", type := (.array .char), accessFlags := 18, slot := 7, constantValue := 0 }, { name := "markup", type := (.object "com/example/bingli/bingli/core/MarkupTrack$Markup"), accessFlags := 2, slot := 8, constantValue := 0 }, { name := "markupStart", type := .long, accessFlags := 2, slot := 9, constantValue := 0 }, { name := "markupLine", type := .int, accessFlags := 2, slot := 10, constantValue := 0 }, { name := "limits", type := (.object "com/example/bingli/bingli/core/MarkupTrack$Limits"), accessFlags := 2, slot := 11, constantValue := 0 }, { name := "refusal", type := (.object "java/lang/String"), accessFlags := 2, slot := 12, constantValue := 0 }, { name := "nameStart", type := .long, accessFlags := 2, slot := 13, constantValue := 0 }, { name := "elementName", type := .boolean, accessFlags := 2, slot := 14, constantValue := 0 }, { name := "tagAttributes", type := .int, accessFlags := 2, slot := 15, constantValue := 0 }, { name := "declaring", type := .boolean, accessFlags := 2, slot := 16, constantValue := 0 }, { name := "namespaceNameStart", type := .long, accessFlags := 2, slot := 17, constantValue := 0 }, { name := "namespaceNameChars", type := .int, accessFlags := 2, slot := 18, constantValue := 0 }, { name := "referenceRadix", type := .int, accessFlags := 2, slot := 19, constantValue := 0 }, { name := "referencePoint", type := .int, accessFlags := 2, slot := 20, constantValue := 0 }, { name := "namespacesInScope", type := .int, accessFlags := 2, slot := 21, constantValue := 0 }, { name := "tagNamespaces", type := .int, accessFlags := 2, slot := 22, constantValue := 0 }, { name := "openNamespaces", type := (.array .int), accessFlags := 2, slot := 23, constantValue := 0 }, { name := "depth", type := .int, accessFlags := 2, slot := 24, constantValue := 0 }]
  methods := #[k2m0, k2m1]
  instanceTypes := #[.int, .long, .long, (.array .long), .int, .int, .long, (.array .char), (.object "com/example/bingli/bingli/core/MarkupTrack$Markup"), .long, .int, (.object "com/example/bingli/bingli/core/MarkupTrack$Limits"), (.object "java/lang/String"), .long, .boolean, .int, .boolean, .long, .int, .int, .int, .int, .int, (.array .int), .int]
  staticTypes := #[(.object "java/lang/String"), .int, .int]
  resolved := Array.replicate 347 none
  statics := none }

def pool3 : Array CpInfo := pool [(1, u "java/lang/Cloneable"), (0, .class_ 1), (0, u "java/lang/Object"), (0, .class_ 3)] 3

/-- java/lang/Cloneable -/
def k3 : Class := { plain "java/lang/Cloneable" (some 0) with
  accessFlags := 1537
  interfaces := #[]
  cf := some (fileOf pool3 2 #[] #[] 1537 4 #[] #[])
  fields := #[]
  methods := #[]
  instanceTypes := #[]
  staticTypes := #[]
  resolved := Array.replicate 8 none
  statics := none }

def pool4 : Array CpInfo := pool [(1, u "java/io/Serializable"), (0, .class_ 1), (0, u "java/lang/Object"), (0, .class_ 3)] 3

/-- java/io/Serializable -/
def k4 : Class := { plain "java/io/Serializable" (some 0) with
  accessFlags := 1537
  interfaces := #[]
  cf := some (fileOf pool4 2 #[] #[] 1537 4 #[] #[])
  fields := #[]
  methods := #[]
  instanceTypes := #[]
  staticTypes := #[]
  resolved := Array.replicate 8 none
  statics := none }

/-- the primitive byte -/
def k5 : Class := { plain "byte" none with kind := .primitive 'B', accessFlags := 0x411 }
/-- [B -/
def k6 : Class := { plain "[B" (some 0) with kind := .array 5 .byte, interfaces := #[3, 4], accessFlags := 1041 }

/-- the primitive int -/
def k7 : Class := { plain "int" none with kind := .primitive 'I', accessFlags := 0x411 }
/-- [I -/
def k8 : Class := { plain "[I" (some 0) with kind := .array 7 .int, interfaces := #[3, 4], accessFlags := 1041 }

def heap : Heap := #[]
def classes : Array Class := #[k0, k1, k2, k3, k4, k5, k6, k7, k8]
def interned : List (Array UInt16 × Addr) := []
def slotsUsed : Nat := 0
def theMethod : MethodId := ⟨1, 2⟩
def args0 : Array Value := #[.int 5, .int 7]
def aboutOver (below : List Frame) : State where
  vm := { classes := classes, interned := interned.toArray }
  heap := heap
  slotsUsed := slotsUsed
  threads := #[{ frames := .invoking theMethod args0 :: below }]
def below0 : List Frame := [.native { method := ⟨0, 0⟩, args := #[] }]
def about1 : State := aboutOver below0
def p0 : Program := .bare "" "" ""
def e0 : Env := launch0.env 0 0 0
theorem w_frames : about1.frames = Frame.invoking theMethod args0 :: below0 := rfl
set_option maxRecDepth 65536 in
theorem w_args : argsFit about1.vm theMethod args0 = true := by decide +kernel
set_option maxRecDepth 65536 in
theorem w_heap : heapFits about1 = true := by decide +kernel
set_option maxRecDepth 65536 in
theorem w_runnable : about1.curStatus? = some .runnable := by decide +kernel
set_option maxRecDepth 65536 in
theorem w_alone : about1.alone = true := by decide +kernel
set_option maxRecDepth 65536 in
theorem w_named : about1.methodNamed? x = some theMethod := by decide +kernel
set_option maxRecDepth 65536 in
theorem w_hears : about1.hears theMethod below0 = true := by decide +kernel
set_option maxRecDepth 65536 in
theorem w_ripe : about1.ripe theMethod args0 below0 = true := by decide +kernel
theorem w_running : about1.status = .running := rfl
set_option maxRecDepth 65536 in
theorem w_room : about1.hasRoom e0.platform room_1 = true :=
  launch0.hasRoom_least _ room_1 (by decide +kernel) (by decide +kernel) (by decide +kernel) (by decide +kernel) (by decide +kernel) (by decide +kernel)
theorem allAtoms_all (ts : List Jvm.Cond) (a : Array Jvm.Value) (st : Jvm.State) : (allAtoms ts).before a st = ts.all (fun c => c.before a st) := by
  induction ts with
  | nil => rfl
  | cons c t ih =>
    show (Jvm.Cond.and c (allAtoms t)).before a st = _
    rw [Jvm.Cond.before_and, ih, List.all_cons]
def words1 : List Jvm.Cond := Jvm.Cond.code x code maxLocals ret :: tables_1
/-- a 'code' word, met by the world's own term for the bytes: nothing is compared byte by byte -/
theorem code_word {y : MethodName} {bytes : ByteArray} {mx : Nat} {rt : Option FieldType} {a : Array Value} {s : State} {m : MethodId} {meth : Method} {c : Code} (h1 : s.methodNamed? y = some m) (h2 : s.vm.method? m = some meth) (h3 : meth.code = some c) (h4 : c.code = bytes)
    (h5 : (c.maxLocals == mx && c.exceptionTable.isEmpty && decide (c.maxStack ≤ mostOperands) && decide (meth.sig.returnType = rt) && !meth.locks && decide (parseMethodDescriptor y.desc = some meth.sig)) = true) : (Jvm.Cond.code y bytes mx rt).before a s = true := by
  simp only [Bool.and_eq_true, beq_iff_eq, Bool.not_eq_true', decide_eq_true_eq] at h5
  obtain ⟨⟨⟨⟨⟨g1, g2⟩, g3⟩, g4⟩, g5⟩, g6⟩ := h5
  simp [Cond.before, Cond.holds, Cond.value, h1, h2, h3, h4, g1, g2, g3, g4, g5, g6]
def isCode : Jvm.Cond → Bool
  | .code _ _ _ _ => true
  | _ => false
theorem all_split {L : List Jvm.Cond} {P : Jvm.Cond → Bool} (h1 : L.all (fun c => isCode c || P c) = true) (h2 : ∀ c ∈ L.filter isCode, P c = true) : L.all P = true := by
  refine List.all_eq_true.mpr fun c hc => ?_
  have h := List.all_eq_true.mp h1 c hc
  rcases Bool.eq_false_or_eq_true (isCode c) with hi | hi
  · exact h2 c (List.mem_filter.mpr ⟨hc, hi⟩)
  · simpa [hi] using h
set_option maxRecDepth 65536 in
theorem w_c0 : (Jvm.Cond.code x code maxLocals ret).before args0 about1 = true := code_word (m := ⟨1, 2⟩) (meth := k1m2) (c := k1c2) (by decide +kernel) rfl rfl rfl (by decide +kernel)
set_option maxRecDepth 65536 in
theorem w_c1 : (Jvm.Cond.code ({ cls := "com/example/bingli/bingli/core/MarkupTrack", name := "isSpace", desc := "(I)Z" } : Jvm.MethodName) prog_31_method_23_code (1 : Nat) (Option.some Jvm.ClassFile.FieldType.boolean)).before args0 about1 = true := code_word (m := ⟨2, 1⟩) (meth := k2m1) (c := k2c1) (by decide +kernel) rfl rfl rfl (by decide +kernel)
set_option maxRecDepth 65536 in
theorem w_c2 : (Jvm.Cond.code ({ cls := "com/example/bingli/bingli/core/MarkupTrackIsSpacePinLaw", name := "ref", desc := "(I)Z" } : Jvm.MethodName) method_2_code (1 : Nat) (Option.some Jvm.ClassFile.FieldType.boolean)).before args0 about1 = true := code_word (m := ⟨1, 1⟩) (meth := k1m1) (c := k1c1) (by decide +kernel) rfl rfl rfl (by decide +kernel)
def codes1 : List Jvm.Cond := [Jvm.Cond.code x code maxLocals ret, Jvm.Cond.code ({ cls := "com/example/bingli/bingli/core/MarkupTrack", name := "isSpace", desc := "(I)Z" } : Jvm.MethodName) prog_31_method_23_code (1 : Nat) (Option.some Jvm.ClassFile.FieldType.boolean), Jvm.Cond.code ({ cls := "com/example/bingli/bingli/core/MarkupTrackIsSpacePinLaw", name := "ref", desc := "(I)Z" } : Jvm.MethodName) method_2_code (1 : Nat) (Option.some Jvm.ClassFile.FieldType.boolean)]
set_option maxRecDepth 65536 in
theorem codes_eq : words1.filter isCode = codes1 := rfl
theorem w_codes : ∀ c ∈ words1.filter isCode, c.before args0 about1 = true := by
  rw [codes_eq]
  intro c hc
  simp only [codes1, List.mem_cons, List.not_mem_nil, or_false] at hc
  rcases hc with rfl | rfl | rfl
  · exact w_c0
  · exact w_c1
  · exact w_c2
set_option maxRecDepth 65536 in
theorem w_t1 : words1.all (fun c => isCode c || c.before args0 about1) = true := by decide +kernel
theorem w_tables : (allAtoms (Jvm.Cond.code x code maxLocals ret :: tables_1)).before args0 about1 = true := by
  rw [allAtoms_all]
  show words1.all (fun c => c.before args0 about1) = true
  refine all_split ?_ w_codes
  rw [w_t1]
set_option maxRecDepth 65536 in
theorem w_case : (Jvm.Cond.and given_1 narrow_1).before args0 about1 = true := by decide +kernel
theorem w_applies : (headSpec (Jvm.Cond.code x code maxLocals ret :: tables_1) room_1).applies x e0.platform about1 = true :=
  (Spec.applies_iff w_frames).mpr ⟨w_running, w_runnable, w_alone, w_named, w_hears, w_ripe, w_room, w_tables⟩
theorem atStart : AtStart classFile x code maxLocals ret World_1 tables_1 room_1 Calls_1 rest_1 Pre_1 launch0 p0 e0 about1 theMethod args0 below0 :=
  ⟨lists_1, trivial, launch0.admits_env _ _ _, launch0.least_env, fairChoices_fair.cas, fairChoices_fair.clock, w_frames, w_args, w_heap, w_applies, trivial, trivial, w_case⟩
end start1
theorem witness_1 : WitnessClaimed_1 := ⟨start1.p0, start1.e0, start1.about1, start1.theMethod, start1.args0, start1.below0, start1.atStart⟩
end Jvm.Pilot.@@N@@
