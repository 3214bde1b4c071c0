import JvmDerived
import JvmDerived.Pilot.@@N@@Statement
import JvmDerived.Pilot.@@N@@Code
set_option linter.unusedVariables false
set_option linter.unusedSimpArgs false
namespace Jvm.RoadKit
open Sem ClassFile Op Lib Jvm.Stand Jvm.Free Jvm.LawKit
section New
variable {p : Program} {l : Launch} {e : Env} {R : Room} {s : State} {m : MethodId} {args : Array Value} {below : List Frame} {meth : Method} {c : Code} {T : State} {locs : List Loc} {cells slots : Nat}
theorem retI (X : Stand p l e R s m args below meth c T locs cells slots) (hx : p.tables.exec = Jvm.exec) {pc : Nat} {Ls : Array Slot} {z : Int32} {rest : List Value} (hret : meth.sig.returnType = some .int) (hd : decode c.code pc = .ok (.ireturn, 1)) {fs : List Frame}
    (hl : ∀ (f : JFrame) (acts : List Action), f.method = m → f.locked = none → f.entered = [] → (doReturn e (T.setTop f) acts (some (.int z))).1 = T.setFrames fs) : Steps p.tables e below (T.setTop (mkF m pc Ls (.int z :: rest))) (T.setFrames fs) := by
  have hm' : T.vm.method? m = some meth := X.method'
  have hn : narrow .int (.int z) = .int z := rfl
  show Steps p.tables e below (T.setTop { method := m, pc := pc, locals := Ls, stack := _ :: rest, locked := none }) _
  jvm_step X.here [X.here.top, hx, hd, hm', hret, hn]
  first | (intro acts; rw [hl _ acts rfl rfl rfl]) | rw [hl _ _ rfl rfl rfl]
  exact Steps.refl _
end New
end Jvm.RoadKit
namespace Jvm.Pilot.@@N@@
open Jvm Jvm.ClassFile Sem Op Lib Jvm.Free Jvm.Stand Jvm.LawKit Jvm.RoadKit Bundle Jvm.Pilot.@@N@@.Jvm.D
/-- what the return with the value v leads to -/
def own_RetTo (e : Env) (T : State) (m : MethodId) (v : Option Value) (fs : List Frame) : Prop := ∀ (f : JFrame) (acts : List Action), f.method = m → f.locked = none → f.entered = [] → (doReturn e (T.setTop f) acts v).1 = T.setFrames fs
def f1_196 (u0 : Int32) : Int32 := (0 : Int32)
def f1_192 (u0 : Int32) : Int32 := (1 : Int32)
def f1_178 (u0 : Int32) : Int32 := (if u0 < (65536 : Int32) then (f1_196 u0) else (if (983039 : Int32) < u0 then (f1_196 u0) else (f1_192 u0)))
def f1_164 (u0 : Int32) : Int32 := (if u0 < (65008 : Int32) then (f1_178 u0) else (if (65533 : Int32) < u0 then (f1_178 u0) else (f1_192 u0)))
def f1_150 (u0 : Int32) : Int32 := (if u0 < (63744 : Int32) then (f1_164 u0) else (if (64975 : Int32) < u0 then (f1_164 u0) else (f1_192 u0)))
def f1_136 (u0 : Int32) : Int32 := (if u0 < (12289 : Int32) then (f1_150 u0) else (if (55295 : Int32) < u0 then (f1_150 u0) else (f1_192 u0)))
def f1_122 (u0 : Int32) : Int32 := (if u0 < (11264 : Int32) then (f1_136 u0) else (if (12271 : Int32) < u0 then (f1_136 u0) else (f1_192 u0)))
def f1_108 (u0 : Int32) : Int32 := (if u0 < (8304 : Int32) then (f1_122 u0) else (if (8591 : Int32) < u0 then (f1_122 u0) else (f1_192 u0)))
def f1_94 (u0 : Int32) : Int32 := (if u0 < (8204 : Int32) then (f1_108 u0) else (if (8205 : Int32) < u0 then (f1_108 u0) else (f1_192 u0)))
def f1_80 (u0 : Int32) : Int32 := (if u0 < (895 : Int32) then (f1_94 u0) else (if (8191 : Int32) < u0 then (f1_94 u0) else (f1_192 u0)))
def f1_66 (u0 : Int32) : Int32 := (if u0 < (880 : Int32) then (f1_80 u0) else (if (893 : Int32) < u0 then (f1_80 u0) else (f1_192 u0)))
def f1_52 (u0 : Int32) : Int32 := (if u0 < (248 : Int32) then (f1_66 u0) else (if (767 : Int32) < u0 then (f1_66 u0) else (f1_192 u0)))
def f1_38 (u0 : Int32) : Int32 := (if u0 < (216 : Int32) then (f1_52 u0) else (if (246 : Int32) < u0 then (f1_52 u0) else (f1_192 u0)))
def f1_24 (u0 : Int32) : Int32 := (if u0 < (192 : Int32) then (f1_38 u0) else (if (214 : Int32) < u0 then (f1_38 u0) else (f1_192 u0)))
def f1_12 (u0 : Int32) : Int32 := (if u0 < (97 : Int32) then (f1_24 u0) else (if (122 : Int32) < u0 then (f1_24 u0) else (f1_192 u0)))
def f1_0 (u0 : Int32) : Int32 := (if u0 < (65 : Int32) then (f1_12 u0) else (if (90 : Int32) < u0 then (f1_12 u0) else (f1_192 u0)))
theorem d1_0 : decode prog_35_method_29_code 0 = .ok (.iload_n 0, 1) := by decide +kernel
theorem d1_1 : decode prog_35_method_29_code 1 = .ok (.bipush 65, 2) := by decide +kernel
theorem d1_3 : decode prog_35_method_29_code 3 = .ok (.if_icmp .lt 9, 3) := by decide +kernel
theorem d1_6 : decode prog_35_method_29_code 6 = .ok (.iload_n 0, 1) := by decide +kernel
theorem d1_7 : decode prog_35_method_29_code 7 = .ok (.bipush 90, 2) := by decide +kernel
theorem d1_9 : decode prog_35_method_29_code 9 = .ok (.if_icmp .le 183, 3) := by decide +kernel
theorem d1_12 : decode prog_35_method_29_code 12 = .ok (.iload_n 0, 1) := by decide +kernel
theorem d1_13 : decode prog_35_method_29_code 13 = .ok (.bipush 97, 2) := by decide +kernel
theorem d1_15 : decode prog_35_method_29_code 15 = .ok (.if_icmp .lt 9, 3) := by decide +kernel
theorem d1_18 : decode prog_35_method_29_code 18 = .ok (.iload_n 0, 1) := by decide +kernel
theorem d1_19 : decode prog_35_method_29_code 19 = .ok (.bipush 122, 2) := by decide +kernel
theorem d1_21 : decode prog_35_method_29_code 21 = .ok (.if_icmp .le 171, 3) := by decide +kernel
theorem d1_24 : decode prog_35_method_29_code 24 = .ok (.iload_n 0, 1) := by decide +kernel
theorem d1_25 : decode prog_35_method_29_code 25 = .ok (.sipush 192, 3) := by decide +kernel
theorem d1_28 : decode prog_35_method_29_code 28 = .ok (.if_icmp .lt 10, 3) := by decide +kernel
theorem d1_31 : decode prog_35_method_29_code 31 = .ok (.iload_n 0, 1) := by decide +kernel
theorem d1_32 : decode prog_35_method_29_code 32 = .ok (.sipush 214, 3) := by decide +kernel
theorem d1_35 : decode prog_35_method_29_code 35 = .ok (.if_icmp .le 157, 3) := by decide +kernel
theorem d1_38 : decode prog_35_method_29_code 38 = .ok (.iload_n 0, 1) := by decide +kernel
theorem d1_39 : decode prog_35_method_29_code 39 = .ok (.sipush 216, 3) := by decide +kernel
theorem d1_42 : decode prog_35_method_29_code 42 = .ok (.if_icmp .lt 10, 3) := by decide +kernel
theorem d1_45 : decode prog_35_method_29_code 45 = .ok (.iload_n 0, 1) := by decide +kernel
theorem d1_46 : decode prog_35_method_29_code 46 = .ok (.sipush 246, 3) := by decide +kernel
theorem d1_49 : decode prog_35_method_29_code 49 = .ok (.if_icmp .le 143, 3) := by decide +kernel
theorem d1_52 : decode prog_35_method_29_code 52 = .ok (.iload_n 0, 1) := by decide +kernel
theorem d1_53 : decode prog_35_method_29_code 53 = .ok (.sipush 248, 3) := by decide +kernel
theorem d1_56 : decode prog_35_method_29_code 56 = .ok (.if_icmp .lt 10, 3) := by decide +kernel
theorem d1_59 : decode prog_35_method_29_code 59 = .ok (.iload_n 0, 1) := by decide +kernel
theorem d1_60 : decode prog_35_method_29_code 60 = .ok (.sipush 767, 3) := by decide +kernel
theorem d1_63 : decode prog_35_method_29_code 63 = .ok (.if_icmp .le 129, 3) := by decide +kernel
theorem d1_66 : decode prog_35_method_29_code 66 = .ok (.iload_n 0, 1) := by decide +kernel
theorem d1_67 : decode prog_35_method_29_code 67 = .ok (.sipush 880, 3) := by decide +kernel
theorem d1_70 : decode prog_35_method_29_code 70 = .ok (.if_icmp .lt 10, 3) := by decide +kernel
theorem d1_73 : decode prog_35_method_29_code 73 = .ok (.iload_n 0, 1) := by decide +kernel
theorem d1_74 : decode prog_35_method_29_code 74 = .ok (.sipush 893, 3) := by decide +kernel
theorem d1_77 : decode prog_35_method_29_code 77 = .ok (.if_icmp .le 115, 3) := by decide +kernel
theorem d1_80 : decode prog_35_method_29_code 80 = .ok (.iload_n 0, 1) := by decide +kernel
theorem d1_81 : decode prog_35_method_29_code 81 = .ok (.sipush 895, 3) := by decide +kernel
theorem d1_84 : decode prog_35_method_29_code 84 = .ok (.if_icmp .lt 10, 3) := by decide +kernel
theorem d1_87 : decode prog_35_method_29_code 87 = .ok (.iload_n 0, 1) := by decide +kernel
theorem d1_88 : decode prog_35_method_29_code 88 = .ok (.sipush 8191, 3) := by decide +kernel
theorem d1_91 : decode prog_35_method_29_code 91 = .ok (.if_icmp .le 101, 3) := by decide +kernel
theorem d1_94 : decode prog_35_method_29_code 94 = .ok (.iload_n 0, 1) := by decide +kernel
theorem d1_95 : decode prog_35_method_29_code 95 = .ok (.sipush 8204, 3) := by decide +kernel
theorem d1_98 : decode prog_35_method_29_code 98 = .ok (.if_icmp .lt 10, 3) := by decide +kernel
theorem d1_101 : decode prog_35_method_29_code 101 = .ok (.iload_n 0, 1) := by decide +kernel
theorem d1_102 : decode prog_35_method_29_code 102 = .ok (.sipush 8205, 3) := by decide +kernel
theorem d1_105 : decode prog_35_method_29_code 105 = .ok (.if_icmp .le 87, 3) := by decide +kernel
theorem d1_108 : decode prog_35_method_29_code 108 = .ok (.iload_n 0, 1) := by decide +kernel
theorem d1_109 : decode prog_35_method_29_code 109 = .ok (.sipush 8304, 3) := by decide +kernel
theorem d1_112 : decode prog_35_method_29_code 112 = .ok (.if_icmp .lt 10, 3) := by decide +kernel
theorem d1_115 : decode prog_35_method_29_code 115 = .ok (.iload_n 0, 1) := by decide +kernel
theorem d1_116 : decode prog_35_method_29_code 116 = .ok (.sipush 8591, 3) := by decide +kernel
theorem d1_119 : decode prog_35_method_29_code 119 = .ok (.if_icmp .le 73, 3) := by decide +kernel
theorem d1_122 : decode prog_35_method_29_code 122 = .ok (.iload_n 0, 1) := by decide +kernel
theorem d1_123 : decode prog_35_method_29_code 123 = .ok (.sipush 11264, 3) := by decide +kernel
theorem d1_126 : decode prog_35_method_29_code 126 = .ok (.if_icmp .lt 10, 3) := by decide +kernel
theorem d1_129 : decode prog_35_method_29_code 129 = .ok (.iload_n 0, 1) := by decide +kernel
theorem d1_130 : decode prog_35_method_29_code 130 = .ok (.sipush 12271, 3) := by decide +kernel
theorem d1_133 : decode prog_35_method_29_code 133 = .ok (.if_icmp .le 59, 3) := by decide +kernel
theorem d1_136 : decode prog_35_method_29_code 136 = .ok (.iload_n 0, 1) := by decide +kernel
theorem d1_137 : decode prog_35_method_29_code 137 = .ok (.sipush 12289, 3) := by decide +kernel
theorem d1_140 : decode prog_35_method_29_code 140 = .ok (.if_icmp .lt 10, 3) := by decide +kernel
theorem d1_143 : decode prog_35_method_29_code 143 = .ok (.iload_n 0, 1) := by decide +kernel
theorem d1_144 : decode prog_35_method_29_code 144 = .ok (.ldc_w 260, 3) := by decide +kernel
theorem d1_147 : decode prog_35_method_29_code 147 = .ok (.if_icmp .le 45, 3) := by decide +kernel
theorem d1_150 : decode prog_35_method_29_code 150 = .ok (.iload_n 0, 1) := by decide +kernel
theorem d1_151 : decode prog_35_method_29_code 151 = .ok (.ldc_w 261, 3) := by decide +kernel
theorem d1_154 : decode prog_35_method_29_code 154 = .ok (.if_icmp .lt 10, 3) := by decide +kernel
theorem d1_157 : decode prog_35_method_29_code 157 = .ok (.iload_n 0, 1) := by decide +kernel
theorem d1_158 : decode prog_35_method_29_code 158 = .ok (.ldc_w 262, 3) := by decide +kernel
theorem d1_161 : decode prog_35_method_29_code 161 = .ok (.if_icmp .le 31, 3) := by decide +kernel
theorem d1_164 : decode prog_35_method_29_code 164 = .ok (.iload_n 0, 1) := by decide +kernel
theorem d1_165 : decode prog_35_method_29_code 165 = .ok (.ldc_w 263, 3) := by decide +kernel
theorem d1_168 : decode prog_35_method_29_code 168 = .ok (.if_icmp .lt 10, 3) := by decide +kernel
theorem d1_171 : decode prog_35_method_29_code 171 = .ok (.iload_n 0, 1) := by decide +kernel
theorem d1_172 : decode prog_35_method_29_code 172 = .ok (.ldc_w 264, 3) := by decide +kernel
theorem d1_175 : decode prog_35_method_29_code 175 = .ok (.if_icmp .le 17, 3) := by decide +kernel
theorem d1_178 : decode prog_35_method_29_code 178 = .ok (.iload_n 0, 1) := by decide +kernel
theorem d1_179 : decode prog_35_method_29_code 179 = .ok (.ldc_w 265, 3) := by decide +kernel
theorem d1_182 : decode prog_35_method_29_code 182 = .ok (.if_icmp .lt 14, 3) := by decide +kernel
theorem d1_185 : decode prog_35_method_29_code 185 = .ok (.iload_n 0, 1) := by decide +kernel
theorem d1_186 : decode prog_35_method_29_code 186 = .ok (.ldc_w 266, 3) := by decide +kernel
theorem d1_189 : decode prog_35_method_29_code 189 = .ok (.if_icmp .gt 7, 3) := by decide +kernel
theorem d1_192 : decode prog_35_method_29_code 192 = .ok (.iconst 1, 1) := by decide +kernel
theorem d1_193 : decode prog_35_method_29_code 193 = .ok (.goto 4, 3) := by decide +kernel
theorem d1_196 : decode prog_35_method_29_code 196 = .ok (.iconst 0, 1) := by decide +kernel
theorem d1_197 : decode prog_35_method_29_code 197 = .ok (.ireturn, 1) := by decide +kernel
theorem pn_0 : plainName "com/example/triskel/triskel/ntriples/TerminalReader" = true := by first | (simp [plainName, overriddenIn]; done) | decide +kernel
theorem ef_1 (m : MethodId) (x0 : Int32) : entryFrame m #[(.int x0)] 1 = mkF m 0 #[.val (.int x0)] [] := by first | (simp [entryFrame, mkF, argsToLocals, Value.category]; done) | rfl
def Q1 (Z : State) (u0 : Int32) (h0 : Heap) (n0 : Nat) (v : Option Value) (h : Heap) (L : List Loc) : Prop := v = some (.int (f1_0 u0)) ∧ Fr n0 L ∧ h = h0
set_option maxRecDepth 65536 in
set_option maxHeartbeats 40000000 in
theorem rm1 (l : Launch) (Z : State) (a0 : Array Value) (hw : ∀ d ∈ tables_1, d.before a0 Z = true) (ws : List Jvm.Cond) (u0 : Int32) (h0 : Heap) (n0 : Nat) :
    MetFree l (⟨"com/example/triskel/triskel/ntriples/TerminalReader", "isBaseCharacter", "(I)Z"⟩ : MethodName) (head1 (Jvm.Cond.code (⟨"com/example/triskel/triskel/ntriples/TerminalReader", "isBaseCharacter", "(I)Z"⟩ : MethodName) prog_35_method_29_code 1 (some .boolean) :: ws) ({ frames := 0, cells := 0, slots := 0, locals := 0 } : Room)) (fun a U => a = #[(.int u0)] ∧ Z.Warmed39 U.vm ∧ U.heap = h0) (fun _ _ _ _ _ => True) (fun _ U o U' => ∃ v L, o = .returned v ∧ Q1 Z u0 h0 n0 v U'.heap L ∧ FrameEnd U o U' L ({ frames := 0, cells := 0, slots := 0, locals := 0 } : Room).cells ({ frames := 0, cells := 0, slots := 0, locals := 0 } : Room).slots) := by
  refine MetFree.of_bodySF (plainFor_of_name pn_0) hisR ?_
  intro p e s m args below meth c s₁ Bd hml0 hP hK
  obtain ⟨rfl, hZ, hh⟩ := hP
  have hx := Bd.exec
  have hby := Bd.bytes
  have hml : c.maxLocals = 1 := hml0
  have hown : s.vm.findClass "com/example/triskel/triskel/ntriples/TerminalReader" = some m.cls := findClass_of_methodNamed Bd.named
  have hnm := (name_of_methodNamed Bd.named Bd.method).1
  have X0 : Stand p l e ({ frames := 0, cells := 0, slots := 0, locals := 0 } : Room) s m #[(.int u0)] below meth c s₁ [] 0 0 := Stand.of_body Bd
  have e0 : s₁.heap = h0 := by rw [← hh, Bd.state]; rfl
  have N0 := Fr.nil n0
  have pre0 : ∀ t, Steps p.tables e below (s₁.setTop (mkF m 0 #[.val (.int u0)] [])) t → Steps p.tables e below (s₁.setTop (entryFrame m #[(.int u0)] 1)) t := fun t k => castTop (ef_1 m u0) k
  have sg196 : ∀ {fs : List Frame}, own_RetTo e s₁ m (some (.int (f1_196 u0))) fs → Steps p.tables e below (s₁.setTop (mkF m 196 #[.val (.int u0)] [])) (s₁.setFrames fs) := by
    intro fs hr
    show Steps p.tables e below (s₁.setTop (mkF m 196 #[.val (.int u0)] [])) _
    refine XS.iconst X0.here hx rfl (hb hby d1_196) ?_
    have hv : f1_196 u0 = (0 : Int32) := by unfold f1_196; rfl
    rw [hv] at hr
    show Steps p.tables e below (s₁.setTop (mkF m 197 #[.val (.int u0)] [(.int (0 : Int32))])) _
    exact retN X0 hx (t := .boolean) Bd.returns (by simp) (hb hby d1_197) hr
  have sg192 : ∀ {fs : List Frame}, own_RetTo e s₁ m (some (.int (f1_192 u0))) fs → Steps p.tables e below (s₁.setTop (mkF m 192 #[.val (.int u0)] [])) (s₁.setFrames fs) := by
    intro fs hr
    show Steps p.tables e below (s₁.setTop (mkF m 192 #[.val (.int u0)] [])) _
    refine XS.iconst X0.here hx rfl (hb hby d1_192) ?_
    show Steps p.tables e below (s₁.setTop (mkF m 193 #[.val (.int u0)] [(.int (1 : Int32))])) _
    refine XS.goto X0.here hx rfl (pc0 := 193) (pc' := 197) rfl (hb hby d1_193) (by decide) (by decide) ?_
    have hv : f1_192 u0 = (1 : Int32) := by unfold f1_192; rfl
    rw [hv] at hr
    show Steps p.tables e below (s₁.setTop (mkF m 197 #[.val (.int u0)] [(.int (1 : Int32))])) _
    exact retN X0 hx (t := .boolean) Bd.returns (by simp) (hb hby d1_197) hr
  have sg178 : ∀ {fs : List Frame}, own_RetTo e s₁ m (some (.int (f1_178 u0))) fs → Steps p.tables e below (s₁.setTop (mkF m 178 #[.val (.int u0)] [])) (s₁.setFrames fs) := by
    intro fs hr
    show Steps p.tables e below (s₁.setTop (mkF m 178 #[.val (.int u0)] [])) _
    refine XS.iloadN X0.here hx rfl (hb hby d1_178) rfl ?_
    show Steps p.tables e below (s₁.setTop (mkF m 179 #[.val (.int u0)] [(.int u0)])) _
    refine X0.ldcwInt hx hown (mvT hZ (hw _ (List.mem_of_getElem? (i := 15) rfl))) (g := (mkF m 179 #[.val (.int u0)] [(.int u0)])) rfl (hb hby d1_179) _ ?_
    show Steps p.tables e below (s₁.setTop (mkF m 182 #[.val (.int u0)] [(.int (65536 : Int32)), (.int u0)])) _
    by_cases hc182 : u0 < (65536 : Int32)
    · refine XS.icmpYes X0.here hx rfl (pc0 := 182) (pc' := 196) rfl (hb hby d1_182) rfl (tlt hc182).1 (by decide) (by decide) ?_
      have hv : f1_178 u0 = (f1_196 u0) := by unfold f1_178; rw [if_pos hc182]
      rw [hv] at hr
      exact sg196 hr
    · refine XS.icmpNo X0.here hx rfl (hb hby d1_182) rfl (flt hc182).1 ?_
      show Steps p.tables e below (s₁.setTop (mkF m 185 #[.val (.int u0)] [])) _
      refine XS.iloadN X0.here hx rfl (hb hby d1_185) rfl ?_
      show Steps p.tables e below (s₁.setTop (mkF m 186 #[.val (.int u0)] [(.int u0)])) _
      refine X0.ldcwInt hx hown (mvT hZ (hw _ (List.mem_of_getElem? (i := 26) rfl))) (g := (mkF m 186 #[.val (.int u0)] [(.int u0)])) rfl (hb hby d1_186) _ ?_
      show Steps p.tables e below (s₁.setTop (mkF m 189 #[.val (.int u0)] [(.int (983039 : Int32)), (.int u0)])) _
      by_cases hc189 : (983039 : Int32) < u0
      · refine XS.icmpYes X0.here hx rfl (pc0 := 189) (pc' := 196) rfl (hb hby d1_189) rfl (tlt hc189).2.2.1 (by decide) (by decide) ?_
        have hv : f1_178 u0 = (f1_196 u0) := by unfold f1_178; rw [if_neg hc182, if_pos hc189]
        rw [hv] at hr
        exact sg196 hr
      · refine XS.icmpNo X0.here hx rfl (hb hby d1_189) rfl (flt hc189).2.2.1 ?_
        have hv : f1_178 u0 = (f1_192 u0) := by unfold f1_178; rw [if_neg hc182, if_neg hc189]
        rw [hv] at hr
        exact sg192 hr
  have sg164 : ∀ {fs : List Frame}, own_RetTo e s₁ m (some (.int (f1_164 u0))) fs → Steps p.tables e below (s₁.setTop (mkF m 164 #[.val (.int u0)] [])) (s₁.setFrames fs) := by
    intro fs hr
    show Steps p.tables e below (s₁.setTop (mkF m 164 #[.val (.int u0)] [])) _
    refine XS.iloadN X0.here hx rfl (hb hby d1_164) rfl ?_
    show Steps p.tables e below (s₁.setTop (mkF m 165 #[.val (.int u0)] [(.int u0)])) _
    refine X0.ldcwInt hx hown (mvT hZ (hw _ (List.mem_of_getElem? (i := 14) rfl))) (g := (mkF m 165 #[.val (.int u0)] [(.int u0)])) rfl (hb hby d1_165) _ ?_
    show Steps p.tables e below (s₁.setTop (mkF m 168 #[.val (.int u0)] [(.int (65008 : Int32)), (.int u0)])) _
    by_cases hc168 : u0 < (65008 : Int32)
    · refine XS.icmpYes X0.here hx rfl (pc0 := 168) (pc' := 178) rfl (hb hby d1_168) rfl (tlt hc168).1 (by decide) (by decide) ?_
      have hv : f1_164 u0 = (f1_178 u0) := by unfold f1_164; rw [if_pos hc168]
      rw [hv] at hr
      exact sg178 hr
    · refine XS.icmpNo X0.here hx rfl (hb hby d1_168) rfl (flt hc168).1 ?_
      show Steps p.tables e below (s₁.setTop (mkF m 171 #[.val (.int u0)] [])) _
      refine XS.iloadN X0.here hx rfl (hb hby d1_171) rfl ?_
      show Steps p.tables e below (s₁.setTop (mkF m 172 #[.val (.int u0)] [(.int u0)])) _
      refine X0.ldcwInt hx hown (mvT hZ (hw _ (List.mem_of_getElem? (i := 25) rfl))) (g := (mkF m 172 #[.val (.int u0)] [(.int u0)])) rfl (hb hby d1_172) _ ?_
      show Steps p.tables e below (s₁.setTop (mkF m 175 #[.val (.int u0)] [(.int (65533 : Int32)), (.int u0)])) _
      by_cases hc175 : (65533 : Int32) < u0
      · refine XS.icmpNo X0.here hx rfl (hb hby d1_175) rfl (tlt hc175).2.2.2 ?_
        have hv : f1_164 u0 = (f1_178 u0) := by unfold f1_164; rw [if_neg hc168, if_pos hc175]
        rw [hv] at hr
        exact sg178 hr
      · refine XS.icmpYes X0.here hx rfl (pc0 := 175) (pc' := 192) rfl (hb hby d1_175) rfl (flt hc175).2.2.2 (by decide) (by decide) ?_
        have hv : f1_164 u0 = (f1_192 u0) := by unfold f1_164; rw [if_neg hc168, if_neg hc175]
        rw [hv] at hr
        exact sg192 hr
  have sg150 : ∀ {fs : List Frame}, own_RetTo e s₁ m (some (.int (f1_150 u0))) fs → Steps p.tables e below (s₁.setTop (mkF m 150 #[.val (.int u0)] [])) (s₁.setFrames fs) := by
    intro fs hr
    show Steps p.tables e below (s₁.setTop (mkF m 150 #[.val (.int u0)] [])) _
    refine XS.iloadN X0.here hx rfl (hb hby d1_150) rfl ?_
    show Steps p.tables e below (s₁.setTop (mkF m 151 #[.val (.int u0)] [(.int u0)])) _
    refine X0.ldcwInt hx hown (mvT hZ (hw _ (List.mem_of_getElem? (i := 13) rfl))) (g := (mkF m 151 #[.val (.int u0)] [(.int u0)])) rfl (hb hby d1_151) _ ?_
    show Steps p.tables e below (s₁.setTop (mkF m 154 #[.val (.int u0)] [(.int (63744 : Int32)), (.int u0)])) _
    by_cases hc154 : u0 < (63744 : Int32)
    · refine XS.icmpYes X0.here hx rfl (pc0 := 154) (pc' := 164) rfl (hb hby d1_154) rfl (tlt hc154).1 (by decide) (by decide) ?_
      have hv : f1_150 u0 = (f1_164 u0) := by unfold f1_150; rw [if_pos hc154]
      rw [hv] at hr
      exact sg164 hr
    · refine XS.icmpNo X0.here hx rfl (hb hby d1_154) rfl (flt hc154).1 ?_
      show Steps p.tables e below (s₁.setTop (mkF m 157 #[.val (.int u0)] [])) _
      refine XS.iloadN X0.here hx rfl (hb hby d1_157) rfl ?_
      show Steps p.tables e below (s₁.setTop (mkF m 158 #[.val (.int u0)] [(.int u0)])) _
      refine X0.ldcwInt hx hown (mvT hZ (hw _ (List.mem_of_getElem? (i := 24) rfl))) (g := (mkF m 158 #[.val (.int u0)] [(.int u0)])) rfl (hb hby d1_158) _ ?_
      show Steps p.tables e below (s₁.setTop (mkF m 161 #[.val (.int u0)] [(.int (64975 : Int32)), (.int u0)])) _
      by_cases hc161 : (64975 : Int32) < u0
      · refine XS.icmpNo X0.here hx rfl (hb hby d1_161) rfl (tlt hc161).2.2.2 ?_
        have hv : f1_150 u0 = (f1_164 u0) := by unfold f1_150; rw [if_neg hc154, if_pos hc161]
        rw [hv] at hr
        exact sg164 hr
      · refine XS.icmpYes X0.here hx rfl (pc0 := 161) (pc' := 192) rfl (hb hby d1_161) rfl (flt hc161).2.2.2 (by decide) (by decide) ?_
        have hv : f1_150 u0 = (f1_192 u0) := by unfold f1_150; rw [if_neg hc154, if_neg hc161]
        rw [hv] at hr
        exact sg192 hr
  have sg136 : ∀ {fs : List Frame}, own_RetTo e s₁ m (some (.int (f1_136 u0))) fs → Steps p.tables e below (s₁.setTop (mkF m 136 #[.val (.int u0)] [])) (s₁.setFrames fs) := by
    intro fs hr
    show Steps p.tables e below (s₁.setTop (mkF m 136 #[.val (.int u0)] [])) _
    refine XS.iloadN X0.here hx rfl (hb hby d1_136) rfl ?_
    show Steps p.tables e below (s₁.setTop (mkF m 137 #[.val (.int u0)] [(.int u0)])) _
    refine XS.sipush X0.here hx rfl (hb hby d1_137) ?_
    show Steps p.tables e below (s₁.setTop (mkF m 140 #[.val (.int u0)] [(.int (12289 : Int32)), (.int u0)])) _
    by_cases hc140 : u0 < (12289 : Int32)
    · refine XS.icmpYes X0.here hx rfl (pc0 := 140) (pc' := 150) rfl (hb hby d1_140) rfl (tlt hc140).1 (by decide) (by decide) ?_
      have hv : f1_136 u0 = (f1_150 u0) := by unfold f1_136; rw [if_pos hc140]
      rw [hv] at hr
      exact sg150 hr
    · refine XS.icmpNo X0.here hx rfl (hb hby d1_140) rfl (flt hc140).1 ?_
      show Steps p.tables e below (s₁.setTop (mkF m 143 #[.val (.int u0)] [])) _
      refine XS.iloadN X0.here hx rfl (hb hby d1_143) rfl ?_
      show Steps p.tables e below (s₁.setTop (mkF m 144 #[.val (.int u0)] [(.int u0)])) _
      refine X0.ldcwInt hx hown (mvT hZ (hw _ (List.mem_of_getElem? (i := 23) rfl))) (g := (mkF m 144 #[.val (.int u0)] [(.int u0)])) rfl (hb hby d1_144) _ ?_
      show Steps p.tables e below (s₁.setTop (mkF m 147 #[.val (.int u0)] [(.int (55295 : Int32)), (.int u0)])) _
      by_cases hc147 : (55295 : Int32) < u0
      · refine XS.icmpNo X0.here hx rfl (hb hby d1_147) rfl (tlt hc147).2.2.2 ?_
        have hv : f1_136 u0 = (f1_150 u0) := by unfold f1_136; rw [if_neg hc140, if_pos hc147]
        rw [hv] at hr
        exact sg150 hr
      · refine XS.icmpYes X0.here hx rfl (pc0 := 147) (pc' := 192) rfl (hb hby d1_147) rfl (flt hc147).2.2.2 (by decide) (by decide) ?_
        have hv : f1_136 u0 = (f1_192 u0) := by unfold f1_136; rw [if_neg hc140, if_neg hc147]
        rw [hv] at hr
        exact sg192 hr
  have sg122 : ∀ {fs : List Frame}, own_RetTo e s₁ m (some (.int (f1_122 u0))) fs → Steps p.tables e below (s₁.setTop (mkF m 122 #[.val (.int u0)] [])) (s₁.setFrames fs) := by
    intro fs hr
    show Steps p.tables e below (s₁.setTop (mkF m 122 #[.val (.int u0)] [])) _
    refine XS.iloadN X0.here hx rfl (hb hby d1_122) rfl ?_
    show Steps p.tables e below (s₁.setTop (mkF m 123 #[.val (.int u0)] [(.int u0)])) _
    refine XS.sipush X0.here hx rfl (hb hby d1_123) ?_
    show Steps p.tables e below (s₁.setTop (mkF m 126 #[.val (.int u0)] [(.int (11264 : Int32)), (.int u0)])) _
    by_cases hc126 : u0 < (11264 : Int32)
    · refine XS.icmpYes X0.here hx rfl (pc0 := 126) (pc' := 136) rfl (hb hby d1_126) rfl (tlt hc126).1 (by decide) (by decide) ?_
      have hv : f1_122 u0 = (f1_136 u0) := by unfold f1_122; rw [if_pos hc126]
      rw [hv] at hr
      exact sg136 hr
    · refine XS.icmpNo X0.here hx rfl (hb hby d1_126) rfl (flt hc126).1 ?_
      show Steps p.tables e below (s₁.setTop (mkF m 129 #[.val (.int u0)] [])) _
      refine XS.iloadN X0.here hx rfl (hb hby d1_129) rfl ?_
      show Steps p.tables e below (s₁.setTop (mkF m 130 #[.val (.int u0)] [(.int u0)])) _
      refine XS.sipush X0.here hx rfl (hb hby d1_130) ?_
      show Steps p.tables e below (s₁.setTop (mkF m 133 #[.val (.int u0)] [(.int (12271 : Int32)), (.int u0)])) _
      by_cases hc133 : (12271 : Int32) < u0
      · refine XS.icmpNo X0.here hx rfl (hb hby d1_133) rfl (tlt hc133).2.2.2 ?_
        have hv : f1_122 u0 = (f1_136 u0) := by unfold f1_122; rw [if_neg hc126, if_pos hc133]
        rw [hv] at hr
        exact sg136 hr
      · refine XS.icmpYes X0.here hx rfl (pc0 := 133) (pc' := 192) rfl (hb hby d1_133) rfl (flt hc133).2.2.2 (by decide) (by decide) ?_
        have hv : f1_122 u0 = (f1_192 u0) := by unfold f1_122; rw [if_neg hc126, if_neg hc133]
        rw [hv] at hr
        exact sg192 hr
  have sg108 : ∀ {fs : List Frame}, own_RetTo e s₁ m (some (.int (f1_108 u0))) fs → Steps p.tables e below (s₁.setTop (mkF m 108 #[.val (.int u0)] [])) (s₁.setFrames fs) := by
    intro fs hr
    show Steps p.tables e below (s₁.setTop (mkF m 108 #[.val (.int u0)] [])) _
    refine XS.iloadN X0.here hx rfl (hb hby d1_108) rfl ?_
    show Steps p.tables e below (s₁.setTop (mkF m 109 #[.val (.int u0)] [(.int u0)])) _
    refine XS.sipush X0.here hx rfl (hb hby d1_109) ?_
    show Steps p.tables e below (s₁.setTop (mkF m 112 #[.val (.int u0)] [(.int (8304 : Int32)), (.int u0)])) _
    by_cases hc112 : u0 < (8304 : Int32)
    · refine XS.icmpYes X0.here hx rfl (pc0 := 112) (pc' := 122) rfl (hb hby d1_112) rfl (tlt hc112).1 (by decide) (by decide) ?_
      have hv : f1_108 u0 = (f1_122 u0) := by unfold f1_108; rw [if_pos hc112]
      rw [hv] at hr
      exact sg122 hr
    · refine XS.icmpNo X0.here hx rfl (hb hby d1_112) rfl (flt hc112).1 ?_
      show Steps p.tables e below (s₁.setTop (mkF m 115 #[.val (.int u0)] [])) _
      refine XS.iloadN X0.here hx rfl (hb hby d1_115) rfl ?_
      show Steps p.tables e below (s₁.setTop (mkF m 116 #[.val (.int u0)] [(.int u0)])) _
      refine XS.sipush X0.here hx rfl (hb hby d1_116) ?_
      show Steps p.tables e below (s₁.setTop (mkF m 119 #[.val (.int u0)] [(.int (8591 : Int32)), (.int u0)])) _
      by_cases hc119 : (8591 : Int32) < u0
      · refine XS.icmpNo X0.here hx rfl (hb hby d1_119) rfl (tlt hc119).2.2.2 ?_
        have hv : f1_108 u0 = (f1_122 u0) := by unfold f1_108; rw [if_neg hc112, if_pos hc119]
        rw [hv] at hr
        exact sg122 hr
      · refine XS.icmpYes X0.here hx rfl (pc0 := 119) (pc' := 192) rfl (hb hby d1_119) rfl (flt hc119).2.2.2 (by decide) (by decide) ?_
        have hv : f1_108 u0 = (f1_192 u0) := by unfold f1_108; rw [if_neg hc112, if_neg hc119]
        rw [hv] at hr
        exact sg192 hr
  have sg94 : ∀ {fs : List Frame}, own_RetTo e s₁ m (some (.int (f1_94 u0))) fs → Steps p.tables e below (s₁.setTop (mkF m 94 #[.val (.int u0)] [])) (s₁.setFrames fs) := by
    intro fs hr
    show Steps p.tables e below (s₁.setTop (mkF m 94 #[.val (.int u0)] [])) _
    refine XS.iloadN X0.here hx rfl (hb hby d1_94) rfl ?_
    show Steps p.tables e below (s₁.setTop (mkF m 95 #[.val (.int u0)] [(.int u0)])) _
    refine XS.sipush X0.here hx rfl (hb hby d1_95) ?_
    show Steps p.tables e below (s₁.setTop (mkF m 98 #[.val (.int u0)] [(.int (8204 : Int32)), (.int u0)])) _
    by_cases hc98 : u0 < (8204 : Int32)
    · refine XS.icmpYes X0.here hx rfl (pc0 := 98) (pc' := 108) rfl (hb hby d1_98) rfl (tlt hc98).1 (by decide) (by decide) ?_
      have hv : f1_94 u0 = (f1_108 u0) := by unfold f1_94; rw [if_pos hc98]
      rw [hv] at hr
      exact sg108 hr
    · refine XS.icmpNo X0.here hx rfl (hb hby d1_98) rfl (flt hc98).1 ?_
      show Steps p.tables e below (s₁.setTop (mkF m 101 #[.val (.int u0)] [])) _
      refine XS.iloadN X0.here hx rfl (hb hby d1_101) rfl ?_
      show Steps p.tables e below (s₁.setTop (mkF m 102 #[.val (.int u0)] [(.int u0)])) _
      refine XS.sipush X0.here hx rfl (hb hby d1_102) ?_
      show Steps p.tables e below (s₁.setTop (mkF m 105 #[.val (.int u0)] [(.int (8205 : Int32)), (.int u0)])) _
      by_cases hc105 : (8205 : Int32) < u0
      · refine XS.icmpNo X0.here hx rfl (hb hby d1_105) rfl (tlt hc105).2.2.2 ?_
        have hv : f1_94 u0 = (f1_108 u0) := by unfold f1_94; rw [if_neg hc98, if_pos hc105]
        rw [hv] at hr
        exact sg108 hr
      · refine XS.icmpYes X0.here hx rfl (pc0 := 105) (pc' := 192) rfl (hb hby d1_105) rfl (flt hc105).2.2.2 (by decide) (by decide) ?_
        have hv : f1_94 u0 = (f1_192 u0) := by unfold f1_94; rw [if_neg hc98, if_neg hc105]
        rw [hv] at hr
        exact sg192 hr
  have sg80 : ∀ {fs : List Frame}, own_RetTo e s₁ m (some (.int (f1_80 u0))) fs → Steps p.tables e below (s₁.setTop (mkF m 80 #[.val (.int u0)] [])) (s₁.setFrames fs) := by
    intro fs hr
    show Steps p.tables e below (s₁.setTop (mkF m 80 #[.val (.int u0)] [])) _
    refine XS.iloadN X0.here hx rfl (hb hby d1_80) rfl ?_
    show Steps p.tables e below (s₁.setTop (mkF m 81 #[.val (.int u0)] [(.int u0)])) _
    refine XS.sipush X0.here hx rfl (hb hby d1_81) ?_
    show Steps p.tables e below (s₁.setTop (mkF m 84 #[.val (.int u0)] [(.int (895 : Int32)), (.int u0)])) _
    by_cases hc84 : u0 < (895 : Int32)
    · refine XS.icmpYes X0.here hx rfl (pc0 := 84) (pc' := 94) rfl (hb hby d1_84) rfl (tlt hc84).1 (by decide) (by decide) ?_
      have hv : f1_80 u0 = (f1_94 u0) := by unfold f1_80; rw [if_pos hc84]
      rw [hv] at hr
      exact sg94 hr
    · refine XS.icmpNo X0.here hx rfl (hb hby d1_84) rfl (flt hc84).1 ?_
      show Steps p.tables e below (s₁.setTop (mkF m 87 #[.val (.int u0)] [])) _
      refine XS.iloadN X0.here hx rfl (hb hby d1_87) rfl ?_
      show Steps p.tables e below (s₁.setTop (mkF m 88 #[.val (.int u0)] [(.int u0)])) _
      refine XS.sipush X0.here hx rfl (hb hby d1_88) ?_
      show Steps p.tables e below (s₁.setTop (mkF m 91 #[.val (.int u0)] [(.int (8191 : Int32)), (.int u0)])) _
      by_cases hc91 : (8191 : Int32) < u0
      · refine XS.icmpNo X0.here hx rfl (hb hby d1_91) rfl (tlt hc91).2.2.2 ?_
        have hv : f1_80 u0 = (f1_94 u0) := by unfold f1_80; rw [if_neg hc84, if_pos hc91]
        rw [hv] at hr
        exact sg94 hr
      · refine XS.icmpYes X0.here hx rfl (pc0 := 91) (pc' := 192) rfl (hb hby d1_91) rfl (flt hc91).2.2.2 (by decide) (by decide) ?_
        have hv : f1_80 u0 = (f1_192 u0) := by unfold f1_80; rw [if_neg hc84, if_neg hc91]
        rw [hv] at hr
        exact sg192 hr
  have sg66 : ∀ {fs : List Frame}, own_RetTo e s₁ m (some (.int (f1_66 u0))) fs → Steps p.tables e below (s₁.setTop (mkF m 66 #[.val (.int u0)] [])) (s₁.setFrames fs) := by
    intro fs hr
    show Steps p.tables e below (s₁.setTop (mkF m 66 #[.val (.int u0)] [])) _
    refine XS.iloadN X0.here hx rfl (hb hby d1_66) rfl ?_
    show Steps p.tables e below (s₁.setTop (mkF m 67 #[.val (.int u0)] [(.int u0)])) _
    refine XS.sipush X0.here hx rfl (hb hby d1_67) ?_
    show Steps p.tables e below (s₁.setTop (mkF m 70 #[.val (.int u0)] [(.int (880 : Int32)), (.int u0)])) _
    by_cases hc70 : u0 < (880 : Int32)
    · refine XS.icmpYes X0.here hx rfl (pc0 := 70) (pc' := 80) rfl (hb hby d1_70) rfl (tlt hc70).1 (by decide) (by decide) ?_
      have hv : f1_66 u0 = (f1_80 u0) := by unfold f1_66; rw [if_pos hc70]
      rw [hv] at hr
      exact sg80 hr
    · refine XS.icmpNo X0.here hx rfl (hb hby d1_70) rfl (flt hc70).1 ?_
      show Steps p.tables e below (s₁.setTop (mkF m 73 #[.val (.int u0)] [])) _
      refine XS.iloadN X0.here hx rfl (hb hby d1_73) rfl ?_
      show Steps p.tables e below (s₁.setTop (mkF m 74 #[.val (.int u0)] [(.int u0)])) _
      refine XS.sipush X0.here hx rfl (hb hby d1_74) ?_
      show Steps p.tables e below (s₁.setTop (mkF m 77 #[.val (.int u0)] [(.int (893 : Int32)), (.int u0)])) _
      by_cases hc77 : (893 : Int32) < u0
      · refine XS.icmpNo X0.here hx rfl (hb hby d1_77) rfl (tlt hc77).2.2.2 ?_
        have hv : f1_66 u0 = (f1_80 u0) := by unfold f1_66; rw [if_neg hc70, if_pos hc77]
        rw [hv] at hr
        exact sg80 hr
      · refine XS.icmpYes X0.here hx rfl (pc0 := 77) (pc' := 192) rfl (hb hby d1_77) rfl (flt hc77).2.2.2 (by decide) (by decide) ?_
        have hv : f1_66 u0 = (f1_192 u0) := by unfold f1_66; rw [if_neg hc70, if_neg hc77]
        rw [hv] at hr
        exact sg192 hr
  have sg52 : ∀ {fs : List Frame}, own_RetTo e s₁ m (some (.int (f1_52 u0))) fs → Steps p.tables e below (s₁.setTop (mkF m 52 #[.val (.int u0)] [])) (s₁.setFrames fs) := by
    intro fs hr
    show Steps p.tables e below (s₁.setTop (mkF m 52 #[.val (.int u0)] [])) _
    refine XS.iloadN X0.here hx rfl (hb hby d1_52) rfl ?_
    show Steps p.tables e below (s₁.setTop (mkF m 53 #[.val (.int u0)] [(.int u0)])) _
    refine XS.sipush X0.here hx rfl (hb hby d1_53) ?_
    show Steps p.tables e below (s₁.setTop (mkF m 56 #[.val (.int u0)] [(.int (248 : Int32)), (.int u0)])) _
    by_cases hc56 : u0 < (248 : Int32)
    · refine XS.icmpYes X0.here hx rfl (pc0 := 56) (pc' := 66) rfl (hb hby d1_56) rfl (tlt hc56).1 (by decide) (by decide) ?_
      have hv : f1_52 u0 = (f1_66 u0) := by unfold f1_52; rw [if_pos hc56]
      rw [hv] at hr
      exact sg66 hr
    · refine XS.icmpNo X0.here hx rfl (hb hby d1_56) rfl (flt hc56).1 ?_
      show Steps p.tables e below (s₁.setTop (mkF m 59 #[.val (.int u0)] [])) _
      refine XS.iloadN X0.here hx rfl (hb hby d1_59) rfl ?_
      show Steps p.tables e below (s₁.setTop (mkF m 60 #[.val (.int u0)] [(.int u0)])) _
      refine XS.sipush X0.here hx rfl (hb hby d1_60) ?_
      show Steps p.tables e below (s₁.setTop (mkF m 63 #[.val (.int u0)] [(.int (767 : Int32)), (.int u0)])) _
      by_cases hc63 : (767 : Int32) < u0
      · refine XS.icmpNo X0.here hx rfl (hb hby d1_63) rfl (tlt hc63).2.2.2 ?_
        have hv : f1_52 u0 = (f1_66 u0) := by unfold f1_52; rw [if_neg hc56, if_pos hc63]
        rw [hv] at hr
        exact sg66 hr
      · refine XS.icmpYes X0.here hx rfl (pc0 := 63) (pc' := 192) rfl (hb hby d1_63) rfl (flt hc63).2.2.2 (by decide) (by decide) ?_
        have hv : f1_52 u0 = (f1_192 u0) := by unfold f1_52; rw [if_neg hc56, if_neg hc63]
        rw [hv] at hr
        exact sg192 hr
  have sg38 : ∀ {fs : List Frame}, own_RetTo e s₁ m (some (.int (f1_38 u0))) fs → Steps p.tables e below (s₁.setTop (mkF m 38 #[.val (.int u0)] [])) (s₁.setFrames fs) := by
    intro fs hr
    show Steps p.tables e below (s₁.setTop (mkF m 38 #[.val (.int u0)] [])) _
    refine XS.iloadN X0.here hx rfl (hb hby d1_38) rfl ?_
    show Steps p.tables e below (s₁.setTop (mkF m 39 #[.val (.int u0)] [(.int u0)])) _
    refine XS.sipush X0.here hx rfl (hb hby d1_39) ?_
    show Steps p.tables e below (s₁.setTop (mkF m 42 #[.val (.int u0)] [(.int (216 : Int32)), (.int u0)])) _
    by_cases hc42 : u0 < (216 : Int32)
    · refine XS.icmpYes X0.here hx rfl (pc0 := 42) (pc' := 52) rfl (hb hby d1_42) rfl (tlt hc42).1 (by decide) (by decide) ?_
      have hv : f1_38 u0 = (f1_52 u0) := by unfold f1_38; rw [if_pos hc42]
      rw [hv] at hr
      exact sg52 hr
    · refine XS.icmpNo X0.here hx rfl (hb hby d1_42) rfl (flt hc42).1 ?_
      show Steps p.tables e below (s₁.setTop (mkF m 45 #[.val (.int u0)] [])) _
      refine XS.iloadN X0.here hx rfl (hb hby d1_45) rfl ?_
      show Steps p.tables e below (s₁.setTop (mkF m 46 #[.val (.int u0)] [(.int u0)])) _
      refine XS.sipush X0.here hx rfl (hb hby d1_46) ?_
      show Steps p.tables e below (s₁.setTop (mkF m 49 #[.val (.int u0)] [(.int (246 : Int32)), (.int u0)])) _
      by_cases hc49 : (246 : Int32) < u0
      · refine XS.icmpNo X0.here hx rfl (hb hby d1_49) rfl (tlt hc49).2.2.2 ?_
        have hv : f1_38 u0 = (f1_52 u0) := by unfold f1_38; rw [if_neg hc42, if_pos hc49]
        rw [hv] at hr
        exact sg52 hr
      · refine XS.icmpYes X0.here hx rfl (pc0 := 49) (pc' := 192) rfl (hb hby d1_49) rfl (flt hc49).2.2.2 (by decide) (by decide) ?_
        have hv : f1_38 u0 = (f1_192 u0) := by unfold f1_38; rw [if_neg hc42, if_neg hc49]
        rw [hv] at hr
        exact sg192 hr
  have sg24 : ∀ {fs : List Frame}, own_RetTo e s₁ m (some (.int (f1_24 u0))) fs → Steps p.tables e below (s₁.setTop (mkF m 24 #[.val (.int u0)] [])) (s₁.setFrames fs) := by
    intro fs hr
    show Steps p.tables e below (s₁.setTop (mkF m 24 #[.val (.int u0)] [])) _
    refine XS.iloadN X0.here hx rfl (hb hby d1_24) rfl ?_
    show Steps p.tables e below (s₁.setTop (mkF m 25 #[.val (.int u0)] [(.int u0)])) _
    refine XS.sipush X0.here hx rfl (hb hby d1_25) ?_
    show Steps p.tables e below (s₁.setTop (mkF m 28 #[.val (.int u0)] [(.int (192 : Int32)), (.int u0)])) _
    by_cases hc28 : u0 < (192 : Int32)
    · refine XS.icmpYes X0.here hx rfl (pc0 := 28) (pc' := 38) rfl (hb hby d1_28) rfl (tlt hc28).1 (by decide) (by decide) ?_
      have hv : f1_24 u0 = (f1_38 u0) := by unfold f1_24; rw [if_pos hc28]
      rw [hv] at hr
      exact sg38 hr
    · refine XS.icmpNo X0.here hx rfl (hb hby d1_28) rfl (flt hc28).1 ?_
      show Steps p.tables e below (s₁.setTop (mkF m 31 #[.val (.int u0)] [])) _
      refine XS.iloadN X0.here hx rfl (hb hby d1_31) rfl ?_
      show Steps p.tables e below (s₁.setTop (mkF m 32 #[.val (.int u0)] [(.int u0)])) _
      refine XS.sipush X0.here hx rfl (hb hby d1_32) ?_
      show Steps p.tables e below (s₁.setTop (mkF m 35 #[.val (.int u0)] [(.int (214 : Int32)), (.int u0)])) _
      by_cases hc35 : (214 : Int32) < u0
      · refine XS.icmpNo X0.here hx rfl (hb hby d1_35) rfl (tlt hc35).2.2.2 ?_
        have hv : f1_24 u0 = (f1_38 u0) := by unfold f1_24; rw [if_neg hc28, if_pos hc35]
        rw [hv] at hr
        exact sg38 hr
      · refine XS.icmpYes X0.here hx rfl (pc0 := 35) (pc' := 192) rfl (hb hby d1_35) rfl (flt hc35).2.2.2 (by decide) (by decide) ?_
        have hv : f1_24 u0 = (f1_192 u0) := by unfold f1_24; rw [if_neg hc28, if_neg hc35]
        rw [hv] at hr
        exact sg192 hr
  have sg12 : ∀ {fs : List Frame}, own_RetTo e s₁ m (some (.int (f1_12 u0))) fs → Steps p.tables e below (s₁.setTop (mkF m 12 #[.val (.int u0)] [])) (s₁.setFrames fs) := by
    intro fs hr
    show Steps p.tables e below (s₁.setTop (mkF m 12 #[.val (.int u0)] [])) _
    refine XS.iloadN X0.here hx rfl (hb hby d1_12) rfl ?_
    show Steps p.tables e below (s₁.setTop (mkF m 13 #[.val (.int u0)] [(.int u0)])) _
    refine XS.bipush X0.here hx rfl (hb hby d1_13) ?_
    show Steps p.tables e below (s₁.setTop (mkF m 15 #[.val (.int u0)] [(.int (97 : Int32)), (.int u0)])) _
    by_cases hc15 : u0 < (97 : Int32)
    · refine XS.icmpYes X0.here hx rfl (pc0 := 15) (pc' := 24) rfl (hb hby d1_15) rfl (tlt hc15).1 (by decide) (by decide) ?_
      have hv : f1_12 u0 = (f1_24 u0) := by unfold f1_12; rw [if_pos hc15]
      rw [hv] at hr
      exact sg24 hr
    · refine XS.icmpNo X0.here hx rfl (hb hby d1_15) rfl (flt hc15).1 ?_
      show Steps p.tables e below (s₁.setTop (mkF m 18 #[.val (.int u0)] [])) _
      refine XS.iloadN X0.here hx rfl (hb hby d1_18) rfl ?_
      show Steps p.tables e below (s₁.setTop (mkF m 19 #[.val (.int u0)] [(.int u0)])) _
      refine XS.bipush X0.here hx rfl (hb hby d1_19) ?_
      show Steps p.tables e below (s₁.setTop (mkF m 21 #[.val (.int u0)] [(.int (122 : Int32)), (.int u0)])) _
      by_cases hc21 : (122 : Int32) < u0
      · refine XS.icmpNo X0.here hx rfl (hb hby d1_21) rfl (tlt hc21).2.2.2 ?_
        have hv : f1_12 u0 = (f1_24 u0) := by unfold f1_12; rw [if_neg hc15, if_pos hc21]
        rw [hv] at hr
        exact sg24 hr
      · refine XS.icmpYes X0.here hx rfl (pc0 := 21) (pc' := 192) rfl (hb hby d1_21) rfl (flt hc21).2.2.2 (by decide) (by decide) ?_
        have hv : f1_12 u0 = (f1_192 u0) := by unfold f1_12; rw [if_neg hc15, if_neg hc21]
        rw [hv] at hr
        exact sg192 hr
  have sg0 : ∀ {fs : List Frame}, own_RetTo e s₁ m (some (.int (f1_0 u0))) fs → Steps p.tables e below (s₁.setTop (mkF m 0 #[.val (.int u0)] [])) (s₁.setFrames fs) := by
    intro fs hr
    show Steps p.tables e below (s₁.setTop (mkF m 0 #[.val (.int u0)] [])) _
    refine XS.iloadN X0.here hx rfl (hb hby d1_0) rfl ?_
    show Steps p.tables e below (s₁.setTop (mkF m 1 #[.val (.int u0)] [(.int u0)])) _
    refine XS.bipush X0.here hx rfl (hb hby d1_1) ?_
    show Steps p.tables e below (s₁.setTop (mkF m 3 #[.val (.int u0)] [(.int (65 : Int32)), (.int u0)])) _
    by_cases hc3 : u0 < (65 : Int32)
    · refine XS.icmpYes X0.here hx rfl (pc0 := 3) (pc' := 12) rfl (hb hby d1_3) rfl (tlt hc3).1 (by decide) (by decide) ?_
      have hv : f1_0 u0 = (f1_12 u0) := by unfold f1_0; rw [if_pos hc3]
      rw [hv] at hr
      exact sg12 hr
    · refine XS.icmpNo X0.here hx rfl (hb hby d1_3) rfl (flt hc3).1 ?_
      show Steps p.tables e below (s₁.setTop (mkF m 6 #[.val (.int u0)] [])) _
      refine XS.iloadN X0.here hx rfl (hb hby d1_6) rfl ?_
      show Steps p.tables e below (s₁.setTop (mkF m 7 #[.val (.int u0)] [(.int u0)])) _
      refine XS.bipush X0.here hx rfl (hb hby d1_7) ?_
      show Steps p.tables e below (s₁.setTop (mkF m 9 #[.val (.int u0)] [(.int (90 : Int32)), (.int u0)])) _
      by_cases hc9 : (90 : Int32) < u0
      · refine XS.icmpNo X0.here hx rfl (hb hby d1_9) rfl (tlt hc9).2.2.2 ?_
        have hv : f1_0 u0 = (f1_12 u0) := by unfold f1_0; rw [if_neg hc3, if_pos hc9]
        rw [hv] at hr
        exact sg12 hr
      · refine XS.icmpYes X0.here hx rfl (pc0 := 9) (pc' := 192) rfl (hb hby d1_9) rfl (flt hc9).2.2.2 (by decide) (by decide) ?_
        have hv : f1_0 u0 = (f1_192 u0) := by unfold f1_0; rw [if_neg hc3, if_neg hc9]
        rw [hv] at hr
        exact sg192 hr
  obtain ⟨fs, hr, hrun, hended, hW, hsame⟩ := X0.leave (v := some (.int (f1_0 u0))) (fun h => by rw [Bd.returns] at h; cases h)
  refine ⟨_, _, pre0 _ ?_, hrun, hended, _, _, rfl, ?_, ⟨_, rfl⟩, hW, hsame.mono (by decide) (by decide)⟩
  · show Steps p.tables e below (s₁.setTop (mkF m 0 #[.val (.int u0)] [])) _
    exact sg0 hr
  · show Q1 Z u0 h0 n0 _ s₁.heap _
    rw [e0]
    exact ⟨rfl, N0, rfl⟩
def f2_184 (u0 : Int32) : Int32 := (if (983039 : Int32) < u0 then (1 : Int32) else (0 : Int32))
def f2_170 (u0 : Int32) : Int32 := (if u0 < (65534 : Int32) then (f2_184 u0) else (if (65535 : Int32) < u0 then (f2_184 u0) else (1 : Int32)))
def f2_156 (u0 : Int32) : Int32 := (if u0 < (64976 : Int32) then (f2_170 u0) else (if (65007 : Int32) < u0 then (f2_170 u0) else (1 : Int32)))
def f2_142 (u0 : Int32) : Int32 := (if u0 < (55296 : Int32) then (f2_156 u0) else (if (63743 : Int32) < u0 then (f2_156 u0) else (1 : Int32)))
def f2_126 (u0 : Int32) : Int32 := (if u0 < (12272 : Int32) then (f2_142 u0) else (if (12288 : Int32) < u0 then (f2_142 u0) else (1 : Int32)))
def f2_110 (u0 : Int32) : Int32 := (if u0 < (8592 : Int32) then (f2_126 u0) else (if (11263 : Int32) < u0 then (f2_126 u0) else (1 : Int32)))
def f2_94 (u0 : Int32) : Int32 := (if u0 < (8206 : Int32) then (f2_110 u0) else (if (8303 : Int32) < u0 then (f2_110 u0) else (1 : Int32)))
def f2_78 (u0 : Int32) : Int32 := (if u0 < (8192 : Int32) then (f2_94 u0) else (if (8203 : Int32) < u0 then (f2_94 u0) else (1 : Int32)))
def f2_69 (u0 : Int32) : Int32 := (if u0 = (894 : Int32) then (1 : Int32) else (f2_78 u0))
def f2_53 (u0 : Int32) : Int32 := (if u0 < (768 : Int32) then (f2_69 u0) else (if (879 : Int32) < u0 then (f2_69 u0) else (1 : Int32)))
def f2_37 (u0 : Int32) : Int32 := (if u0 = (215 : Int32) then (1 : Int32) else (if u0 = (247 : Int32) then (1 : Int32) else (f2_53 u0)))
def f2_22 (u0 : Int32) : Int32 := (if (122 : Int32) < u0 then (if u0 < (192 : Int32) then (1 : Int32) else (f2_37 u0)) else (f2_37 u0))
def f2_0 (u0 : Int32) : Int32 := (if u0 < (65 : Int32) then (1 : Int32) else (if (90 : Int32) < u0 then (if u0 < (97 : Int32) then (1 : Int32) else (f2_22 u0)) else (f2_22 u0)))
theorem d2_0 : decode method_2_code 0 = .ok (.iload_n 0, 1) := by decide +kernel
theorem d2_1 : decode method_2_code 1 = .ok (.bipush 65, 2) := by decide +kernel
theorem d2_3 : decode method_2_code 3 = .ok (.if_icmp .ge 5, 3) := by decide +kernel
theorem d2_6 : decode method_2_code 6 = .ok (.iconst 1, 1) := by decide +kernel
theorem d2_7 : decode method_2_code 7 = .ok (.ireturn, 1) := by decide +kernel
theorem d2_8 : decode method_2_code 8 = .ok (.iload_n 0, 1) := by decide +kernel
theorem d2_9 : decode method_2_code 9 = .ok (.bipush 90, 2) := by decide +kernel
theorem d2_11 : decode method_2_code 11 = .ok (.if_icmp .le 11, 3) := by decide +kernel
theorem d2_14 : decode method_2_code 14 = .ok (.iload_n 0, 1) := by decide +kernel
theorem d2_15 : decode method_2_code 15 = .ok (.bipush 97, 2) := by decide +kernel
theorem d2_17 : decode method_2_code 17 = .ok (.if_icmp .ge 5, 3) := by decide +kernel
theorem d2_20 : decode method_2_code 20 = .ok (.iconst 1, 1) := by decide +kernel
theorem d2_21 : decode method_2_code 21 = .ok (.ireturn, 1) := by decide +kernel
theorem d2_22 : decode method_2_code 22 = .ok (.iload_n 0, 1) := by decide +kernel
theorem d2_23 : decode method_2_code 23 = .ok (.bipush 122, 2) := by decide +kernel
theorem d2_25 : decode method_2_code 25 = .ok (.if_icmp .le 12, 3) := by decide +kernel
theorem d2_28 : decode method_2_code 28 = .ok (.iload_n 0, 1) := by decide +kernel
theorem d2_29 : decode method_2_code 29 = .ok (.sipush 192, 3) := by decide +kernel
theorem d2_32 : decode method_2_code 32 = .ok (.if_icmp .ge 5, 3) := by decide +kernel
theorem d2_35 : decode method_2_code 35 = .ok (.iconst 1, 1) := by decide +kernel
theorem d2_36 : decode method_2_code 36 = .ok (.ireturn, 1) := by decide +kernel
theorem d2_37 : decode method_2_code 37 = .ok (.iload_n 0, 1) := by decide +kernel
theorem d2_38 : decode method_2_code 38 = .ok (.sipush 215, 3) := by decide +kernel
theorem d2_41 : decode method_2_code 41 = .ok (.if_icmp .eq 10, 3) := by decide +kernel
theorem d2_44 : decode method_2_code 44 = .ok (.iload_n 0, 1) := by decide +kernel
theorem d2_45 : decode method_2_code 45 = .ok (.sipush 247, 3) := by decide +kernel
theorem d2_48 : decode method_2_code 48 = .ok (.if_icmp .ne 5, 3) := by decide +kernel
theorem d2_51 : decode method_2_code 51 = .ok (.iconst 1, 1) := by decide +kernel
theorem d2_52 : decode method_2_code 52 = .ok (.ireturn, 1) := by decide +kernel
theorem d2_53 : decode method_2_code 53 = .ok (.iload_n 0, 1) := by decide +kernel
theorem d2_54 : decode method_2_code 54 = .ok (.sipush 768, 3) := by decide +kernel
theorem d2_57 : decode method_2_code 57 = .ok (.if_icmp .lt 12, 3) := by decide +kernel
theorem d2_60 : decode method_2_code 60 = .ok (.iload_n 0, 1) := by decide +kernel
theorem d2_61 : decode method_2_code 61 = .ok (.sipush 879, 3) := by decide +kernel
theorem d2_64 : decode method_2_code 64 = .ok (.if_icmp .gt 5, 3) := by decide +kernel
theorem d2_67 : decode method_2_code 67 = .ok (.iconst 1, 1) := by decide +kernel
theorem d2_68 : decode method_2_code 68 = .ok (.ireturn, 1) := by decide +kernel
theorem d2_69 : decode method_2_code 69 = .ok (.iload_n 0, 1) := by decide +kernel
theorem d2_70 : decode method_2_code 70 = .ok (.sipush 894, 3) := by decide +kernel
theorem d2_73 : decode method_2_code 73 = .ok (.if_icmp .ne 5, 3) := by decide +kernel
theorem d2_76 : decode method_2_code 76 = .ok (.iconst 1, 1) := by decide +kernel
theorem d2_77 : decode method_2_code 77 = .ok (.ireturn, 1) := by decide +kernel
theorem d2_78 : decode method_2_code 78 = .ok (.iload_n 0, 1) := by decide +kernel
theorem d2_79 : decode method_2_code 79 = .ok (.sipush 8192, 3) := by decide +kernel
theorem d2_82 : decode method_2_code 82 = .ok (.if_icmp .lt 12, 3) := by decide +kernel
theorem d2_85 : decode method_2_code 85 = .ok (.iload_n 0, 1) := by decide +kernel
theorem d2_86 : decode method_2_code 86 = .ok (.sipush 8203, 3) := by decide +kernel
theorem d2_89 : decode method_2_code 89 = .ok (.if_icmp .gt 5, 3) := by decide +kernel
theorem d2_92 : decode method_2_code 92 = .ok (.iconst 1, 1) := by decide +kernel
theorem d2_93 : decode method_2_code 93 = .ok (.ireturn, 1) := by decide +kernel
theorem d2_94 : decode method_2_code 94 = .ok (.iload_n 0, 1) := by decide +kernel
theorem d2_95 : decode method_2_code 95 = .ok (.sipush 8206, 3) := by decide +kernel
theorem d2_98 : decode method_2_code 98 = .ok (.if_icmp .lt 12, 3) := by decide +kernel
theorem d2_101 : decode method_2_code 101 = .ok (.iload_n 0, 1) := by decide +kernel
theorem d2_102 : decode method_2_code 102 = .ok (.sipush 8303, 3) := by decide +kernel
theorem d2_105 : decode method_2_code 105 = .ok (.if_icmp .gt 5, 3) := by decide +kernel
theorem d2_108 : decode method_2_code 108 = .ok (.iconst 1, 1) := by decide +kernel
theorem d2_109 : decode method_2_code 109 = .ok (.ireturn, 1) := by decide +kernel
theorem d2_110 : decode method_2_code 110 = .ok (.iload_n 0, 1) := by decide +kernel
theorem d2_111 : decode method_2_code 111 = .ok (.sipush 8592, 3) := by decide +kernel
theorem d2_114 : decode method_2_code 114 = .ok (.if_icmp .lt 12, 3) := by decide +kernel
theorem d2_117 : decode method_2_code 117 = .ok (.iload_n 0, 1) := by decide +kernel
theorem d2_118 : decode method_2_code 118 = .ok (.sipush 11263, 3) := by decide +kernel
theorem d2_121 : decode method_2_code 121 = .ok (.if_icmp .gt 5, 3) := by decide +kernel
theorem d2_124 : decode method_2_code 124 = .ok (.iconst 1, 1) := by decide +kernel
theorem d2_125 : decode method_2_code 125 = .ok (.ireturn, 1) := by decide +kernel
theorem d2_126 : decode method_2_code 126 = .ok (.iload_n 0, 1) := by decide +kernel
theorem d2_127 : decode method_2_code 127 = .ok (.sipush 12272, 3) := by decide +kernel
theorem d2_130 : decode method_2_code 130 = .ok (.if_icmp .lt 12, 3) := by decide +kernel
theorem d2_133 : decode method_2_code 133 = .ok (.iload_n 0, 1) := by decide +kernel
theorem d2_134 : decode method_2_code 134 = .ok (.sipush 12288, 3) := by decide +kernel
theorem d2_137 : decode method_2_code 137 = .ok (.if_icmp .gt 5, 3) := by decide +kernel
theorem d2_140 : decode method_2_code 140 = .ok (.iconst 1, 1) := by decide +kernel
theorem d2_141 : decode method_2_code 141 = .ok (.ireturn, 1) := by decide +kernel
theorem d2_142 : decode method_2_code 142 = .ok (.iload_n 0, 1) := by decide +kernel
theorem d2_143 : decode method_2_code 143 = .ok (.ldc 7, 2) := by decide +kernel
theorem d2_145 : decode method_2_code 145 = .ok (.if_icmp .lt 11, 3) := by decide +kernel
theorem d2_148 : decode method_2_code 148 = .ok (.iload_n 0, 1) := by decide +kernel
theorem d2_149 : decode method_2_code 149 = .ok (.ldc 8, 2) := by decide +kernel
theorem d2_151 : decode method_2_code 151 = .ok (.if_icmp .gt 5, 3) := by decide +kernel
theorem d2_154 : decode method_2_code 154 = .ok (.iconst 1, 1) := by decide +kernel
theorem d2_155 : decode method_2_code 155 = .ok (.ireturn, 1) := by decide +kernel
theorem d2_156 : decode method_2_code 156 = .ok (.iload_n 0, 1) := by decide +kernel
theorem d2_157 : decode method_2_code 157 = .ok (.ldc 9, 2) := by decide +kernel
theorem d2_159 : decode method_2_code 159 = .ok (.if_icmp .lt 11, 3) := by decide +kernel
theorem d2_162 : decode method_2_code 162 = .ok (.iload_n 0, 1) := by decide +kernel
theorem d2_163 : decode method_2_code 163 = .ok (.ldc 10, 2) := by decide +kernel
theorem d2_165 : decode method_2_code 165 = .ok (.if_icmp .gt 5, 3) := by decide +kernel
theorem d2_168 : decode method_2_code 168 = .ok (.iconst 1, 1) := by decide +kernel
theorem d2_169 : decode method_2_code 169 = .ok (.ireturn, 1) := by decide +kernel
theorem d2_170 : decode method_2_code 170 = .ok (.iload_n 0, 1) := by decide +kernel
theorem d2_171 : decode method_2_code 171 = .ok (.ldc 11, 2) := by decide +kernel
theorem d2_173 : decode method_2_code 173 = .ok (.if_icmp .lt 11, 3) := by decide +kernel
theorem d2_176 : decode method_2_code 176 = .ok (.iload_n 0, 1) := by decide +kernel
theorem d2_177 : decode method_2_code 177 = .ok (.ldc 12, 2) := by decide +kernel
theorem d2_179 : decode method_2_code 179 = .ok (.if_icmp .gt 5, 3) := by decide +kernel
theorem d2_182 : decode method_2_code 182 = .ok (.iconst 1, 1) := by decide +kernel
theorem d2_183 : decode method_2_code 183 = .ok (.ireturn, 1) := by decide +kernel
theorem d2_184 : decode method_2_code 184 = .ok (.iload_n 0, 1) := by decide +kernel
theorem d2_185 : decode method_2_code 185 = .ok (.ldc 13, 2) := by decide +kernel
theorem d2_187 : decode method_2_code 187 = .ok (.if_icmp .le 7, 3) := by decide +kernel
theorem d2_190 : decode method_2_code 190 = .ok (.iconst 1, 1) := by decide +kernel
theorem d2_191 : decode method_2_code 191 = .ok (.goto 4, 3) := by decide +kernel
theorem d2_194 : decode method_2_code 194 = .ok (.iconst 0, 1) := by decide +kernel
theorem d2_195 : decode method_2_code 195 = .ok (.ireturn, 1) := by decide +kernel
theorem pn_1 : plainName "com/example/triskel/triskel/ntriples/TerminalReaderIsBaseCharacterPinLaw" = true := by first | (simp [plainName, overriddenIn]; done) | decide +kernel
theorem ef_2 (m : MethodId) (x0 : Int32) : entryFrame m #[(.int x0)] 1 = mkF m 0 #[.val (.int x0)] [] := by first | (simp [entryFrame, mkF, argsToLocals, Value.category]; done) | rfl
def Q2 (Z : State) (u0 : Int32) (h0 : Heap) (n0 : Nat) (v : Option Value) (h : Heap) (L : List Loc) : Prop := v = some (.int (f2_0 u0)) ∧ Fr n0 L ∧ h = h0
set_option maxRecDepth 65536 in
set_option maxHeartbeats 40000000 in
theorem rm2 (l : Launch) (Z : State) (a0 : Array Value) (hw : ∀ d ∈ tables_1, d.before a0 Z = true) (ws : List Jvm.Cond) (u0 : Int32) (h0 : Heap) (n0 : Nat) :
    MetFree l (⟨"com/example/triskel/triskel/ntriples/TerminalReaderIsBaseCharacterPinLaw", "excluded", "(I)Z"⟩ : MethodName) (head1 (Jvm.Cond.code (⟨"com/example/triskel/triskel/ntriples/TerminalReaderIsBaseCharacterPinLaw", "excluded", "(I)Z"⟩ : MethodName) method_2_code 1 (some .boolean) :: ws) ({ frames := 0, cells := 0, slots := 0, locals := 0 } : Room)) (fun a U => a = #[(.int u0)] ∧ Z.Warmed39 U.vm ∧ U.heap = h0) (fun _ _ _ _ _ => True) (fun _ U o U' => ∃ v L, o = .returned v ∧ Q2 Z u0 h0 n0 v U'.heap L ∧ FrameEnd U o U' L ({ frames := 0, cells := 0, slots := 0, locals := 0 } : Room).cells ({ frames := 0, cells := 0, slots := 0, locals := 0 } : Room).slots) := by
  refine MetFree.of_bodySF (plainFor_of_name pn_1) hisR ?_
  intro p e s m args below meth c s₁ Bd hml0 hP hK
  obtain ⟨rfl, hZ, hh⟩ := hP
  have hx := Bd.exec
  have hby := Bd.bytes
  have hml : c.maxLocals = 1 := hml0
  have hown : s.vm.findClass "com/example/triskel/triskel/ntriples/TerminalReaderIsBaseCharacterPinLaw" = some m.cls := findClass_of_methodNamed Bd.named
  have hnm := (name_of_methodNamed Bd.named Bd.method).1
  have X0 : Stand p l e ({ frames := 0, cells := 0, slots := 0, locals := 0 } : Room) s m #[(.int u0)] below meth c s₁ [] 0 0 := Stand.of_body Bd
  have e0 : s₁.heap = h0 := by rw [← hh, Bd.state]; rfl
  have N0 := Fr.nil n0
  have pre0 : ∀ t, Steps p.tables e below (s₁.setTop (mkF m 0 #[.val (.int u0)] [])) t → Steps p.tables e below (s₁.setTop (entryFrame m #[(.int u0)] 1)) t := fun t k => castTop (ef_2 m u0) k
  have sg184 : ∀ {fs : List Frame}, own_RetTo e s₁ m (some (.int (f2_184 u0))) fs → Steps p.tables e below (s₁.setTop (mkF m 184 #[.val (.int u0)] [])) (s₁.setFrames fs) := by
    intro fs hr
    show Steps p.tables e below (s₁.setTop (mkF m 184 #[.val (.int u0)] [])) _
    refine XS.iloadN X0.here hx rfl (hb hby d2_184) rfl ?_
    show Steps p.tables e below (s₁.setTop (mkF m 185 #[.val (.int u0)] [(.int u0)])) _
    refine X0.ldcInt hx hown (mvT hZ (hw _ (List.mem_of_getElem? (i := 7) rfl))) (g := (mkF m 185 #[.val (.int u0)] [(.int u0)])) rfl (hb hby d2_185) _ ?_
    show Steps p.tables e below (s₁.setTop (mkF m 187 #[.val (.int u0)] [(.int (983039 : Int32)), (.int u0)])) _
    by_cases hc187 : (983039 : Int32) < u0
    · refine XS.icmpNo X0.here hx rfl (hb hby d2_187) rfl (tlt hc187).2.2.2 ?_
      show Steps p.tables e below (s₁.setTop (mkF m 190 #[.val (.int u0)] [])) _
      refine XS.iconst X0.here hx rfl (hb hby d2_190) ?_
      show Steps p.tables e below (s₁.setTop (mkF m 191 #[.val (.int u0)] [(.int (1 : Int32))])) _
      refine XS.goto X0.here hx rfl (pc0 := 191) (pc' := 195) rfl (hb hby d2_191) (by decide) (by decide) ?_
      have hv : f2_184 u0 = (1 : Int32) := by unfold f2_184; rw [if_pos hc187]
      rw [hv] at hr
      show Steps p.tables e below (s₁.setTop (mkF m 195 #[.val (.int u0)] [(.int (1 : Int32))])) _
      exact retN X0 hx (t := .boolean) Bd.returns (by simp) (hb hby d2_195) hr
    · refine XS.icmpYes X0.here hx rfl (pc0 := 187) (pc' := 194) rfl (hb hby d2_187) rfl (flt hc187).2.2.2 (by decide) (by decide) ?_
      show Steps p.tables e below (s₁.setTop (mkF m 194 #[.val (.int u0)] [])) _
      refine XS.iconst X0.here hx rfl (hb hby d2_194) ?_
      have hv : f2_184 u0 = (0 : Int32) := by unfold f2_184; rw [if_neg hc187]
      rw [hv] at hr
      show Steps p.tables e below (s₁.setTop (mkF m 195 #[.val (.int u0)] [(.int (0 : Int32))])) _
      exact retN X0 hx (t := .boolean) Bd.returns (by simp) (hb hby d2_195) hr
  have sg170 : ∀ {fs : List Frame}, own_RetTo e s₁ m (some (.int (f2_170 u0))) fs → Steps p.tables e below (s₁.setTop (mkF m 170 #[.val (.int u0)] [])) (s₁.setFrames fs) := by
    intro fs hr
    show Steps p.tables e below (s₁.setTop (mkF m 170 #[.val (.int u0)] [])) _
    refine XS.iloadN X0.here hx rfl (hb hby d2_170) rfl ?_
    show Steps p.tables e below (s₁.setTop (mkF m 171 #[.val (.int u0)] [(.int u0)])) _
    refine X0.ldcInt hx hown (mvT hZ (hw _ (List.mem_of_getElem? (i := 22) rfl))) (g := (mkF m 171 #[.val (.int u0)] [(.int u0)])) rfl (hb hby d2_171) _ ?_
    show Steps p.tables e below (s₁.setTop (mkF m 173 #[.val (.int u0)] [(.int (65534 : Int32)), (.int u0)])) _
    by_cases hc173 : u0 < (65534 : Int32)
    · refine XS.icmpYes X0.here hx rfl (pc0 := 173) (pc' := 184) rfl (hb hby d2_173) rfl (tlt hc173).1 (by decide) (by decide) ?_
      have hv : f2_170 u0 = (f2_184 u0) := by unfold f2_170; rw [if_pos hc173]
      rw [hv] at hr
      exact sg184 hr
    · refine XS.icmpNo X0.here hx rfl (hb hby d2_173) rfl (flt hc173).1 ?_
      show Steps p.tables e below (s₁.setTop (mkF m 176 #[.val (.int u0)] [])) _
      refine XS.iloadN X0.here hx rfl (hb hby d2_176) rfl ?_
      show Steps p.tables e below (s₁.setTop (mkF m 177 #[.val (.int u0)] [(.int u0)])) _
      refine X0.ldcInt hx hown (mvT hZ (hw _ (List.mem_of_getElem? (i := 29) rfl))) (g := (mkF m 177 #[.val (.int u0)] [(.int u0)])) rfl (hb hby d2_177) _ ?_
      show Steps p.tables e below (s₁.setTop (mkF m 179 #[.val (.int u0)] [(.int (65535 : Int32)), (.int u0)])) _
      by_cases hc179 : (65535 : Int32) < u0
      · refine XS.icmpYes X0.here hx rfl (pc0 := 179) (pc' := 184) rfl (hb hby d2_179) rfl (tlt hc179).2.2.1 (by decide) (by decide) ?_
        have hv : f2_170 u0 = (f2_184 u0) := by unfold f2_170; rw [if_neg hc173, if_pos hc179]
        rw [hv] at hr
        exact sg184 hr
      · refine XS.icmpNo X0.here hx rfl (hb hby d2_179) rfl (flt hc179).2.2.1 ?_
        show Steps p.tables e below (s₁.setTop (mkF m 182 #[.val (.int u0)] [])) _
        refine XS.iconst X0.here hx rfl (hb hby d2_182) ?_
        have hv : f2_170 u0 = (1 : Int32) := by unfold f2_170; rw [if_neg hc173, if_neg hc179]
        rw [hv] at hr
        show Steps p.tables e below (s₁.setTop (mkF m 183 #[.val (.int u0)] [(.int (1 : Int32))])) _
        exact retN X0 hx (t := .boolean) Bd.returns (by simp) (hb hby d2_183) hr
  have sg156 : ∀ {fs : List Frame}, own_RetTo e s₁ m (some (.int (f2_156 u0))) fs → Steps p.tables e below (s₁.setTop (mkF m 156 #[.val (.int u0)] [])) (s₁.setFrames fs) := by
    intro fs hr
    show Steps p.tables e below (s₁.setTop (mkF m 156 #[.val (.int u0)] [])) _
    refine XS.iloadN X0.here hx rfl (hb hby d2_156) rfl ?_
    show Steps p.tables e below (s₁.setTop (mkF m 157 #[.val (.int u0)] [(.int u0)])) _
    refine X0.ldcInt hx hown (mvT hZ (hw _ (List.mem_of_getElem? (i := 21) rfl))) (g := (mkF m 157 #[.val (.int u0)] [(.int u0)])) rfl (hb hby d2_157) _ ?_
    show Steps p.tables e below (s₁.setTop (mkF m 159 #[.val (.int u0)] [(.int (64976 : Int32)), (.int u0)])) _
    by_cases hc159 : u0 < (64976 : Int32)
    · refine XS.icmpYes X0.here hx rfl (pc0 := 159) (pc' := 170) rfl (hb hby d2_159) rfl (tlt hc159).1 (by decide) (by decide) ?_
      have hv : f2_156 u0 = (f2_170 u0) := by unfold f2_156; rw [if_pos hc159]
      rw [hv] at hr
      exact sg170 hr
    · refine XS.icmpNo X0.here hx rfl (hb hby d2_159) rfl (flt hc159).1 ?_
      show Steps p.tables e below (s₁.setTop (mkF m 162 #[.val (.int u0)] [])) _
      refine XS.iloadN X0.here hx rfl (hb hby d2_162) rfl ?_
      show Steps p.tables e below (s₁.setTop (mkF m 163 #[.val (.int u0)] [(.int u0)])) _
      refine X0.ldcInt hx hown (mvT hZ (hw _ (List.mem_of_getElem? (i := 28) rfl))) (g := (mkF m 163 #[.val (.int u0)] [(.int u0)])) rfl (hb hby d2_163) _ ?_
      show Steps p.tables e below (s₁.setTop (mkF m 165 #[.val (.int u0)] [(.int (65007 : Int32)), (.int u0)])) _
      by_cases hc165 : (65007 : Int32) < u0
      · refine XS.icmpYes X0.here hx rfl (pc0 := 165) (pc' := 170) rfl (hb hby d2_165) rfl (tlt hc165).2.2.1 (by decide) (by decide) ?_
        have hv : f2_156 u0 = (f2_170 u0) := by unfold f2_156; rw [if_neg hc159, if_pos hc165]
        rw [hv] at hr
        exact sg170 hr
      · refine XS.icmpNo X0.here hx rfl (hb hby d2_165) rfl (flt hc165).2.2.1 ?_
        show Steps p.tables e below (s₁.setTop (mkF m 168 #[.val (.int u0)] [])) _
        refine XS.iconst X0.here hx rfl (hb hby d2_168) ?_
        have hv : f2_156 u0 = (1 : Int32) := by unfold f2_156; rw [if_neg hc159, if_neg hc165]
        rw [hv] at hr
        show Steps p.tables e below (s₁.setTop (mkF m 169 #[.val (.int u0)] [(.int (1 : Int32))])) _
        exact retN X0 hx (t := .boolean) Bd.returns (by simp) (hb hby d2_169) hr
  have sg142 : ∀ {fs : List Frame}, own_RetTo e s₁ m (some (.int (f2_142 u0))) fs → Steps p.tables e below (s₁.setTop (mkF m 142 #[.val (.int u0)] [])) (s₁.setFrames fs) := by
    intro fs hr
    show Steps p.tables e below (s₁.setTop (mkF m 142 #[.val (.int u0)] [])) _
    refine XS.iloadN X0.here hx rfl (hb hby d2_142) rfl ?_
    show Steps p.tables e below (s₁.setTop (mkF m 143 #[.val (.int u0)] [(.int u0)])) _
    refine X0.ldcInt hx hown (mvT hZ (hw _ (List.mem_of_getElem? (i := 20) rfl))) (g := (mkF m 143 #[.val (.int u0)] [(.int u0)])) rfl (hb hby d2_143) _ ?_
    show Steps p.tables e below (s₁.setTop (mkF m 145 #[.val (.int u0)] [(.int (55296 : Int32)), (.int u0)])) _
    by_cases hc145 : u0 < (55296 : Int32)
    · refine XS.icmpYes X0.here hx rfl (pc0 := 145) (pc' := 156) rfl (hb hby d2_145) rfl (tlt hc145).1 (by decide) (by decide) ?_
      have hv : f2_142 u0 = (f2_156 u0) := by unfold f2_142; rw [if_pos hc145]
      rw [hv] at hr
      exact sg156 hr
    · refine XS.icmpNo X0.here hx rfl (hb hby d2_145) rfl (flt hc145).1 ?_
      show Steps p.tables e below (s₁.setTop (mkF m 148 #[.val (.int u0)] [])) _
      refine XS.iloadN X0.here hx rfl (hb hby d2_148) rfl ?_
      show Steps p.tables e below (s₁.setTop (mkF m 149 #[.val (.int u0)] [(.int u0)])) _
      refine X0.ldcInt hx hown (mvT hZ (hw _ (List.mem_of_getElem? (i := 27) rfl))) (g := (mkF m 149 #[.val (.int u0)] [(.int u0)])) rfl (hb hby d2_149) _ ?_
      show Steps p.tables e below (s₁.setTop (mkF m 151 #[.val (.int u0)] [(.int (63743 : Int32)), (.int u0)])) _
      by_cases hc151 : (63743 : Int32) < u0
      · refine XS.icmpYes X0.here hx rfl (pc0 := 151) (pc' := 156) rfl (hb hby d2_151) rfl (tlt hc151).2.2.1 (by decide) (by decide) ?_
        have hv : f2_142 u0 = (f2_156 u0) := by unfold f2_142; rw [if_neg hc145, if_pos hc151]
        rw [hv] at hr
        exact sg156 hr
      · refine XS.icmpNo X0.here hx rfl (hb hby d2_151) rfl (flt hc151).2.2.1 ?_
        show Steps p.tables e below (s₁.setTop (mkF m 154 #[.val (.int u0)] [])) _
        refine XS.iconst X0.here hx rfl (hb hby d2_154) ?_
        have hv : f2_142 u0 = (1 : Int32) := by unfold f2_142; rw [if_neg hc145, if_neg hc151]
        rw [hv] at hr
        show Steps p.tables e below (s₁.setTop (mkF m 155 #[.val (.int u0)] [(.int (1 : Int32))])) _
        exact retN X0 hx (t := .boolean) Bd.returns (by simp) (hb hby d2_155) hr
  have sg126 : ∀ {fs : List Frame}, own_RetTo e s₁ m (some (.int (f2_126 u0))) fs → Steps p.tables e below (s₁.setTop (mkF m 126 #[.val (.int u0)] [])) (s₁.setFrames fs) := by
    intro fs hr
    show Steps p.tables e below (s₁.setTop (mkF m 126 #[.val (.int u0)] [])) _
    refine XS.iloadN X0.here hx rfl (hb hby d2_126) rfl ?_
    show Steps p.tables e below (s₁.setTop (mkF m 127 #[.val (.int u0)] [(.int u0)])) _
    refine XS.sipush X0.here hx rfl (hb hby d2_127) ?_
    show Steps p.tables e below (s₁.setTop (mkF m 130 #[.val (.int u0)] [(.int (12272 : Int32)), (.int u0)])) _
    by_cases hc130 : u0 < (12272 : Int32)
    · refine XS.icmpYes X0.here hx rfl (pc0 := 130) (pc' := 142) rfl (hb hby d2_130) rfl (tlt hc130).1 (by decide) (by decide) ?_
      have hv : f2_126 u0 = (f2_142 u0) := by unfold f2_126; rw [if_pos hc130]
      rw [hv] at hr
      exact sg142 hr
    · refine XS.icmpNo X0.here hx rfl (hb hby d2_130) rfl (flt hc130).1 ?_
      show Steps p.tables e below (s₁.setTop (mkF m 133 #[.val (.int u0)] [])) _
      refine XS.iloadN X0.here hx rfl (hb hby d2_133) rfl ?_
      show Steps p.tables e below (s₁.setTop (mkF m 134 #[.val (.int u0)] [(.int u0)])) _
      refine XS.sipush X0.here hx rfl (hb hby d2_134) ?_
      show Steps p.tables e below (s₁.setTop (mkF m 137 #[.val (.int u0)] [(.int (12288 : Int32)), (.int u0)])) _
      by_cases hc137 : (12288 : Int32) < u0
      · refine XS.icmpYes X0.here hx rfl (pc0 := 137) (pc' := 142) rfl (hb hby d2_137) rfl (tlt hc137).2.2.1 (by decide) (by decide) ?_
        have hv : f2_126 u0 = (f2_142 u0) := by unfold f2_126; rw [if_neg hc130, if_pos hc137]
        rw [hv] at hr
        exact sg142 hr
      · refine XS.icmpNo X0.here hx rfl (hb hby d2_137) rfl (flt hc137).2.2.1 ?_
        show Steps p.tables e below (s₁.setTop (mkF m 140 #[.val (.int u0)] [])) _
        refine XS.iconst X0.here hx rfl (hb hby d2_140) ?_
        have hv : f2_126 u0 = (1 : Int32) := by unfold f2_126; rw [if_neg hc130, if_neg hc137]
        rw [hv] at hr
        show Steps p.tables e below (s₁.setTop (mkF m 141 #[.val (.int u0)] [(.int (1 : Int32))])) _
        exact retN X0 hx (t := .boolean) Bd.returns (by simp) (hb hby d2_141) hr
  have sg110 : ∀ {fs : List Frame}, own_RetTo e s₁ m (some (.int (f2_110 u0))) fs → Steps p.tables e below (s₁.setTop (mkF m 110 #[.val (.int u0)] [])) (s₁.setFrames fs) := by
    intro fs hr
    show Steps p.tables e below (s₁.setTop (mkF m 110 #[.val (.int u0)] [])) _
    refine XS.iloadN X0.here hx rfl (hb hby d2_110) rfl ?_
    show Steps p.tables e below (s₁.setTop (mkF m 111 #[.val (.int u0)] [(.int u0)])) _
    refine XS.sipush X0.here hx rfl (hb hby d2_111) ?_
    show Steps p.tables e below (s₁.setTop (mkF m 114 #[.val (.int u0)] [(.int (8592 : Int32)), (.int u0)])) _
    by_cases hc114 : u0 < (8592 : Int32)
    · refine XS.icmpYes X0.here hx rfl (pc0 := 114) (pc' := 126) rfl (hb hby d2_114) rfl (tlt hc114).1 (by decide) (by decide) ?_
      have hv : f2_110 u0 = (f2_126 u0) := by unfold f2_110; rw [if_pos hc114]
      rw [hv] at hr
      exact sg126 hr
    · refine XS.icmpNo X0.here hx rfl (hb hby d2_114) rfl (flt hc114).1 ?_
      show Steps p.tables e below (s₁.setTop (mkF m 117 #[.val (.int u0)] [])) _
      refine XS.iloadN X0.here hx rfl (hb hby d2_117) rfl ?_
      show Steps p.tables e below (s₁.setTop (mkF m 118 #[.val (.int u0)] [(.int u0)])) _
      refine XS.sipush X0.here hx rfl (hb hby d2_118) ?_
      show Steps p.tables e below (s₁.setTop (mkF m 121 #[.val (.int u0)] [(.int (11263 : Int32)), (.int u0)])) _
      by_cases hc121 : (11263 : Int32) < u0
      · refine XS.icmpYes X0.here hx rfl (pc0 := 121) (pc' := 126) rfl (hb hby d2_121) rfl (tlt hc121).2.2.1 (by decide) (by decide) ?_
        have hv : f2_110 u0 = (f2_126 u0) := by unfold f2_110; rw [if_neg hc114, if_pos hc121]
        rw [hv] at hr
        exact sg126 hr
      · refine XS.icmpNo X0.here hx rfl (hb hby d2_121) rfl (flt hc121).2.2.1 ?_
        show Steps p.tables e below (s₁.setTop (mkF m 124 #[.val (.int u0)] [])) _
        refine XS.iconst X0.here hx rfl (hb hby d2_124) ?_
        have hv : f2_110 u0 = (1 : Int32) := by unfold f2_110; rw [if_neg hc114, if_neg hc121]
        rw [hv] at hr
        show Steps p.tables e below (s₁.setTop (mkF m 125 #[.val (.int u0)] [(.int (1 : Int32))])) _
        exact retN X0 hx (t := .boolean) Bd.returns (by simp) (hb hby d2_125) hr
  have sg94 : ∀ {fs : List Frame}, own_RetTo e s₁ m (some (.int (f2_94 u0))) fs → Steps p.tables e below (s₁.setTop (mkF m 94 #[.val (.int u0)] [])) (s₁.setFrames fs) := by
    intro fs hr
    show Steps p.tables e below (s₁.setTop (mkF m 94 #[.val (.int u0)] [])) _
    refine XS.iloadN X0.here hx rfl (hb hby d2_94) rfl ?_
    show Steps p.tables e below (s₁.setTop (mkF m 95 #[.val (.int u0)] [(.int u0)])) _
    refine XS.sipush X0.here hx rfl (hb hby d2_95) ?_
    show Steps p.tables e below (s₁.setTop (mkF m 98 #[.val (.int u0)] [(.int (8206 : Int32)), (.int u0)])) _
    by_cases hc98 : u0 < (8206 : Int32)
    · refine XS.icmpYes X0.here hx rfl (pc0 := 98) (pc' := 110) rfl (hb hby d2_98) rfl (tlt hc98).1 (by decide) (by decide) ?_
      have hv : f2_94 u0 = (f2_110 u0) := by unfold f2_94; rw [if_pos hc98]
      rw [hv] at hr
      exact sg110 hr
    · refine XS.icmpNo X0.here hx rfl (hb hby d2_98) rfl (flt hc98).1 ?_
      show Steps p.tables e below (s₁.setTop (mkF m 101 #[.val (.int u0)] [])) _
      refine XS.iloadN X0.here hx rfl (hb hby d2_101) rfl ?_
      show Steps p.tables e below (s₁.setTop (mkF m 102 #[.val (.int u0)] [(.int u0)])) _
      refine XS.sipush X0.here hx rfl (hb hby d2_102) ?_
      show Steps p.tables e below (s₁.setTop (mkF m 105 #[.val (.int u0)] [(.int (8303 : Int32)), (.int u0)])) _
      by_cases hc105 : (8303 : Int32) < u0
      · refine XS.icmpYes X0.here hx rfl (pc0 := 105) (pc' := 110) rfl (hb hby d2_105) rfl (tlt hc105).2.2.1 (by decide) (by decide) ?_
        have hv : f2_94 u0 = (f2_110 u0) := by unfold f2_94; rw [if_neg hc98, if_pos hc105]
        rw [hv] at hr
        exact sg110 hr
      · refine XS.icmpNo X0.here hx rfl (hb hby d2_105) rfl (flt hc105).2.2.1 ?_
        show Steps p.tables e below (s₁.setTop (mkF m 108 #[.val (.int u0)] [])) _
        refine XS.iconst X0.here hx rfl (hb hby d2_108) ?_
        have hv : f2_94 u0 = (1 : Int32) := by unfold f2_94; rw [if_neg hc98, if_neg hc105]
        rw [hv] at hr
        show Steps p.tables e below (s₁.setTop (mkF m 109 #[.val (.int u0)] [(.int (1 : Int32))])) _
        exact retN X0 hx (t := .boolean) Bd.returns (by simp) (hb hby d2_109) hr
  have sg78 : ∀ {fs : List Frame}, own_RetTo e s₁ m (some (.int (f2_78 u0))) fs → Steps p.tables e below (s₁.setTop (mkF m 78 #[.val (.int u0)] [])) (s₁.setFrames fs) := by
    intro fs hr
    show Steps p.tables e below (s₁.setTop (mkF m 78 #[.val (.int u0)] [])) _
    refine XS.iloadN X0.here hx rfl (hb hby d2_78) rfl ?_
    show Steps p.tables e below (s₁.setTop (mkF m 79 #[.val (.int u0)] [(.int u0)])) _
    refine XS.sipush X0.here hx rfl (hb hby d2_79) ?_
    show Steps p.tables e below (s₁.setTop (mkF m 82 #[.val (.int u0)] [(.int (8192 : Int32)), (.int u0)])) _
    by_cases hc82 : u0 < (8192 : Int32)
    · refine XS.icmpYes X0.here hx rfl (pc0 := 82) (pc' := 94) rfl (hb hby d2_82) rfl (tlt hc82).1 (by decide) (by decide) ?_
      have hv : f2_78 u0 = (f2_94 u0) := by unfold f2_78; rw [if_pos hc82]
      rw [hv] at hr
      exact sg94 hr
    · refine XS.icmpNo X0.here hx rfl (hb hby d2_82) rfl (flt hc82).1 ?_
      show Steps p.tables e below (s₁.setTop (mkF m 85 #[.val (.int u0)] [])) _
      refine XS.iloadN X0.here hx rfl (hb hby d2_85) rfl ?_
      show Steps p.tables e below (s₁.setTop (mkF m 86 #[.val (.int u0)] [(.int u0)])) _
      refine XS.sipush X0.here hx rfl (hb hby d2_86) ?_
      show Steps p.tables e below (s₁.setTop (mkF m 89 #[.val (.int u0)] [(.int (8203 : Int32)), (.int u0)])) _
      by_cases hc89 : (8203 : Int32) < u0
      · refine XS.icmpYes X0.here hx rfl (pc0 := 89) (pc' := 94) rfl (hb hby d2_89) rfl (tlt hc89).2.2.1 (by decide) (by decide) ?_
        have hv : f2_78 u0 = (f2_94 u0) := by unfold f2_78; rw [if_neg hc82, if_pos hc89]
        rw [hv] at hr
        exact sg94 hr
      · refine XS.icmpNo X0.here hx rfl (hb hby d2_89) rfl (flt hc89).2.2.1 ?_
        show Steps p.tables e below (s₁.setTop (mkF m 92 #[.val (.int u0)] [])) _
        refine XS.iconst X0.here hx rfl (hb hby d2_92) ?_
        have hv : f2_78 u0 = (1 : Int32) := by unfold f2_78; rw [if_neg hc82, if_neg hc89]
        rw [hv] at hr
        show Steps p.tables e below (s₁.setTop (mkF m 93 #[.val (.int u0)] [(.int (1 : Int32))])) _
        exact retN X0 hx (t := .boolean) Bd.returns (by simp) (hb hby d2_93) hr
  have sg69 : ∀ {fs : List Frame}, own_RetTo e s₁ m (some (.int (f2_69 u0))) fs → Steps p.tables e below (s₁.setTop (mkF m 69 #[.val (.int u0)] [])) (s₁.setFrames fs) := by
    intro fs hr
    show Steps p.tables e below (s₁.setTop (mkF m 69 #[.val (.int u0)] [])) _
    refine XS.iloadN X0.here hx rfl (hb hby d2_69) rfl ?_
    show Steps p.tables e below (s₁.setTop (mkF m 70 #[.val (.int u0)] [(.int u0)])) _
    refine XS.sipush X0.here hx rfl (hb hby d2_70) ?_
    show Steps p.tables e below (s₁.setTop (mkF m 73 #[.val (.int u0)] [(.int (894 : Int32)), (.int u0)])) _
    by_cases hc73 : u0 = (894 : Int32)
    · refine XS.icmpNo X0.here hx rfl (hb hby d2_73) rfl (teq hc73).2 ?_
      show Steps p.tables e below (s₁.setTop (mkF m 76 #[.val (.int u0)] [])) _
      refine XS.iconst X0.here hx rfl (hb hby d2_76) ?_
      have hv : f2_69 u0 = (1 : Int32) := by unfold f2_69; rw [if_pos hc73]
      rw [hv] at hr
      show Steps p.tables e below (s₁.setTop (mkF m 77 #[.val (.int u0)] [(.int (1 : Int32))])) _
      exact retN X0 hx (t := .boolean) Bd.returns (by simp) (hb hby d2_77) hr
    · refine XS.icmpYes X0.here hx rfl (pc0 := 73) (pc' := 78) rfl (hb hby d2_73) rfl (feq hc73).2 (by decide) (by decide) ?_
      have hv : f2_69 u0 = (f2_78 u0) := by unfold f2_69; rw [if_neg hc73]
      rw [hv] at hr
      exact sg78 hr
  have sg53 : ∀ {fs : List Frame}, own_RetTo e s₁ m (some (.int (f2_53 u0))) fs → Steps p.tables e below (s₁.setTop (mkF m 53 #[.val (.int u0)] [])) (s₁.setFrames fs) := by
    intro fs hr
    show Steps p.tables e below (s₁.setTop (mkF m 53 #[.val (.int u0)] [])) _
    refine XS.iloadN X0.here hx rfl (hb hby d2_53) rfl ?_
    show Steps p.tables e below (s₁.setTop (mkF m 54 #[.val (.int u0)] [(.int u0)])) _
    refine XS.sipush X0.here hx rfl (hb hby d2_54) ?_
    show Steps p.tables e below (s₁.setTop (mkF m 57 #[.val (.int u0)] [(.int (768 : Int32)), (.int u0)])) _
    by_cases hc57 : u0 < (768 : Int32)
    · refine XS.icmpYes X0.here hx rfl (pc0 := 57) (pc' := 69) rfl (hb hby d2_57) rfl (tlt hc57).1 (by decide) (by decide) ?_
      have hv : f2_53 u0 = (f2_69 u0) := by unfold f2_53; rw [if_pos hc57]
      rw [hv] at hr
      exact sg69 hr
    · refine XS.icmpNo X0.here hx rfl (hb hby d2_57) rfl (flt hc57).1 ?_
      show Steps p.tables e below (s₁.setTop (mkF m 60 #[.val (.int u0)] [])) _
      refine XS.iloadN X0.here hx rfl (hb hby d2_60) rfl ?_
      show Steps p.tables e below (s₁.setTop (mkF m 61 #[.val (.int u0)] [(.int u0)])) _
      refine XS.sipush X0.here hx rfl (hb hby d2_61) ?_
      show Steps p.tables e below (s₁.setTop (mkF m 64 #[.val (.int u0)] [(.int (879 : Int32)), (.int u0)])) _
      by_cases hc64 : (879 : Int32) < u0
      · refine XS.icmpYes X0.here hx rfl (pc0 := 64) (pc' := 69) rfl (hb hby d2_64) rfl (tlt hc64).2.2.1 (by decide) (by decide) ?_
        have hv : f2_53 u0 = (f2_69 u0) := by unfold f2_53; rw [if_neg hc57, if_pos hc64]
        rw [hv] at hr
        exact sg69 hr
      · refine XS.icmpNo X0.here hx rfl (hb hby d2_64) rfl (flt hc64).2.2.1 ?_
        show Steps p.tables e below (s₁.setTop (mkF m 67 #[.val (.int u0)] [])) _
        refine XS.iconst X0.here hx rfl (hb hby d2_67) ?_
        have hv : f2_53 u0 = (1 : Int32) := by unfold f2_53; rw [if_neg hc57, if_neg hc64]
        rw [hv] at hr
        show Steps p.tables e below (s₁.setTop (mkF m 68 #[.val (.int u0)] [(.int (1 : Int32))])) _
        exact retN X0 hx (t := .boolean) Bd.returns (by simp) (hb hby d2_68) hr
  have sg37 : ∀ {fs : List Frame}, own_RetTo e s₁ m (some (.int (f2_37 u0))) fs → Steps p.tables e below (s₁.setTop (mkF m 37 #[.val (.int u0)] [])) (s₁.setFrames fs) := by
    intro fs hr
    show Steps p.tables e below (s₁.setTop (mkF m 37 #[.val (.int u0)] [])) _
    refine XS.iloadN X0.here hx rfl (hb hby d2_37) rfl ?_
    show Steps p.tables e below (s₁.setTop (mkF m 38 #[.val (.int u0)] [(.int u0)])) _
    refine XS.sipush X0.here hx rfl (hb hby d2_38) ?_
    show Steps p.tables e below (s₁.setTop (mkF m 41 #[.val (.int u0)] [(.int (215 : Int32)), (.int u0)])) _
    by_cases hc41 : u0 = (215 : Int32)
    · refine XS.icmpYes X0.here hx rfl (pc0 := 41) (pc' := 51) rfl (hb hby d2_41) rfl (teq hc41).1 (by decide) (by decide) ?_
      show Steps p.tables e below (s₁.setTop (mkF m 51 #[.val (.int u0)] [])) _
      refine XS.iconst X0.here hx rfl (hb hby d2_51) ?_
      have hv : f2_37 u0 = (1 : Int32) := by unfold f2_37; rw [if_pos hc41]
      rw [hv] at hr
      show Steps p.tables e below (s₁.setTop (mkF m 52 #[.val (.int u0)] [(.int (1 : Int32))])) _
      exact retN X0 hx (t := .boolean) Bd.returns (by simp) (hb hby d2_52) hr
    · refine XS.icmpNo X0.here hx rfl (hb hby d2_41) rfl (feq hc41).1 ?_
      show Steps p.tables e below (s₁.setTop (mkF m 44 #[.val (.int u0)] [])) _
      refine XS.iloadN X0.here hx rfl (hb hby d2_44) rfl ?_
      show Steps p.tables e below (s₁.setTop (mkF m 45 #[.val (.int u0)] [(.int u0)])) _
      refine XS.sipush X0.here hx rfl (hb hby d2_45) ?_
      show Steps p.tables e below (s₁.setTop (mkF m 48 #[.val (.int u0)] [(.int (247 : Int32)), (.int u0)])) _
      by_cases hc48 : u0 = (247 : Int32)
      · refine XS.icmpNo X0.here hx rfl (hb hby d2_48) rfl (teq hc48).2 ?_
        show Steps p.tables e below (s₁.setTop (mkF m 51 #[.val (.int u0)] [])) _
        refine XS.iconst X0.here hx rfl (hb hby d2_51) ?_
        have hv : f2_37 u0 = (1 : Int32) := by unfold f2_37; rw [if_neg hc41, if_pos hc48]
        rw [hv] at hr
        show Steps p.tables e below (s₁.setTop (mkF m 52 #[.val (.int u0)] [(.int (1 : Int32))])) _
        exact retN X0 hx (t := .boolean) Bd.returns (by simp) (hb hby d2_52) hr
      · refine XS.icmpYes X0.here hx rfl (pc0 := 48) (pc' := 53) rfl (hb hby d2_48) rfl (feq hc48).2 (by decide) (by decide) ?_
        have hv : f2_37 u0 = (f2_53 u0) := by unfold f2_37; rw [if_neg hc41, if_neg hc48]
        rw [hv] at hr
        exact sg53 hr
  have sg22 : ∀ {fs : List Frame}, own_RetTo e s₁ m (some (.int (f2_22 u0))) fs → Steps p.tables e below (s₁.setTop (mkF m 22 #[.val (.int u0)] [])) (s₁.setFrames fs) := by
    intro fs hr
    show Steps p.tables e below (s₁.setTop (mkF m 22 #[.val (.int u0)] [])) _
    refine XS.iloadN X0.here hx rfl (hb hby d2_22) rfl ?_
    show Steps p.tables e below (s₁.setTop (mkF m 23 #[.val (.int u0)] [(.int u0)])) _
    refine XS.bipush X0.here hx rfl (hb hby d2_23) ?_
    show Steps p.tables e below (s₁.setTop (mkF m 25 #[.val (.int u0)] [(.int (122 : Int32)), (.int u0)])) _
    by_cases hc25 : (122 : Int32) < u0
    · refine XS.icmpNo X0.here hx rfl (hb hby d2_25) rfl (tlt hc25).2.2.2 ?_
      show Steps p.tables e below (s₁.setTop (mkF m 28 #[.val (.int u0)] [])) _
      refine XS.iloadN X0.here hx rfl (hb hby d2_28) rfl ?_
      show Steps p.tables e below (s₁.setTop (mkF m 29 #[.val (.int u0)] [(.int u0)])) _
      refine XS.sipush X0.here hx rfl (hb hby d2_29) ?_
      show Steps p.tables e below (s₁.setTop (mkF m 32 #[.val (.int u0)] [(.int (192 : Int32)), (.int u0)])) _
      by_cases hc32 : u0 < (192 : Int32)
      · refine XS.icmpNo X0.here hx rfl (hb hby d2_32) rfl (tlt hc32).2.1 ?_
        show Steps p.tables e below (s₁.setTop (mkF m 35 #[.val (.int u0)] [])) _
        refine XS.iconst X0.here hx rfl (hb hby d2_35) ?_
        have hv : f2_22 u0 = (1 : Int32) := by unfold f2_22; rw [if_pos hc25, if_pos hc32]
        rw [hv] at hr
        show Steps p.tables e below (s₁.setTop (mkF m 36 #[.val (.int u0)] [(.int (1 : Int32))])) _
        exact retN X0 hx (t := .boolean) Bd.returns (by simp) (hb hby d2_36) hr
      · refine XS.icmpYes X0.here hx rfl (pc0 := 32) (pc' := 37) rfl (hb hby d2_32) rfl (flt hc32).2.1 (by decide) (by decide) ?_
        have hv : f2_22 u0 = (f2_37 u0) := by unfold f2_22; rw [if_pos hc25, if_neg hc32]
        rw [hv] at hr
        exact sg37 hr
    · refine XS.icmpYes X0.here hx rfl (pc0 := 25) (pc' := 37) rfl (hb hby d2_25) rfl (flt hc25).2.2.2 (by decide) (by decide) ?_
      have hv : f2_22 u0 = (f2_37 u0) := by unfold f2_22; rw [if_neg hc25]
      rw [hv] at hr
      exact sg37 hr
  have sg0 : ∀ {fs : List Frame}, own_RetTo e s₁ m (some (.int (f2_0 u0))) fs → Steps p.tables e below (s₁.setTop (mkF m 0 #[.val (.int u0)] [])) (s₁.setFrames fs) := by
    intro fs hr
    show Steps p.tables e below (s₁.setTop (mkF m 0 #[.val (.int u0)] [])) _
    refine XS.iloadN X0.here hx rfl (hb hby d2_0) rfl ?_
    show Steps p.tables e below (s₁.setTop (mkF m 1 #[.val (.int u0)] [(.int u0)])) _
    refine XS.bipush X0.here hx rfl (hb hby d2_1) ?_
    show Steps p.tables e below (s₁.setTop (mkF m 3 #[.val (.int u0)] [(.int (65 : Int32)), (.int u0)])) _
    by_cases hc3 : u0 < (65 : Int32)
    · refine XS.icmpNo X0.here hx rfl (hb hby d2_3) rfl (tlt hc3).2.1 ?_
      show Steps p.tables e below (s₁.setTop (mkF m 6 #[.val (.int u0)] [])) _
      refine XS.iconst X0.here hx rfl (hb hby d2_6) ?_
      have hv : f2_0 u0 = (1 : Int32) := by unfold f2_0; rw [if_pos hc3]
      rw [hv] at hr
      show Steps p.tables e below (s₁.setTop (mkF m 7 #[.val (.int u0)] [(.int (1 : Int32))])) _
      exact retN X0 hx (t := .boolean) Bd.returns (by simp) (hb hby d2_7) hr
    · refine XS.icmpYes X0.here hx rfl (pc0 := 3) (pc' := 8) rfl (hb hby d2_3) rfl (flt hc3).2.1 (by decide) (by decide) ?_
      show Steps p.tables e below (s₁.setTop (mkF m 8 #[.val (.int u0)] [])) _
      refine XS.iloadN X0.here hx rfl (hb hby d2_8) rfl ?_
      show Steps p.tables e below (s₁.setTop (mkF m 9 #[.val (.int u0)] [(.int u0)])) _
      refine XS.bipush X0.here hx rfl (hb hby d2_9) ?_
      show Steps p.tables e below (s₁.setTop (mkF m 11 #[.val (.int u0)] [(.int (90 : Int32)), (.int u0)])) _
      by_cases hc11 : (90 : Int32) < u0
      · refine XS.icmpNo X0.here hx rfl (hb hby d2_11) rfl (tlt hc11).2.2.2 ?_
        show Steps p.tables e below (s₁.setTop (mkF m 14 #[.val (.int u0)] [])) _
        refine XS.iloadN X0.here hx rfl (hb hby d2_14) rfl ?_
        show Steps p.tables e below (s₁.setTop (mkF m 15 #[.val (.int u0)] [(.int u0)])) _
        refine XS.bipush X0.here hx rfl (hb hby d2_15) ?_
        show Steps p.tables e below (s₁.setTop (mkF m 17 #[.val (.int u0)] [(.int (97 : Int32)), (.int u0)])) _
        by_cases hc17 : u0 < (97 : Int32)
        · refine XS.icmpNo X0.here hx rfl (hb hby d2_17) rfl (tlt hc17).2.1 ?_
          show Steps p.tables e below (s₁.setTop (mkF m 20 #[.val (.int u0)] [])) _
          refine XS.iconst X0.here hx rfl (hb hby d2_20) ?_
          have hv : f2_0 u0 = (1 : Int32) := by unfold f2_0; rw [if_neg hc3, if_pos hc11, if_pos hc17]
          rw [hv] at hr
          show Steps p.tables e below (s₁.setTop (mkF m 21 #[.val (.int u0)] [(.int (1 : Int32))])) _
          exact retN X0 hx (t := .boolean) Bd.returns (by simp) (hb hby d2_21) hr
        · refine XS.icmpYes X0.here hx rfl (pc0 := 17) (pc' := 22) rfl (hb hby d2_17) rfl (flt hc17).2.1 (by decide) (by decide) ?_
          have hv : f2_0 u0 = (f2_22 u0) := by unfold f2_0; rw [if_neg hc3, if_pos hc11, if_neg hc17]
          rw [hv] at hr
          exact sg22 hr
      · refine XS.icmpYes X0.here hx rfl (pc0 := 11) (pc' := 22) rfl (hb hby d2_11) rfl (flt hc11).2.2.2 (by decide) (by decide) ?_
        have hv : f2_0 u0 = (f2_22 u0) := by unfold f2_0; rw [if_neg hc3, if_neg hc11]
        rw [hv] at hr
        exact sg22 hr
  obtain ⟨fs, hr, hrun, hended, hW, hsame⟩ := X0.leave (v := some (.int (f2_0 u0))) (fun h => by rw [Bd.returns] at h; cases h)
  refine ⟨_, _, pre0 _ ?_, hrun, hended, _, _, rfl, ?_, ⟨_, rfl⟩, hW, hsame.mono (by decide) (by decide)⟩
  · show Steps p.tables e below (s₁.setTop (mkF m 0 #[.val (.int u0)] [])) _
    exact sg0 hr
  · show Q2 Z u0 h0 n0 _ s₁.heap _
    rw [e0]
    exact ⟨rfl, N0, rfl⟩
def own_b178 (n : Int) : Prop := (65536 ≤ n ∧ n ≤ 983039) ∨ False
theorem own_f1_178 (u0 : Int32) : (f1_178 u0 = 1 ∧ own_b178 u0.toInt) ∨ (f1_178 u0 = 0 ∧ ¬ own_b178 u0.toInt) := by
  have k1 : (65536 : Int32).toInt = 65536 := rfl
  have k2 : (983039 : Int32).toInt = 983039 := rfl
  unfold f1_178 own_b178
  simp only [Int32.lt_iff_toInt_lt, k1, k2]
  by_cases q1 : u0.toInt < 65536
  · rw [if_pos q1]
    exact Or.inr ⟨rfl, fun r => r.elim (fun r => by omega) id⟩
  · rw [if_neg q1]
    by_cases q2 : 983039 < u0.toInt
    · rw [if_pos q2]
      exact Or.inr ⟨rfl, fun r => r.elim (fun r => by omega) id⟩
    · rw [if_neg q2]
      exact Or.inl ⟨rfl, Or.inl ⟨by omega, by omega⟩⟩
def own_b164 (n : Int) : Prop := (65008 ≤ n ∧ n ≤ 65533) ∨ own_b178 n
theorem own_f1_164 (u0 : Int32) : (f1_164 u0 = 1 ∧ own_b164 u0.toInt) ∨ (f1_164 u0 = 0 ∧ ¬ own_b164 u0.toInt) := by
  have k1 : (65008 : Int32).toInt = 65008 := rfl
  have k2 : (65533 : Int32).toInt = 65533 := rfl
  unfold f1_164 own_b164
  simp only [Int32.lt_iff_toInt_lt, k1, k2]
  have ih := own_f1_178 u0
  by_cases q1 : u0.toInt < 65008
  · rw [if_pos q1]
    rcases ih with ⟨a, b⟩ | ⟨a, b⟩
    · exact Or.inl ⟨a, Or.inr b⟩
    · exact Or.inr ⟨a, fun r => r.elim (fun r => by omega) b⟩
  · rw [if_neg q1]
    by_cases q2 : 65533 < u0.toInt
    · rw [if_pos q2]
      rcases ih with ⟨a, b⟩ | ⟨a, b⟩
      · exact Or.inl ⟨a, Or.inr b⟩
      · exact Or.inr ⟨a, fun r => r.elim (fun r => by omega) b⟩
    · rw [if_neg q2]
      exact Or.inl ⟨rfl, Or.inl ⟨by omega, by omega⟩⟩
def own_b150 (n : Int) : Prop := (63744 ≤ n ∧ n ≤ 64975) ∨ own_b164 n
theorem own_f1_150 (u0 : Int32) : (f1_150 u0 = 1 ∧ own_b150 u0.toInt) ∨ (f1_150 u0 = 0 ∧ ¬ own_b150 u0.toInt) := by
  have k1 : (63744 : Int32).toInt = 63744 := rfl
  have k2 : (64975 : Int32).toInt = 64975 := rfl
  unfold f1_150 own_b150
  simp only [Int32.lt_iff_toInt_lt, k1, k2]
  have ih := own_f1_164 u0
  by_cases q1 : u0.toInt < 63744
  · rw [if_pos q1]
    rcases ih with ⟨a, b⟩ | ⟨a, b⟩
    · exact Or.inl ⟨a, Or.inr b⟩
    · exact Or.inr ⟨a, fun r => r.elim (fun r => by omega) b⟩
  · rw [if_neg q1]
    by_cases q2 : 64975 < u0.toInt
    · rw [if_pos q2]
      rcases ih with ⟨a, b⟩ | ⟨a, b⟩
      · exact Or.inl ⟨a, Or.inr b⟩
      · exact Or.inr ⟨a, fun r => r.elim (fun r => by omega) b⟩
    · rw [if_neg q2]
      exact Or.inl ⟨rfl, Or.inl ⟨by omega, by omega⟩⟩
def own_b136 (n : Int) : Prop := (12289 ≤ n ∧ n ≤ 55295) ∨ own_b150 n
theorem own_f1_136 (u0 : Int32) : (f1_136 u0 = 1 ∧ own_b136 u0.toInt) ∨ (f1_136 u0 = 0 ∧ ¬ own_b136 u0.toInt) := by
  have k1 : (12289 : Int32).toInt = 12289 := rfl
  have k2 : (55295 : Int32).toInt = 55295 := rfl
  unfold f1_136 own_b136
  simp only [Int32.lt_iff_toInt_lt, k1, k2]
  have ih := own_f1_150 u0
  by_cases q1 : u0.toInt < 12289
  · rw [if_pos q1]
    rcases ih with ⟨a, b⟩ | ⟨a, b⟩
    · exact Or.inl ⟨a, Or.inr b⟩
    · exact Or.inr ⟨a, fun r => r.elim (fun r => by omega) b⟩
  · rw [if_neg q1]
    by_cases q2 : 55295 < u0.toInt
    · rw [if_pos q2]
      rcases ih with ⟨a, b⟩ | ⟨a, b⟩
      · exact Or.inl ⟨a, Or.inr b⟩
      · exact Or.inr ⟨a, fun r => r.elim (fun r => by omega) b⟩
    · rw [if_neg q2]
      exact Or.inl ⟨rfl, Or.inl ⟨by omega, by omega⟩⟩
def own_b122 (n : Int) : Prop := (11264 ≤ n ∧ n ≤ 12271) ∨ own_b136 n
theorem own_f1_122 (u0 : Int32) : (f1_122 u0 = 1 ∧ own_b122 u0.toInt) ∨ (f1_122 u0 = 0 ∧ ¬ own_b122 u0.toInt) := by
  have k1 : (11264 : Int32).toInt = 11264 := rfl
  have k2 : (12271 : Int32).toInt = 12271 := rfl
  unfold f1_122 own_b122
  simp only [Int32.lt_iff_toInt_lt, k1, k2]
  have ih := own_f1_136 u0
  by_cases q1 : u0.toInt < 11264
  · rw [if_pos q1]
    rcases ih with ⟨a, b⟩ | ⟨a, b⟩
    · exact Or.inl ⟨a, Or.inr b⟩
    · exact Or.inr ⟨a, fun r => r.elim (fun r => by omega) b⟩
  · rw [if_neg q1]
    by_cases q2 : 12271 < u0.toInt
    · rw [if_pos q2]
      rcases ih with ⟨a, b⟩ | ⟨a, b⟩
      · exact Or.inl ⟨a, Or.inr b⟩
      · exact Or.inr ⟨a, fun r => r.elim (fun r => by omega) b⟩
    · rw [if_neg q2]
      exact Or.inl ⟨rfl, Or.inl ⟨by omega, by omega⟩⟩
def own_b108 (n : Int) : Prop := (8304 ≤ n ∧ n ≤ 8591) ∨ own_b122 n
theorem own_f1_108 (u0 : Int32) : (f1_108 u0 = 1 ∧ own_b108 u0.toInt) ∨ (f1_108 u0 = 0 ∧ ¬ own_b108 u0.toInt) := by
  have k1 : (8304 : Int32).toInt = 8304 := rfl
  have k2 : (8591 : Int32).toInt = 8591 := rfl
  unfold f1_108 own_b108
  simp only [Int32.lt_iff_toInt_lt, k1, k2]
  have ih := own_f1_122 u0
  by_cases q1 : u0.toInt < 8304
  · rw [if_pos q1]
    rcases ih with ⟨a, b⟩ | ⟨a, b⟩
    · exact Or.inl ⟨a, Or.inr b⟩
    · exact Or.inr ⟨a, fun r => r.elim (fun r => by omega) b⟩
  · rw [if_neg q1]
    by_cases q2 : 8591 < u0.toInt
    · rw [if_pos q2]
      rcases ih with ⟨a, b⟩ | ⟨a, b⟩
      · exact Or.inl ⟨a, Or.inr b⟩
      · exact Or.inr ⟨a, fun r => r.elim (fun r => by omega) b⟩
    · rw [if_neg q2]
      exact Or.inl ⟨rfl, Or.inl ⟨by omega, by omega⟩⟩
def own_b94 (n : Int) : Prop := (8204 ≤ n ∧ n ≤ 8205) ∨ own_b108 n
theorem own_f1_94 (u0 : Int32) : (f1_94 u0 = 1 ∧ own_b94 u0.toInt) ∨ (f1_94 u0 = 0 ∧ ¬ own_b94 u0.toInt) := by
  have k1 : (8204 : Int32).toInt = 8204 := rfl
  have k2 : (8205 : Int32).toInt = 8205 := rfl
  unfold f1_94 own_b94
  simp only [Int32.lt_iff_toInt_lt, k1, k2]
  have ih := own_f1_108 u0
  by_cases q1 : u0.toInt < 8204
  · rw [if_pos q1]
    rcases ih with ⟨a, b⟩ | ⟨a, b⟩
    · exact Or.inl ⟨a, Or.inr b⟩
    · exact Or.inr ⟨a, fun r => r.elim (fun r => by omega) b⟩
  · rw [if_neg q1]
    by_cases q2 : 8205 < u0.toInt
    · rw [if_pos q2]
      rcases ih with ⟨a, b⟩ | ⟨a, b⟩
      · exact Or.inl ⟨a, Or.inr b⟩
      · exact Or.inr ⟨a, fun r => r.elim (fun r => by omega) b⟩
    · rw [if_neg q2]
      exact Or.inl ⟨rfl, Or.inl ⟨by omega, by omega⟩⟩
def own_b80 (n : Int) : Prop := (895 ≤ n ∧ n ≤ 8191) ∨ own_b94 n
theorem own_f1_80 (u0 : Int32) : (f1_80 u0 = 1 ∧ own_b80 u0.toInt) ∨ (f1_80 u0 = 0 ∧ ¬ own_b80 u0.toInt) := by
  have k1 : (895 : Int32).toInt = 895 := rfl
  have k2 : (8191 : Int32).toInt = 8191 := rfl
  unfold f1_80 own_b80
  simp only [Int32.lt_iff_toInt_lt, k1, k2]
  have ih := own_f1_94 u0
  by_cases q1 : u0.toInt < 895
  · rw [if_pos q1]
    rcases ih with ⟨a, b⟩ | ⟨a, b⟩
    · exact Or.inl ⟨a, Or.inr b⟩
    · exact Or.inr ⟨a, fun r => r.elim (fun r => by omega) b⟩
  · rw [if_neg q1]
    by_cases q2 : 8191 < u0.toInt
    · rw [if_pos q2]
      rcases ih with ⟨a, b⟩ | ⟨a, b⟩
      · exact Or.inl ⟨a, Or.inr b⟩
      · exact Or.inr ⟨a, fun r => r.elim (fun r => by omega) b⟩
    · rw [if_neg q2]
      exact Or.inl ⟨rfl, Or.inl ⟨by omega, by omega⟩⟩
def own_b66 (n : Int) : Prop := (880 ≤ n ∧ n ≤ 893) ∨ own_b80 n
theorem own_f1_66 (u0 : Int32) : (f1_66 u0 = 1 ∧ own_b66 u0.toInt) ∨ (f1_66 u0 = 0 ∧ ¬ own_b66 u0.toInt) := by
  have k1 : (880 : Int32).toInt = 880 := rfl
  have k2 : (893 : Int32).toInt = 893 := rfl
  unfold f1_66 own_b66
  simp only [Int32.lt_iff_toInt_lt, k1, k2]
  have ih := own_f1_80 u0
  by_cases q1 : u0.toInt < 880
  · rw [if_pos q1]
    rcases ih with ⟨a, b⟩ | ⟨a, b⟩
    · exact Or.inl ⟨a, Or.inr b⟩
    · exact Or.inr ⟨a, fun r => r.elim (fun r => by omega) b⟩
  · rw [if_neg q1]
    by_cases q2 : 893 < u0.toInt
    · rw [if_pos q2]
      rcases ih with ⟨a, b⟩ | ⟨a, b⟩
      · exact Or.inl ⟨a, Or.inr b⟩
      · exact Or.inr ⟨a, fun r => r.elim (fun r => by omega) b⟩
    · rw [if_neg q2]
      exact Or.inl ⟨rfl, Or.inl ⟨by omega, by omega⟩⟩
def own_b52 (n : Int) : Prop := (248 ≤ n ∧ n ≤ 767) ∨ own_b66 n
theorem own_f1_52 (u0 : Int32) : (f1_52 u0 = 1 ∧ own_b52 u0.toInt) ∨ (f1_52 u0 = 0 ∧ ¬ own_b52 u0.toInt) := by
  have k1 : (248 : Int32).toInt = 248 := rfl
  have k2 : (767 : Int32).toInt = 767 := rfl
  unfold f1_52 own_b52
  simp only [Int32.lt_iff_toInt_lt, k1, k2]
  have ih := own_f1_66 u0
  by_cases q1 : u0.toInt < 248
  · rw [if_pos q1]
    rcases ih with ⟨a, b⟩ | ⟨a, b⟩
    · exact Or.inl ⟨a, Or.inr b⟩
    · exact Or.inr ⟨a, fun r => r.elim (fun r => by omega) b⟩
  · rw [if_neg q1]
    by_cases q2 : 767 < u0.toInt
    · rw [if_pos q2]
      rcases ih with ⟨a, b⟩ | ⟨a, b⟩
      · exact Or.inl ⟨a, Or.inr b⟩
      · exact Or.inr ⟨a, fun r => r.elim (fun r => by omega) b⟩
    · rw [if_neg q2]
      exact Or.inl ⟨rfl, Or.inl ⟨by omega, by omega⟩⟩
def own_b38 (n : Int) : Prop := (216 ≤ n ∧ n ≤ 246) ∨ own_b52 n
theorem own_f1_38 (u0 : Int32) : (f1_38 u0 = 1 ∧ own_b38 u0.toInt) ∨ (f1_38 u0 = 0 ∧ ¬ own_b38 u0.toInt) := by
  have k1 : (216 : Int32).toInt = 216 := rfl
  have k2 : (246 : Int32).toInt = 246 := rfl
  unfold f1_38 own_b38
  simp only [Int32.lt_iff_toInt_lt, k1, k2]
  have ih := own_f1_52 u0
  by_cases q1 : u0.toInt < 216
  · rw [if_pos q1]
    rcases ih with ⟨a, b⟩ | ⟨a, b⟩
    · exact Or.inl ⟨a, Or.inr b⟩
    · exact Or.inr ⟨a, fun r => r.elim (fun r => by omega) b⟩
  · rw [if_neg q1]
    by_cases q2 : 246 < u0.toInt
    · rw [if_pos q2]
      rcases ih with ⟨a, b⟩ | ⟨a, b⟩
      · exact Or.inl ⟨a, Or.inr b⟩
      · exact Or.inr ⟨a, fun r => r.elim (fun r => by omega) b⟩
    · rw [if_neg q2]
      exact Or.inl ⟨rfl, Or.inl ⟨by omega, by omega⟩⟩
def own_b24 (n : Int) : Prop := (192 ≤ n ∧ n ≤ 214) ∨ own_b38 n
theorem own_f1_24 (u0 : Int32) : (f1_24 u0 = 1 ∧ own_b24 u0.toInt) ∨ (f1_24 u0 = 0 ∧ ¬ own_b24 u0.toInt) := by
  have k1 : (192 : Int32).toInt = 192 := rfl
  have k2 : (214 : Int32).toInt = 214 := rfl
  unfold f1_24 own_b24
  simp only [Int32.lt_iff_toInt_lt, k1, k2]
  have ih := own_f1_38 u0
  by_cases q1 : u0.toInt < 192
  · rw [if_pos q1]
    rcases ih with ⟨a, b⟩ | ⟨a, b⟩
    · exact Or.inl ⟨a, Or.inr b⟩
    · exact Or.inr ⟨a, fun r => r.elim (fun r => by omega) b⟩
  · rw [if_neg q1]
    by_cases q2 : 214 < u0.toInt
    · rw [if_pos q2]
      rcases ih with ⟨a, b⟩ | ⟨a, b⟩
      · exact Or.inl ⟨a, Or.inr b⟩
      · exact Or.inr ⟨a, fun r => r.elim (fun r => by omega) b⟩
    · rw [if_neg q2]
      exact Or.inl ⟨rfl, Or.inl ⟨by omega, by omega⟩⟩
def own_b12 (n : Int) : Prop := (97 ≤ n ∧ n ≤ 122) ∨ own_b24 n
theorem own_f1_12 (u0 : Int32) : (f1_12 u0 = 1 ∧ own_b12 u0.toInt) ∨ (f1_12 u0 = 0 ∧ ¬ own_b12 u0.toInt) := by
  have k1 : (97 : Int32).toInt = 97 := rfl
  have k2 : (122 : Int32).toInt = 122 := rfl
  unfold f1_12 own_b12
  simp only [Int32.lt_iff_toInt_lt, k1, k2]
  have ih := own_f1_24 u0
  by_cases q1 : u0.toInt < 97
  · rw [if_pos q1]
    rcases ih with ⟨a, b⟩ | ⟨a, b⟩
    · exact Or.inl ⟨a, Or.inr b⟩
    · exact Or.inr ⟨a, fun r => r.elim (fun r => by omega) b⟩
  · rw [if_neg q1]
    by_cases q2 : 122 < u0.toInt
    · rw [if_pos q2]
      rcases ih with ⟨a, b⟩ | ⟨a, b⟩
      · exact Or.inl ⟨a, Or.inr b⟩
      · exact Or.inr ⟨a, fun r => r.elim (fun r => by omega) b⟩
    · rw [if_neg q2]
      exact Or.inl ⟨rfl, Or.inl ⟨by omega, by omega⟩⟩
def own_b0 (n : Int) : Prop := (65 ≤ n ∧ n ≤ 90) ∨ own_b12 n
theorem own_f1_0 (u0 : Int32) : (f1_0 u0 = 1 ∧ own_b0 u0.toInt) ∨ (f1_0 u0 = 0 ∧ ¬ own_b0 u0.toInt) := by
  have k1 : (65 : Int32).toInt = 65 := rfl
  have k2 : (90 : Int32).toInt = 90 := rfl
  unfold f1_0 own_b0
  simp only [Int32.lt_iff_toInt_lt, k1, k2]
  have ih := own_f1_12 u0
  by_cases q1 : u0.toInt < 65
  · rw [if_pos q1]
    rcases ih with ⟨a, b⟩ | ⟨a, b⟩
    · exact Or.inl ⟨a, Or.inr b⟩
    · exact Or.inr ⟨a, fun r => r.elim (fun r => by omega) b⟩
  · rw [if_neg q1]
    by_cases q2 : 90 < u0.toInt
    · rw [if_pos q2]
      rcases ih with ⟨a, b⟩ | ⟨a, b⟩
      · exact Or.inl ⟨a, Or.inr b⟩
      · exact Or.inr ⟨a, fun r => r.elim (fun r => by omega) b⟩
    · rw [if_neg q2]
      exact Or.inl ⟨rfl, Or.inl ⟨by omega, by omega⟩⟩
def own_e184 (n : Int) : Prop := (983039 < n) ∨ False
theorem own_f2_184 (u0 : Int32) : (f2_184 u0 = 1 ∧ own_e184 u0.toInt) ∨ (f2_184 u0 = 0 ∧ ¬ own_e184 u0.toInt) := by
  have k983039 : (983039 : Int32).toInt = 983039 := rfl
  have e1 : ∀ k : Int32, u0 = k ↔ u0.toInt = k.toInt := fun k => Int32.toInt_inj.symm
  unfold f2_184 own_e184
  simp only [Int32.lt_iff_toInt_lt, e1, k983039]
  repeat' split
  all_goals first
    | exact Or.inl ⟨rfl, Or.inl (by omega)⟩
    | exact Or.inr ⟨rfl, fun r => r.elim (fun r => by omega) id⟩
def own_e170 (n : Int) : Prop := ((65534 ≤ n ∧ n ≤ 65535)) ∨ own_e184 n
theorem own_f2_170 (u0 : Int32) : (f2_170 u0 = 1 ∧ own_e170 u0.toInt) ∨ (f2_170 u0 = 0 ∧ ¬ own_e170 u0.toInt) := by
  have k65534 : (65534 : Int32).toInt = 65534 := rfl
  have k65535 : (65535 : Int32).toInt = 65535 := rfl
  have e1 : ∀ k : Int32, u0 = k ↔ u0.toInt = k.toInt := fun k => Int32.toInt_inj.symm
  unfold f2_170 own_e170
  simp only [Int32.lt_iff_toInt_lt, e1, k65534, k65535]
  have ih := own_f2_184 u0
  repeat' split
  all_goals first
    | exact Or.inl ⟨rfl, Or.inl (by omega)⟩
    | (rcases ih with ⟨a, b⟩ | ⟨a, b⟩
       · exact Or.inl ⟨a, Or.inr b⟩
       · exact Or.inr ⟨a, fun r => r.elim (fun r => by omega) b⟩)
def own_e156 (n : Int) : Prop := ((64976 ≤ n ∧ n ≤ 65007)) ∨ own_e170 n
theorem own_f2_156 (u0 : Int32) : (f2_156 u0 = 1 ∧ own_e156 u0.toInt) ∨ (f2_156 u0 = 0 ∧ ¬ own_e156 u0.toInt) := by
  have k64976 : (64976 : Int32).toInt = 64976 := rfl
  have k65007 : (65007 : Int32).toInt = 65007 := rfl
  have e1 : ∀ k : Int32, u0 = k ↔ u0.toInt = k.toInt := fun k => Int32.toInt_inj.symm
  unfold f2_156 own_e156
  simp only [Int32.lt_iff_toInt_lt, e1, k64976, k65007]
  have ih := own_f2_170 u0
  repeat' split
  all_goals first
    | exact Or.inl ⟨rfl, Or.inl (by omega)⟩
    | (rcases ih with ⟨a, b⟩ | ⟨a, b⟩
       · exact Or.inl ⟨a, Or.inr b⟩
       · exact Or.inr ⟨a, fun r => r.elim (fun r => by omega) b⟩)
def own_e142 (n : Int) : Prop := ((55296 ≤ n ∧ n ≤ 63743)) ∨ own_e156 n
theorem own_f2_142 (u0 : Int32) : (f2_142 u0 = 1 ∧ own_e142 u0.toInt) ∨ (f2_142 u0 = 0 ∧ ¬ own_e142 u0.toInt) := by
  have k55296 : (55296 : Int32).toInt = 55296 := rfl
  have k63743 : (63743 : Int32).toInt = 63743 := rfl
  have e1 : ∀ k : Int32, u0 = k ↔ u0.toInt = k.toInt := fun k => Int32.toInt_inj.symm
  unfold f2_142 own_e142
  simp only [Int32.lt_iff_toInt_lt, e1, k55296, k63743]
  have ih := own_f2_156 u0
  repeat' split
  all_goals first
    | exact Or.inl ⟨rfl, Or.inl (by omega)⟩
    | (rcases ih with ⟨a, b⟩ | ⟨a, b⟩
       · exact Or.inl ⟨a, Or.inr b⟩
       · exact Or.inr ⟨a, fun r => r.elim (fun r => by omega) b⟩)
def own_e126 (n : Int) : Prop := ((12272 ≤ n ∧ n ≤ 12288)) ∨ own_e142 n
theorem own_f2_126 (u0 : Int32) : (f2_126 u0 = 1 ∧ own_e126 u0.toInt) ∨ (f2_126 u0 = 0 ∧ ¬ own_e126 u0.toInt) := by
  have k12272 : (12272 : Int32).toInt = 12272 := rfl
  have k12288 : (12288 : Int32).toInt = 12288 := rfl
  have e1 : ∀ k : Int32, u0 = k ↔ u0.toInt = k.toInt := fun k => Int32.toInt_inj.symm
  unfold f2_126 own_e126
  simp only [Int32.lt_iff_toInt_lt, e1, k12272, k12288]
  have ih := own_f2_142 u0
  repeat' split
  all_goals first
    | exact Or.inl ⟨rfl, Or.inl (by omega)⟩
    | (rcases ih with ⟨a, b⟩ | ⟨a, b⟩
       · exact Or.inl ⟨a, Or.inr b⟩
       · exact Or.inr ⟨a, fun r => r.elim (fun r => by omega) b⟩)
def own_e110 (n : Int) : Prop := ((8592 ≤ n ∧ n ≤ 11263)) ∨ own_e126 n
theorem own_f2_110 (u0 : Int32) : (f2_110 u0 = 1 ∧ own_e110 u0.toInt) ∨ (f2_110 u0 = 0 ∧ ¬ own_e110 u0.toInt) := by
  have k8592 : (8592 : Int32).toInt = 8592 := rfl
  have k11263 : (11263 : Int32).toInt = 11263 := rfl
  have e1 : ∀ k : Int32, u0 = k ↔ u0.toInt = k.toInt := fun k => Int32.toInt_inj.symm
  unfold f2_110 own_e110
  simp only [Int32.lt_iff_toInt_lt, e1, k8592, k11263]
  have ih := own_f2_126 u0
  repeat' split
  all_goals first
    | exact Or.inl ⟨rfl, Or.inl (by omega)⟩
    | (rcases ih with ⟨a, b⟩ | ⟨a, b⟩
       · exact Or.inl ⟨a, Or.inr b⟩
       · exact Or.inr ⟨a, fun r => r.elim (fun r => by omega) b⟩)
def own_e94 (n : Int) : Prop := ((8206 ≤ n ∧ n ≤ 8303)) ∨ own_e110 n
theorem own_f2_94 (u0 : Int32) : (f2_94 u0 = 1 ∧ own_e94 u0.toInt) ∨ (f2_94 u0 = 0 ∧ ¬ own_e94 u0.toInt) := by
  have k8206 : (8206 : Int32).toInt = 8206 := rfl
  have k8303 : (8303 : Int32).toInt = 8303 := rfl
  have e1 : ∀ k : Int32, u0 = k ↔ u0.toInt = k.toInt := fun k => Int32.toInt_inj.symm
  unfold f2_94 own_e94
  simp only [Int32.lt_iff_toInt_lt, e1, k8206, k8303]
  have ih := own_f2_110 u0
  repeat' split
  all_goals first
    | exact Or.inl ⟨rfl, Or.inl (by omega)⟩
    | (rcases ih with ⟨a, b⟩ | ⟨a, b⟩
       · exact Or.inl ⟨a, Or.inr b⟩
       · exact Or.inr ⟨a, fun r => r.elim (fun r => by omega) b⟩)
def own_e78 (n : Int) : Prop := ((8192 ≤ n ∧ n ≤ 8203)) ∨ own_e94 n
theorem own_f2_78 (u0 : Int32) : (f2_78 u0 = 1 ∧ own_e78 u0.toInt) ∨ (f2_78 u0 = 0 ∧ ¬ own_e78 u0.toInt) := by
  have k8192 : (8192 : Int32).toInt = 8192 := rfl
  have k8203 : (8203 : Int32).toInt = 8203 := rfl
  have e1 : ∀ k : Int32, u0 = k ↔ u0.toInt = k.toInt := fun k => Int32.toInt_inj.symm
  unfold f2_78 own_e78
  simp only [Int32.lt_iff_toInt_lt, e1, k8192, k8203]
  have ih := own_f2_94 u0
  repeat' split
  all_goals first
    | exact Or.inl ⟨rfl, Or.inl (by omega)⟩
    | (rcases ih with ⟨a, b⟩ | ⟨a, b⟩
       · exact Or.inl ⟨a, Or.inr b⟩
       · exact Or.inr ⟨a, fun r => r.elim (fun r => by omega) b⟩)
def own_e69 (n : Int) : Prop := (n = 894) ∨ own_e78 n
theorem own_f2_69 (u0 : Int32) : (f2_69 u0 = 1 ∧ own_e69 u0.toInt) ∨ (f2_69 u0 = 0 ∧ ¬ own_e69 u0.toInt) := by
  have k894 : (894 : Int32).toInt = 894 := rfl
  have e1 : ∀ k : Int32, u0 = k ↔ u0.toInt = k.toInt := fun k => Int32.toInt_inj.symm
  unfold f2_69 own_e69
  simp only [Int32.lt_iff_toInt_lt, e1, k894]
  have ih := own_f2_78 u0
  repeat' split
  all_goals first
    | exact Or.inl ⟨rfl, Or.inl (by omega)⟩
    | (rcases ih with ⟨a, b⟩ | ⟨a, b⟩
       · exact Or.inl ⟨a, Or.inr b⟩
       · exact Or.inr ⟨a, fun r => r.elim (fun r => by omega) b⟩)
def own_e53 (n : Int) : Prop := ((768 ≤ n ∧ n ≤ 879)) ∨ own_e69 n
theorem own_f2_53 (u0 : Int32) : (f2_53 u0 = 1 ∧ own_e53 u0.toInt) ∨ (f2_53 u0 = 0 ∧ ¬ own_e53 u0.toInt) := by
  have k768 : (768 : Int32).toInt = 768 := rfl
  have k879 : (879 : Int32).toInt = 879 := rfl
  have e1 : ∀ k : Int32, u0 = k ↔ u0.toInt = k.toInt := fun k => Int32.toInt_inj.symm
  unfold f2_53 own_e53
  simp only [Int32.lt_iff_toInt_lt, e1, k768, k879]
  have ih := own_f2_69 u0
  repeat' split
  all_goals first
    | exact Or.inl ⟨rfl, Or.inl (by omega)⟩
    | (rcases ih with ⟨a, b⟩ | ⟨a, b⟩
       · exact Or.inl ⟨a, Or.inr b⟩
       · exact Or.inr ⟨a, fun r => r.elim (fun r => by omega) b⟩)
def own_e37 (n : Int) : Prop := ((n = 215 ∨ n = 247)) ∨ own_e53 n
theorem own_f2_37 (u0 : Int32) : (f2_37 u0 = 1 ∧ own_e37 u0.toInt) ∨ (f2_37 u0 = 0 ∧ ¬ own_e37 u0.toInt) := by
  have k215 : (215 : Int32).toInt = 215 := rfl
  have k247 : (247 : Int32).toInt = 247 := rfl
  have e1 : ∀ k : Int32, u0 = k ↔ u0.toInt = k.toInt := fun k => Int32.toInt_inj.symm
  unfold f2_37 own_e37
  simp only [Int32.lt_iff_toInt_lt, e1, k215, k247]
  have ih := own_f2_53 u0
  repeat' split
  all_goals first
    | exact Or.inl ⟨rfl, Or.inl (by omega)⟩
    | (rcases ih with ⟨a, b⟩ | ⟨a, b⟩
       · exact Or.inl ⟨a, Or.inr b⟩
       · exact Or.inr ⟨a, fun r => r.elim (fun r => by omega) b⟩)
def own_e22 (n : Int) : Prop := ((122 < n ∧ n < 192)) ∨ own_e37 n
theorem own_f2_22 (u0 : Int32) : (f2_22 u0 = 1 ∧ own_e22 u0.toInt) ∨ (f2_22 u0 = 0 ∧ ¬ own_e22 u0.toInt) := by
  have k122 : (122 : Int32).toInt = 122 := rfl
  have k192 : (192 : Int32).toInt = 192 := rfl
  have e1 : ∀ k : Int32, u0 = k ↔ u0.toInt = k.toInt := fun k => Int32.toInt_inj.symm
  unfold f2_22 own_e22
  simp only [Int32.lt_iff_toInt_lt, e1, k122, k192]
  have ih := own_f2_37 u0
  repeat' split
  all_goals first
    | exact Or.inl ⟨rfl, Or.inl (by omega)⟩
    | (rcases ih with ⟨a, b⟩ | ⟨a, b⟩
       · exact Or.inl ⟨a, Or.inr b⟩
       · exact Or.inr ⟨a, fun r => r.elim (fun r => by omega) b⟩)
def own_e0 (n : Int) : Prop := (n < 65 ∨ (90 < n ∧ n < 97)) ∨ own_e22 n
theorem own_f2_0 (u0 : Int32) : (f2_0 u0 = 1 ∧ own_e0 u0.toInt) ∨ (f2_0 u0 = 0 ∧ ¬ own_e0 u0.toInt) := by
  have k65 : (65 : Int32).toInt = 65 := rfl
  have k90 : (90 : Int32).toInt = 90 := rfl
  have k97 : (97 : Int32).toInt = 97 := rfl
  have e1 : ∀ k : Int32, u0 = k ↔ u0.toInt = k.toInt := fun k => Int32.toInt_inj.symm
  unfold f2_0 own_e0
  simp only [Int32.lt_iff_toInt_lt, e1, k65, k90, k97]
  have ih := own_f2_22 u0
  repeat' split
  all_goals first
    | exact Or.inl ⟨rfl, Or.inl (by omega)⟩
    | (rcases ih with ⟨a, b⟩ | ⟨a, b⟩
       · exact Or.inl ⟨a, Or.inr b⟩
       · exact Or.inr ⟨a, fun r => r.elim (fun r => by omega) b⟩)
theorem own_nb (n : Int) (h : own_b0 n) : (65 ≤ n ∧ n ≤ 90) ∨ (97 ≤ n ∧ n ≤ 122) ∨ (192 ≤ n ∧ n ≤ 214) ∨ (216 ≤ n ∧ n ≤ 246) ∨ (248 ≤ n ∧ n ≤ 767) ∨ (880 ≤ n ∧ n ≤ 893) ∨ (895 ≤ n ∧ n ≤ 8191) ∨ (8204 ≤ n ∧ n ≤ 8205) ∨ (8304 ≤ n ∧ n ≤ 8591) ∨ (11264 ≤ n ∧ n ≤ 12271) ∨ (12289 ≤ n ∧ n ≤ 55295) ∨ (63744 ≤ n ∧ n ≤ 64975) ∨ (65008 ≤ n ∧ n ≤ 65533) ∨ (65536 ≤ n ∧ n ≤ 983039) ∨ False := h
theorem own_ne (n : Int) (h : own_e0 n) : (n < 65 ∨ (90 < n ∧ n < 97)) ∨ ((122 < n ∧ n < 192)) ∨ ((n = 215 ∨ n = 247)) ∨ ((768 ≤ n ∧ n ≤ 879)) ∨ (n = 894) ∨ ((8192 ≤ n ∧ n ≤ 8203)) ∨ ((8206 ≤ n ∧ n ≤ 8303)) ∨ ((8592 ≤ n ∧ n ≤ 11263)) ∨ ((12272 ≤ n ∧ n ≤ 12288)) ∨ ((55296 ≤ n ∧ n ≤ 63743)) ∨ ((64976 ≤ n ∧ n ≤ 65007)) ∨ ((65534 ≤ n ∧ n ≤ 65535)) ∨ (983039 < n) ∨ False := h
theorem own_compl (n : Int) : own_b0 n ↔ ¬ own_e0 n := by
  suffices h : (own_b0 n ∧ ¬ own_e0 n) ∨ (¬ own_b0 n ∧ own_e0 n) from by
    rcases h with h | h
    · exact ⟨fun _ => h.2, fun _ => h.1⟩
    · exact ⟨fun q => absurd q h.1, fun q => absurd h.2 q⟩
  by_cases q0 : n < 65
  · exact Or.inr ⟨fun r => by have r' := own_nb n r; simp only [or_false] at r'; omega, Or.inl (Or.inl (by omega))⟩
  by_cases q1 : n < 91
  · exact Or.inl ⟨Or.inl (⟨by omega, by omega⟩), fun r => by have r' := own_ne n r; simp only [or_false] at r'; omega⟩
  by_cases q2 : n < 97
  · exact Or.inr ⟨fun r => by have r' := own_nb n r; simp only [or_false] at r'; omega, Or.inl (Or.inr ⟨by omega, by omega⟩)⟩
  by_cases q3 : n < 123
  · exact Or.inl ⟨Or.inr (Or.inl (⟨by omega, by omega⟩)), fun r => by have r' := own_ne n r; simp only [or_false] at r'; omega⟩
  by_cases q4 : n < 192
  · exact Or.inr ⟨fun r => by have r' := own_nb n r; simp only [or_false] at r'; omega, Or.inr (Or.inl (⟨by omega, by omega⟩))⟩
  by_cases q5 : n < 215
  · exact Or.inl ⟨Or.inr (Or.inr (Or.inl (⟨by omega, by omega⟩))), fun r => by have r' := own_ne n r; simp only [or_false] at r'; omega⟩
  by_cases q6 : n < 216
  · exact Or.inr ⟨fun r => by have r' := own_nb n r; simp only [or_false] at r'; omega, Or.inr (Or.inr (Or.inl (Or.inl (by omega))))⟩
  by_cases q7 : n < 247
  · exact Or.inl ⟨Or.inr (Or.inr (Or.inr (Or.inl (⟨by omega, by omega⟩)))), fun r => by have r' := own_ne n r; simp only [or_false] at r'; omega⟩
  by_cases q8 : n < 248
  · exact Or.inr ⟨fun r => by have r' := own_nb n r; simp only [or_false] at r'; omega, Or.inr (Or.inr (Or.inl (Or.inr (by omega))))⟩
  by_cases q9 : n < 768
  · exact Or.inl ⟨Or.inr (Or.inr (Or.inr (Or.inr (Or.inl (⟨by omega, by omega⟩))))), fun r => by have r' := own_ne n r; simp only [or_false] at r'; omega⟩
  by_cases q10 : n < 880
  · exact Or.inr ⟨fun r => by have r' := own_nb n r; simp only [or_false] at r'; omega, Or.inr (Or.inr (Or.inr (Or.inl (⟨by omega, by omega⟩))))⟩
  by_cases q11 : n < 894
  · exact Or.inl ⟨Or.inr (Or.inr (Or.inr (Or.inr (Or.inr (Or.inl (⟨by omega, by omega⟩)))))), fun r => by have r' := own_ne n r; simp only [or_false] at r'; omega⟩
  by_cases q12 : n < 895
  · exact Or.inr ⟨fun r => by have r' := own_nb n r; simp only [or_false] at r'; omega, Or.inr (Or.inr (Or.inr (Or.inr (Or.inl ((by omega))))))⟩
  by_cases q13 : n < 8192
  · exact Or.inl ⟨Or.inr (Or.inr (Or.inr (Or.inr (Or.inr (Or.inr (Or.inl (⟨by omega, by omega⟩))))))), fun r => by have r' := own_ne n r; simp only [or_false] at r'; omega⟩
  by_cases q14 : n < 8204
  · exact Or.inr ⟨fun r => by have r' := own_nb n r; simp only [or_false] at r'; omega, Or.inr (Or.inr (Or.inr (Or.inr (Or.inr (Or.inl (⟨by omega, by omega⟩))))))⟩
  by_cases q15 : n < 8206
  · exact Or.inl ⟨Or.inr (Or.inr (Or.inr (Or.inr (Or.inr (Or.inr (Or.inr (Or.inl (⟨by omega, by omega⟩)))))))), fun r => by have r' := own_ne n r; simp only [or_false] at r'; omega⟩
  by_cases q16 : n < 8304
  · exact Or.inr ⟨fun r => by have r' := own_nb n r; simp only [or_false] at r'; omega, Or.inr (Or.inr (Or.inr (Or.inr (Or.inr (Or.inr (Or.inl (⟨by omega, by omega⟩)))))))⟩
  by_cases q17 : n < 8592
  · exact Or.inl ⟨Or.inr (Or.inr (Or.inr (Or.inr (Or.inr (Or.inr (Or.inr (Or.inr (Or.inl (⟨by omega, by omega⟩))))))))), fun r => by have r' := own_ne n r; simp only [or_false] at r'; omega⟩
  by_cases q18 : n < 11264
  · exact Or.inr ⟨fun r => by have r' := own_nb n r; simp only [or_false] at r'; omega, Or.inr (Or.inr (Or.inr (Or.inr (Or.inr (Or.inr (Or.inr (Or.inl (⟨by omega, by omega⟩))))))))⟩
  by_cases q19 : n < 12272
  · exact Or.inl ⟨Or.inr (Or.inr (Or.inr (Or.inr (Or.inr (Or.inr (Or.inr (Or.inr (Or.inr (Or.inl (⟨by omega, by omega⟩)))))))))), fun r => by have r' := own_ne n r; simp only [or_false] at r'; omega⟩
  by_cases q20 : n < 12289
  · exact Or.inr ⟨fun r => by have r' := own_nb n r; simp only [or_false] at r'; omega, Or.inr (Or.inr (Or.inr (Or.inr (Or.inr (Or.inr (Or.inr (Or.inr (Or.inl (⟨by omega, by omega⟩)))))))))⟩
  by_cases q21 : n < 55296
  · exact Or.inl ⟨Or.inr (Or.inr (Or.inr (Or.inr (Or.inr (Or.inr (Or.inr (Or.inr (Or.inr (Or.inr (Or.inl (⟨by omega, by omega⟩))))))))))), fun r => by have r' := own_ne n r; simp only [or_false] at r'; omega⟩
  by_cases q22 : n < 63744
  · exact Or.inr ⟨fun r => by have r' := own_nb n r; simp only [or_false] at r'; omega, Or.inr (Or.inr (Or.inr (Or.inr (Or.inr (Or.inr (Or.inr (Or.inr (Or.inr (Or.inl (⟨by omega, by omega⟩))))))))))⟩
  by_cases q23 : n < 64976
  · exact Or.inl ⟨Or.inr (Or.inr (Or.inr (Or.inr (Or.inr (Or.inr (Or.inr (Or.inr (Or.inr (Or.inr (Or.inr (Or.inl (⟨by omega, by omega⟩)))))))))))), fun r => by have r' := own_ne n r; simp only [or_false] at r'; omega⟩
  by_cases q24 : n < 65008
  · exact Or.inr ⟨fun r => by have r' := own_nb n r; simp only [or_false] at r'; omega, Or.inr (Or.inr (Or.inr (Or.inr (Or.inr (Or.inr (Or.inr (Or.inr (Or.inr (Or.inr (Or.inl (⟨by omega, by omega⟩)))))))))))⟩
  by_cases q25 : n < 65534
  · exact Or.inl ⟨Or.inr (Or.inr (Or.inr (Or.inr (Or.inr (Or.inr (Or.inr (Or.inr (Or.inr (Or.inr (Or.inr (Or.inr (Or.inl (⟨by omega, by omega⟩))))))))))))), fun r => by have r' := own_ne n r; simp only [or_false] at r'; omega⟩
  by_cases q26 : n < 65536
  · exact Or.inr ⟨fun r => by have r' := own_nb n r; simp only [or_false] at r'; omega, Or.inr (Or.inr (Or.inr (Or.inr (Or.inr (Or.inr (Or.inr (Or.inr (Or.inr (Or.inr (Or.inr (Or.inl (⟨by omega, by omega⟩))))))))))))⟩
  by_cases q27 : n < 983040
  · exact Or.inl ⟨Or.inr (Or.inr (Or.inr (Or.inr (Or.inr (Or.inr (Or.inr (Or.inr (Or.inr (Or.inr (Or.inr (Or.inr (Or.inr (Or.inl (⟨by omega, by omega⟩)))))))))))))), fun r => by have r' := own_ne n r; simp only [or_false] at r'; omega⟩
  exact Or.inr ⟨fun r => by have r' := own_nb n r; simp only [or_false] at r'; omega, Or.inr (Or.inr (Or.inr (Or.inr (Or.inr (Or.inr (Or.inr (Or.inr (Or.inr (Or.inr (Or.inr (Or.inr (Or.inl ((by omega))))))))))))))⟩
def own_not (z : Int32) : Int32 := if z = (0 : Int32) then (1 : Int32) else (0 : Int32)
theorem own_eq (u0 : Int32) : f1_0 u0 = own_not (f2_0 u0) := by
  unfold own_not
  rcases own_f1_0 u0 with ⟨a, b⟩ | ⟨a, b⟩ <;> rcases own_f2_0 u0 with ⟨c, d⟩ | ⟨c, d⟩
  · exact absurd d ((own_compl _).mp b)
  · rw [a, c]; rfl
  · rw [a, c]; rfl
  · exact absurd ((own_compl _).mpr d) b
theorem own_idx (uk : Int32) : ¬ ((uk &&& (2147483647 : Int32)) % (28 : Int32)) < 0 ∧ ((uk &&& (2147483647 : Int32)) % (28 : Int32)).toNatClampNeg < 28 := by
  have h1 := c_mask uk 2147483647 31 (by decide) (by decide)
  have h2 := (c_irem (uk &&& 2147483647) 28 28 rfl).1
  have h3 : (0 : Int32).toInt = 0 := rfl
  rw [Int32.lt_iff_toInt_lt, h3]
  simp only [Int32.toNatClampNeg]
  omega
/-- an int[] of n places -/
def own_AI (Z : State) (h : Heap) (a : Addr) (n : Nat) : Prop := ∃ c : Cell, Arr Z h a c .int ∧ c.slots.size = n ∧ ∀ i, i < n → ∃ w : Int32, c.slots[i]? = some (.int w)
theorem own_AI_new {Z : State} {h : Heap} {a : Addr} {k : ClassId} {z : Int32} {n : Nat} (A : Arr Z h a (newA k .int z) .int) (q : z.toNatClampNeg = n) : own_AI Z h a n := ⟨_, A, by rw [sz_new]; exact q, fun i hi => ⟨0, by
  show (Array.replicate z.toNatClampNeg (defaultValue .int))[i]? = _
  rw [Array.getElem?_replicate, if_pos (q ▸ hi)]; rfl⟩⟩
theorem own_AI_set {Z : State} {h h' : Heap} {a : Addr} {c : Cell} {n j : Nat} {x : Int32} (A : Arr Z h a c .int) (S : c.slots.size = n) (I : ∀ i, i < n → ∃ w : Int32, c.slots[i]? = some (.int w)) (W : Wr h h' a j (.int x)) : own_AI Z h' a n :=
  ⟨_, A.same W, by show (c.slots.setIfInBounds j (.int x)).size = n; rw [Array.size_setIfInBounds]; exact S, fun i hi => by
    show ∃ w : Int32, (c.slots.setIfInBounds j (.int x))[i]? = some (.int w)
    rw [Array.getElem?_setIfInBounds]
    by_cases q : j = i
    · subst q; rw [if_pos rfl, if_pos (by rw [S]; exact hi)]; exact ⟨x, rfl⟩
    · rw [if_neg q]; exact I i hi⟩
theorem pd_0 : parseMethodDescriptor "(I)Z" = some ⟨[.int], some .boolean⟩ := by decide +kernel
def own_n1 (uc : Int32) (uk : Int32) (ud : Int32) (wv : Int32) : Int32 := (if (f2_0 uc) = (0 : Int32) then (1 : Int32) else (0 : Int32))
def own_n2 (uc : Int32) (uk : Int32) (ud : Int32) (wv : Int32) : Int32 := (if (f2_0 (wv + (ud % (3 : Int32)))) = (0 : Int32) then (1 : Int32) else (0 : Int32))
theorem ef_0 (m : MethodId) (x0 : Int32) (x1 : Int32) (x2 : Int32) : entryFrame m #[(.int x0), (.int x1), (.int x2)] maxLocals = mkF m 0 #[.val (.int x0), .val (.int x1), .val (.int x2), .unset, .unset, .unset, .unset] [] := by first | (simp [entryFrame, mkF, argsToLocals, Value.category, maxLocals]; done) | rfl
def Q0 (Z : State) (uc : Int32) (uk : Int32) (ud : Int32) (h0 : Heap) (n0 : Nat) (v : Option Value) (h : Heap) (L : List Loc) : Prop := v = some (.int (1 : Int32)) ∧ Fr n0 L
set_option maxRecDepth 65536 in
set_option maxHeartbeats 40000000 in
theorem rm0 (l : Launch) (Z : State) (a0 : Array Value) (hw : ∀ d ∈ tables_1, d.before a0 Z = true) (ws : List Jvm.Cond) (uc : Int32) (uk : Int32) (ud : Int32) (h0 : Heap) (n0 : Nat) (Z0 : n0 ≤ h0.size) :
    MetFree l x (head1 (Jvm.Cond.code x code maxLocals ret :: ws) room_1) (fun a U => a = #[(.int uc), (.int uk), (.int ud)] ∧ Z.Warmed39 U.vm ∧ U.heap = h0) (fun _ _ _ _ _ => True) (fun _ U o U' => ∃ v L, o = .returned v ∧ Q0 Z uc uk ud h0 n0 v U'.heap L ∧ FrameEnd U o U' L 1 28) := by
  refine MetFree.of_bodySF (plainFor_of_name pn_1) hisR ?_
  intro p e s m args below meth c s₁ Bd hml0 hP hK
  obtain ⟨rfl, hZ, hh⟩ := hP
  have hx := Bd.exec
  have hby := Bd.bytes
  have hml : c.maxLocals = 7 := hml0
  have hown : s.vm.findClass "com/example/triskel/triskel/ntriples/TerminalReaderIsBaseCharacterPinLaw" = some m.cls := findClass_of_methodNamed Bd.named
  have hnm := (name_of_methodNamed Bd.named Bd.method).1
  have X0 : Stand p l e room_1 s m #[(.int uc), (.int uk), (.int ud)] below meth c s₁ [] 0 0 := Stand.of_body Bd
  have e0 : s₁.heap = h0 := by rw [← hh, Bd.state]; rfl
  have N0 := Fr.nil n0
  have pre0 : ∀ t, Steps p.tables e below (s₁.setTop (mkF m 0 #[.val (.int uc), .val (.int uk), .val (.int ud), .unset, .unset, .unset, .unset] [])) t → Steps p.tables e below (s₁.setTop (entryFrame m #[(.int uc), (.int uk), (.int ud)] maxLocals)) t := fun t k => castTop (ef_0 m uc uk ud) k
  obtain ⟨T1, h1, k1, X1, e1, E1, A1, st1⟩ := newP X0 hx hZ (hw _ (List.mem_of_getElem? (i := 0) rfl)) e0 (g := (mkF m 2 #[.val (.int uc), .val (.int uk), .val (.int ud), .unset, .unset, .unset, .unset] [(.int (28 : Int32))])) rfl (hb hby at_2) rfl (by decide) (cap := 28) (by decide) (by decide) (by decide) (by decide)
  obtain ⟨bb, sz_bb⟩ : ∃ z, z = h0.size := ⟨_, rfl⟩
  rw [← sz_bb] at A1 st1
  have g_bb : n0 ≤ bb := Nat.le_trans Z0 (Nat.le_of_eq sz_bb.symm)
  have Zp2 : n0 ≤ h1.size := Nat.le_trans Z0 E1.1
  have Vn := own_AI_new A1 (n := 28) rfl
  obtain ⟨cl3, Ar3, S3, I3⟩ := Vn
  obtain ⟨T3, h3, X3, e3, W3, st3⟩ := stI X1 hx hZ e1 Ar3 (j := (0 : Int32)) (by rw [S3]; decide) (g := (mkF m 8 #[.val (.int uc), .val (.int uk), .val (.int ud), .unset, .unset, .unset, .unset] [(.int (65 : Int32)), (.int (0 : Int32)), (.ref bb), (.ref bb)])) rfl rfl (hb hby at_8)
  have V3 := own_AI_set Ar3 S3 I3 W3
  have N3f := Fr.snoc X3 N0 g_bb
  obtain ⟨cl4, Ar4, S4, I4⟩ := V3
  obtain ⟨T4, h4, X4, e4, W4, st4⟩ := stI X3 hx hZ e3 Ar4 (j := (1 : Int32)) (by rw [S4]; decide) (g := (mkF m 13 #[.val (.int uc), .val (.int uk), .val (.int ud), .unset, .unset, .unset, .unset] [(.int (90 : Int32)), (.int (1 : Int32)), (.ref bb), (.ref bb)])) rfl rfl (hb hby at_13)
  have V4 := own_AI_set Ar4 S4 I4 W4
  have N4f := Fr.snoc X4 N3f g_bb
  obtain ⟨cl5, Ar5, S5, I5⟩ := V4
  obtain ⟨T5, h5, X5, e5, W5, st5⟩ := stI X4 hx hZ e4 Ar5 (j := (2 : Int32)) (by rw [S5]; decide) (g := (mkF m 18 #[.val (.int uc), .val (.int uk), .val (.int ud), .unset, .unset, .unset, .unset] [(.int (97 : Int32)), (.int (2 : Int32)), (.ref bb), (.ref bb)])) rfl rfl (hb hby at_18)
  have V5 := own_AI_set Ar5 S5 I5 W5
  have N5f := Fr.snoc X5 N4f g_bb
  obtain ⟨cl6, Ar6, S6, I6⟩ := V5
  obtain ⟨T6, h6, X6, e6, W6, st6⟩ := stI X5 hx hZ e5 Ar6 (j := (3 : Int32)) (by rw [S6]; decide) (g := (mkF m 23 #[.val (.int uc), .val (.int uk), .val (.int ud), .unset, .unset, .unset, .unset] [(.int (122 : Int32)), (.int (3 : Int32)), (.ref bb), (.ref bb)])) rfl rfl (hb hby at_23)
  have V6 := own_AI_set Ar6 S6 I6 W6
  have N6f := Fr.snoc X6 N5f g_bb
  obtain ⟨cl7, Ar7, S7, I7⟩ := V6
  obtain ⟨T7, h7, X7, e7, W7, st7⟩ := stI X6 hx hZ e6 Ar7 (j := (4 : Int32)) (by rw [S7]; decide) (g := (mkF m 29 #[.val (.int uc), .val (.int uk), .val (.int ud), .unset, .unset, .unset, .unset] [(.int (192 : Int32)), (.int (4 : Int32)), (.ref bb), (.ref bb)])) rfl rfl (hb hby at_29)
  have V7 := own_AI_set Ar7 S7 I7 W7
  have N7f := Fr.snoc X7 N6f g_bb
  obtain ⟨cl8, Ar8, S8, I8⟩ := V7
  obtain ⟨T8, h8, X8, e8, W8, st8⟩ := stI X7 hx hZ e7 Ar8 (j := (5 : Int32)) (by rw [S8]; decide) (g := (mkF m 35 #[.val (.int uc), .val (.int uk), .val (.int ud), .unset, .unset, .unset, .unset] [(.int (214 : Int32)), (.int (5 : Int32)), (.ref bb), (.ref bb)])) rfl rfl (hb hby at_35)
  have V8 := own_AI_set Ar8 S8 I8 W8
  have N8f := Fr.snoc X8 N7f g_bb
  obtain ⟨cl9, Ar9, S9, I9⟩ := V8
  obtain ⟨T9, h9, X9, e9, W9, st9⟩ := stI X8 hx hZ e8 Ar9 (j := (6 : Int32)) (by rw [S9]; decide) (g := (mkF m 42 #[.val (.int uc), .val (.int uk), .val (.int ud), .unset, .unset, .unset, .unset] [(.int (216 : Int32)), (.int (6 : Int32)), (.ref bb), (.ref bb)])) rfl rfl (hb hby at_42)
  have V9 := own_AI_set Ar9 S9 I9 W9
  have N9f := Fr.snoc X9 N8f g_bb
  obtain ⟨lo10, X10, N10⟩ : ∃ lo : List Loc, Stand p l e room_1 s m #[(.int uc), (.int uk), (.int ud)] below meth c T9 lo 1 28 ∧ Fr n0 lo := ⟨_, X9, N9f⟩
  obtain ⟨cl11, Ar11, S11, I11⟩ := V9
  obtain ⟨T11, h11, X11, e11, W11, st11⟩ := stI X10 hx hZ e9 Ar11 (j := (7 : Int32)) (by rw [S11]; decide) (g := (mkF m 49 #[.val (.int uc), .val (.int uk), .val (.int ud), .unset, .unset, .unset, .unset] [(.int (246 : Int32)), (.int (7 : Int32)), (.ref bb), (.ref bb)])) rfl rfl (hb hby at_49)
  have V11 := own_AI_set Ar11 S11 I11 W11
  have N11f := Fr.snoc X11 N10 g_bb
  obtain ⟨cl12, Ar12, S12, I12⟩ := V11
  obtain ⟨T12, h12, X12, e12, W12, st12⟩ := stI X11 hx hZ e11 Ar12 (j := (8 : Int32)) (by rw [S12]; decide) (g := (mkF m 56 #[.val (.int uc), .val (.int uk), .val (.int ud), .unset, .unset, .unset, .unset] [(.int (248 : Int32)), (.int (8 : Int32)), (.ref bb), (.ref bb)])) rfl rfl (hb hby at_56)
  have V12 := own_AI_set Ar12 S12 I12 W12
  have N12f := Fr.snoc X12 N11f g_bb
  obtain ⟨cl13, Ar13, S13, I13⟩ := V12
  obtain ⟨T13, h13, X13, e13, W13, st13⟩ := stI X12 hx hZ e12 Ar13 (j := (9 : Int32)) (by rw [S13]; decide) (g := (mkF m 63 #[.val (.int uc), .val (.int uk), .val (.int ud), .unset, .unset, .unset, .unset] [(.int (767 : Int32)), (.int (9 : Int32)), (.ref bb), (.ref bb)])) rfl rfl (hb hby at_63)
  have V13 := own_AI_set Ar13 S13 I13 W13
  have N13f := Fr.snoc X13 N12f g_bb
  obtain ⟨cl14, Ar14, S14, I14⟩ := V13
  obtain ⟨T14, h14, X14, e14, W14, st14⟩ := stI X13 hx hZ e13 Ar14 (j := (10 : Int32)) (by rw [S14]; decide) (g := (mkF m 70 #[.val (.int uc), .val (.int uk), .val (.int ud), .unset, .unset, .unset, .unset] [(.int (880 : Int32)), (.int (10 : Int32)), (.ref bb), (.ref bb)])) rfl rfl (hb hby at_70)
  have V14 := own_AI_set Ar14 S14 I14 W14
  have N14f := Fr.snoc X14 N13f g_bb
  obtain ⟨cl15, Ar15, S15, I15⟩ := V14
  obtain ⟨T15, h15, X15, e15, W15, st15⟩ := stI X14 hx hZ e14 Ar15 (j := (11 : Int32)) (by rw [S15]; decide) (g := (mkF m 77 #[.val (.int uc), .val (.int uk), .val (.int ud), .unset, .unset, .unset, .unset] [(.int (893 : Int32)), (.int (11 : Int32)), (.ref bb), (.ref bb)])) rfl rfl (hb hby at_77)
  have V15 := own_AI_set Ar15 S15 I15 W15
  have N15f := Fr.snoc X15 N14f g_bb
  obtain ⟨cl16, Ar16, S16, I16⟩ := V15
  obtain ⟨T16, h16, X16, e16, W16, st16⟩ := stI X15 hx hZ e15 Ar16 (j := (12 : Int32)) (by rw [S16]; decide) (g := (mkF m 84 #[.val (.int uc), .val (.int uk), .val (.int ud), .unset, .unset, .unset, .unset] [(.int (895 : Int32)), (.int (12 : Int32)), (.ref bb), (.ref bb)])) rfl rfl (hb hby at_84)
  have V16 := own_AI_set Ar16 S16 I16 W16
  have N16f := Fr.snoc X16 N15f g_bb
  obtain ⟨cl17, Ar17, S17, I17⟩ := V16
  obtain ⟨T17, h17, X17, e17, W17, st17⟩ := stI X16 hx hZ e16 Ar17 (j := (13 : Int32)) (by rw [S17]; decide) (g := (mkF m 91 #[.val (.int uc), .val (.int uk), .val (.int ud), .unset, .unset, .unset, .unset] [(.int (8191 : Int32)), (.int (13 : Int32)), (.ref bb), (.ref bb)])) rfl rfl (hb hby at_91)
  have V17 := own_AI_set Ar17 S17 I17 W17
  have N17f := Fr.snoc X17 N16f g_bb
  obtain ⟨lo18, X18, N18⟩ : ∃ lo : List Loc, Stand p l e room_1 s m #[(.int uc), (.int uk), (.int ud)] below meth c T17 lo 1 28 ∧ Fr n0 lo := ⟨_, X17, N17f⟩
  obtain ⟨cl19, Ar19, S19, I19⟩ := V17
  obtain ⟨T19, h19, X19, e19, W19, st19⟩ := stI X18 hx hZ e17 Ar19 (j := (14 : Int32)) (by rw [S19]; decide) (g := (mkF m 98 #[.val (.int uc), .val (.int uk), .val (.int ud), .unset, .unset, .unset, .unset] [(.int (8204 : Int32)), (.int (14 : Int32)), (.ref bb), (.ref bb)])) rfl rfl (hb hby at_98)
  have V19 := own_AI_set Ar19 S19 I19 W19
  have N19f := Fr.snoc X19 N18 g_bb
  obtain ⟨cl20, Ar20, S20, I20⟩ := V19
  obtain ⟨T20, h20, X20, e20, W20, st20⟩ := stI X19 hx hZ e19 Ar20 (j := (15 : Int32)) (by rw [S20]; decide) (g := (mkF m 105 #[.val (.int uc), .val (.int uk), .val (.int ud), .unset, .unset, .unset, .unset] [(.int (8205 : Int32)), (.int (15 : Int32)), (.ref bb), (.ref bb)])) rfl rfl (hb hby at_105)
  have V20 := own_AI_set Ar20 S20 I20 W20
  have N20f := Fr.snoc X20 N19f g_bb
  obtain ⟨cl21, Ar21, S21, I21⟩ := V20
  obtain ⟨T21, h21, X21, e21, W21, st21⟩ := stI X20 hx hZ e20 Ar21 (j := (16 : Int32)) (by rw [S21]; decide) (g := (mkF m 112 #[.val (.int uc), .val (.int uk), .val (.int ud), .unset, .unset, .unset, .unset] [(.int (8304 : Int32)), (.int (16 : Int32)), (.ref bb), (.ref bb)])) rfl rfl (hb hby at_112)
  have V21 := own_AI_set Ar21 S21 I21 W21
  have N21f := Fr.snoc X21 N20f g_bb
  obtain ⟨cl22, Ar22, S22, I22⟩ := V21
  obtain ⟨T22, h22, X22, e22, W22, st22⟩ := stI X21 hx hZ e21 Ar22 (j := (17 : Int32)) (by rw [S22]; decide) (g := (mkF m 119 #[.val (.int uc), .val (.int uk), .val (.int ud), .unset, .unset, .unset, .unset] [(.int (8591 : Int32)), (.int (17 : Int32)), (.ref bb), (.ref bb)])) rfl rfl (hb hby at_119)
  have V22 := own_AI_set Ar22 S22 I22 W22
  have N22f := Fr.snoc X22 N21f g_bb
  obtain ⟨cl23, Ar23, S23, I23⟩ := V22
  obtain ⟨T23, h23, X23, e23, W23, st23⟩ := stI X22 hx hZ e22 Ar23 (j := (18 : Int32)) (by rw [S23]; decide) (g := (mkF m 126 #[.val (.int uc), .val (.int uk), .val (.int ud), .unset, .unset, .unset, .unset] [(.int (11264 : Int32)), (.int (18 : Int32)), (.ref bb), (.ref bb)])) rfl rfl (hb hby at_126)
  have V23 := own_AI_set Ar23 S23 I23 W23
  have N23f := Fr.snoc X23 N22f g_bb
  obtain ⟨cl24, Ar24, S24, I24⟩ := V23
  obtain ⟨T24, h24, X24, e24, W24, st24⟩ := stI X23 hx hZ e23 Ar24 (j := (19 : Int32)) (by rw [S24]; decide) (g := (mkF m 133 #[.val (.int uc), .val (.int uk), .val (.int ud), .unset, .unset, .unset, .unset] [(.int (12271 : Int32)), (.int (19 : Int32)), (.ref bb), (.ref bb)])) rfl rfl (hb hby at_133)
  have V24 := own_AI_set Ar24 S24 I24 W24
  have N24f := Fr.snoc X24 N23f g_bb
  obtain ⟨cl25, Ar25, S25, I25⟩ := V24
  obtain ⟨T25, h25, X25, e25, W25, st25⟩ := stI X24 hx hZ e24 Ar25 (j := (20 : Int32)) (by rw [S25]; decide) (g := (mkF m 140 #[.val (.int uc), .val (.int uk), .val (.int ud), .unset, .unset, .unset, .unset] [(.int (12289 : Int32)), (.int (20 : Int32)), (.ref bb), (.ref bb)])) rfl rfl (hb hby at_140)
  have V25 := own_AI_set Ar25 S25 I25 W25
  have N25f := Fr.snoc X25 N24f g_bb
  obtain ⟨lo26, X26, N26⟩ : ∃ lo : List Loc, Stand p l e room_1 s m #[(.int uc), (.int uk), (.int ud)] below meth c T25 lo 1 28 ∧ Fr n0 lo := ⟨_, X25, N25f⟩
  obtain ⟨cl27, Ar27, S27, I27⟩ := V25
  obtain ⟨T27, h27, X27, e27, W27, st27⟩ := stI X26 hx hZ e25 Ar27 (j := (21 : Int32)) (by rw [S27]; decide) (g := (mkF m 146 #[.val (.int uc), .val (.int uk), .val (.int ud), .unset, .unset, .unset, .unset] [(.int (55295 : Int32)), (.int (21 : Int32)), (.ref bb), (.ref bb)])) rfl rfl (hb hby at_146)
  have V27 := own_AI_set Ar27 S27 I27 W27
  have N27f := Fr.snoc X27 N26 g_bb
  obtain ⟨cl28, Ar28, S28, I28⟩ := V27
  obtain ⟨T28, h28, X28, e28, W28, st28⟩ := stI X27 hx hZ e27 Ar28 (j := (22 : Int32)) (by rw [S28]; decide) (g := (mkF m 152 #[.val (.int uc), .val (.int uk), .val (.int ud), .unset, .unset, .unset, .unset] [(.int (63744 : Int32)), (.int (22 : Int32)), (.ref bb), (.ref bb)])) rfl rfl (hb hby at_152)
  have V28 := own_AI_set Ar28 S28 I28 W28
  have N28f := Fr.snoc X28 N27f g_bb
  obtain ⟨cl29, Ar29, S29, I29⟩ := V28
  obtain ⟨T29, h29, X29, e29, W29, st29⟩ := stI X28 hx hZ e28 Ar29 (j := (23 : Int32)) (by rw [S29]; decide) (g := (mkF m 158 #[.val (.int uc), .val (.int uk), .val (.int ud), .unset, .unset, .unset, .unset] [(.int (64975 : Int32)), (.int (23 : Int32)), (.ref bb), (.ref bb)])) rfl rfl (hb hby at_158)
  have V29 := own_AI_set Ar29 S29 I29 W29
  have N29f := Fr.snoc X29 N28f g_bb
  obtain ⟨cl30, Ar30, S30, I30⟩ := V29
  obtain ⟨T30, h30, X30, e30, W30, st30⟩ := stI X29 hx hZ e29 Ar30 (j := (24 : Int32)) (by rw [S30]; decide) (g := (mkF m 164 #[.val (.int uc), .val (.int uk), .val (.int ud), .unset, .unset, .unset, .unset] [(.int (65008 : Int32)), (.int (24 : Int32)), (.ref bb), (.ref bb)])) rfl rfl (hb hby at_164)
  have V30 := own_AI_set Ar30 S30 I30 W30
  have N30f := Fr.snoc X30 N29f g_bb
  obtain ⟨cl31, Ar31, S31, I31⟩ := V30
  obtain ⟨T31, h31, X31, e31, W31, st31⟩ := stI X30 hx hZ e30 Ar31 (j := (25 : Int32)) (by rw [S31]; decide) (g := (mkF m 170 #[.val (.int uc), .val (.int uk), .val (.int ud), .unset, .unset, .unset, .unset] [(.int (65533 : Int32)), (.int (25 : Int32)), (.ref bb), (.ref bb)])) rfl rfl (hb hby at_170)
  have V31 := own_AI_set Ar31 S31 I31 W31
  have N31f := Fr.snoc X31 N30f g_bb
  obtain ⟨cl32, Ar32, S32, I32⟩ := V31
  obtain ⟨T32, h32, X32, e32, W32, st32⟩ := stI X31 hx hZ e31 Ar32 (j := (26 : Int32)) (by rw [S32]; decide) (g := (mkF m 176 #[.val (.int uc), .val (.int uk), .val (.int ud), .unset, .unset, .unset, .unset] [(.int (65536 : Int32)), (.int (26 : Int32)), (.ref bb), (.ref bb)])) rfl rfl (hb hby at_176)
  have V32 := own_AI_set Ar32 S32 I32 W32
  have N32f := Fr.snoc X32 N31f g_bb
  obtain ⟨cl33, Ar33, S33, I33⟩ := V32
  obtain ⟨T33, h33, X33, e33, W33, st33⟩ := stI X32 hx hZ e32 Ar33 (j := (27 : Int32)) (by rw [S33]; decide) (g := (mkF m 182 #[.val (.int uc), .val (.int uk), .val (.int ud), .unset, .unset, .unset, .unset] [(.int (983039 : Int32)), (.int (27 : Int32)), (.ref bb), (.ref bb)])) rfl rfl (hb hby at_182)
  have V33 := own_AI_set Ar33 S33 I33 W33
  have N33f := Fr.snoc X33 N32f g_bb
  obtain ⟨lo34, X34, N34⟩ : ∃ lo : List Loc, Stand p l e room_1 s m #[(.int uc), (.int uk), (.int ud)] below meth c T33 lo 1 28 ∧ Fr n0 lo := ⟨_, X33, N33f⟩
  obtain ⟨clz, Arz, Sz, Iz⟩ := V33
  obtain ⟨wv, hat⟩ := Iz _ (own_idx uk).2
  have hin : ¬ (((uk &&& (2147483647 : Int32)) % (28 : Int32)) < 0 ∨ clz.slots.size ≤ (((uk &&& (2147483647 : Int32)) % (28 : Int32))).toNatClampNeg) := by rw [Sz]; exact fun r => r.elim (own_idx uk).1 (fun r => absurd (own_idx uk).2 (Nat.not_lt.mpr r))
  obtain ⟨_, _, ⟨T35, L35, k35, n35⟩, -, X35, ⟨Lc35, hQ35, l35, y35, z35⟩, st35⟩ := Jvm.LawKit.callS X34 hx (y := (⟨"com/example/triskel/triskel/ntriples/TerminalReader", "isBaseCharacter", "(I)Z"⟩ : MethodName)) hown (mvT hZ (hw _ (List.mem_of_getElem? (i := 9) rfl))) (mvT hZ (hw _ (List.mem_of_getElem? (i := 10) rfl))) (mvT hZ (hw _ (List.mem_of_getElem? (i := 11) rfl))) (mvT hZ (hw _ (List.mem_of_getElem? (i := 12) rfl))) (by decide) (backOf (W := 0) (rm1 l Z a0 hw [] uc h33 n0) hZ (hw _ (List.mem_of_getElem? (i := 12) rfl)) (hw _ (List.mem_of_getElem? (i := 11) rfl)) (by decide) (by decide)) (g := (mkF m 200 #[.val (.int uc), .val (.int uk), .val (.int ud), .val (.ref bb), .val (.int (wv + (ud % (3 : Int32)))), .unset, .unset] [(.int uc)])) rfl (by rw [hml]; rfl) (argsL := [(.int uc)]) (rest := []) (lenOf pd_0 rfl) rfl (by show 2 * 0 + _ ≤ _; exact Nat.le_of_eq rfl) (hb hby at_200) (fun _ _ => ⟨rfl, e33, (by decide : 1 + 0 ≤ _), (by decide : 28 + 0 ≤ _)⟩)
  dsimp only [Pt.U, Pt.locs, Pt.cells, Pt.slots] at X35 l35 y35 z35 st35 hQ35
  subst l35 y35 z35
  obtain ⟨rfl, N35q, e35q⟩ := hQ35
  have N35 := Fr.app N34 N35q
  obtain ⟨_, _, ⟨T36, L36, k36, n36⟩, -, X36, ⟨Lc36, hQ36, l36, y36, z36⟩, st36⟩ := Jvm.LawKit.callS X35 hx (y := (⟨"com/example/triskel/triskel/ntriples/TerminalReaderIsBaseCharacterPinLaw", "excluded", "(I)Z"⟩ : MethodName)) hown (mvT hZ (hw _ (List.mem_of_getElem? (i := 16) rfl))) (mvT hZ (hw _ (List.mem_of_getElem? (i := 17) rfl))) (mvT hZ (hw _ (List.mem_of_getElem? (i := 18) rfl))) (mvT hZ (hw _ (List.mem_of_getElem? (i := 19) rfl))) (by decide) (backOf (W := 1) (rm2 l Z a0 hw [] uc h33 n0) hZ (hw _ (List.mem_of_getElem? (i := 19) rfl)) (hw _ (List.mem_of_getElem? (i := 18) rfl)) (by decide) (by decide)) (g := (mkF m 204 #[.val (.int uc), .val (.int uk), .val (.int ud), .val (.ref bb), .val (.int (wv + (ud % (3 : Int32)))), .unset, .unset] [(.int uc), (.int (f1_0 uc))])) rfl (by rw [hml]; rfl) (argsL := [(.int uc)]) (rest := [(.int (f1_0 uc))]) (lenOf pd_0 rfl) rfl (by show 2 * 0 + _ ≤ _; exact Nat.le_of_eq rfl) (hb hby at_204) (fun _ _ => ⟨rfl, e35q, (by decide : 1 + 0 ≤ _), (by decide : 28 + 0 ≤ _)⟩)
  dsimp only [Pt.U, Pt.locs, Pt.cells, Pt.slots] at X36 l36 y36 z36 st36 hQ36
  subst l36 y36 z36
  obtain ⟨rfl, N36q, e36q⟩ := hQ36
  have N36 := Fr.app N35 N36q
  have sg207 : ∀ t, Steps p.tables e below (T36.setTop (mkF m 215 #[.val (.int uc), .val (.int uk), .val (.int ud), .val (.ref bb), .val (.int (wv + (ud % (3 : Int32)))), .unset, .unset] [(.int (own_n1 uc uk ud wv)), (.int (f1_0 uc))])) t → Steps p.tables e below (T36.setTop (mkF m 207 #[.val (.int uc), .val (.int uk), .val (.int ud), .val (.ref bb), .val (.int (wv + (ud % (3 : Int32)))), .unset, .unset] [(.int (f2_0 uc)), (.int (f1_0 uc))])) t := by
    intro t kt
    show Steps p.tables e below (T36.setTop (mkF m 207 #[.val (.int uc), .val (.int uk), .val (.int ud), .val (.ref bb), .val (.int (wv + (ud % (3 : Int32)))), .unset, .unset] [(.int (f2_0 uc)), (.int (f1_0 uc))])) _
    by_cases hc207 : (f2_0 uc) = (0 : Int32)
    · refine XS.ifNo X36.here hx rfl (hb hby at_207) rfl ((if0 _ _).trans (teq hc207).2) ?_
      show Steps p.tables e below (T36.setTop (mkF m 210 #[.val (.int uc), .val (.int uk), .val (.int ud), .val (.ref bb), .val (.int (wv + (ud % (3 : Int32)))), .unset, .unset] [(.int (f1_0 uc))])) _
      refine XS.iconst X36.here hx rfl (hb hby at_210) ?_
      show Steps p.tables e below (T36.setTop (mkF m 211 #[.val (.int uc), .val (.int uk), .val (.int ud), .val (.ref bb), .val (.int (wv + (ud % (3 : Int32)))), .unset, .unset] [(.int (1 : Int32)), (.int (f1_0 uc))])) _
      refine XS.goto X36.here hx rfl (pc0 := 211) (pc' := 215) rfl (hb hby at_211) (by decide) (by decide) ?_
      have hv : own_n1 uc uk ud wv = (1 : Int32) := by unfold own_n1; rw [if_pos hc207]
      rw [hv] at kt
      exact kt
    · refine XS.ifYes X36.here hx rfl (pc0 := 207) (pc' := 214) rfl (hb hby at_207) rfl ((if0 _ _).trans (feq hc207).2) (by decide) (by decide) ?_
      show Steps p.tables e below (T36.setTop (mkF m 214 #[.val (.int uc), .val (.int uk), .val (.int ud), .val (.ref bb), .val (.int (wv + (ud % (3 : Int32)))), .unset, .unset] [(.int (f1_0 uc))])) _
      refine XS.iconst X36.here hx rfl (hb hby at_214) ?_
      have hv : own_n1 uc uk ud wv = (0 : Int32) := by unfold own_n1; rw [if_neg hc207]
      rw [hv] at kt
      exact kt
  obtain ⟨_, _, ⟨T37, L37, k37, n37⟩, -, X37, ⟨Lc37, hQ37, l37, y37, z37⟩, st37⟩ := Jvm.LawKit.callS X36 hx (y := (⟨"com/example/triskel/triskel/ntriples/TerminalReader", "isBaseCharacter", "(I)Z"⟩ : MethodName)) hown (mvT hZ (hw _ (List.mem_of_getElem? (i := 9) rfl))) (mvT hZ (hw _ (List.mem_of_getElem? (i := 10) rfl))) (mvT hZ (hw _ (List.mem_of_getElem? (i := 11) rfl))) (mvT hZ (hw _ (List.mem_of_getElem? (i := 12) rfl))) (by decide) (backOf (W := 0) (rm1 l Z a0 hw [] (wv + (ud % (3 : Int32))) h33 n0) hZ (hw _ (List.mem_of_getElem? (i := 12) rfl)) (hw _ (List.mem_of_getElem? (i := 11) rfl)) (by decide) (by decide)) (g := (mkF m 227 #[.val (.int uc), .val (.int uk), .val (.int ud), .val (.ref bb), .val (.int (wv + (ud % (3 : Int32)))), .val (.int (1 : Int32)), .unset] [(.int (wv + (ud % (3 : Int32))))])) rfl (by rw [hml]; rfl) (argsL := [(.int (wv + (ud % (3 : Int32))))]) (rest := []) (lenOf pd_0 rfl) rfl (by show 2 * 0 + _ ≤ _; exact Nat.le_of_eq rfl) (hb hby at_227) (fun _ _ => ⟨rfl, e36q, (by decide : 1 + 0 ≤ _), (by decide : 28 + 0 ≤ _)⟩)
  dsimp only [Pt.U, Pt.locs, Pt.cells, Pt.slots] at X37 l37 y37 z37 st37 hQ37
  subst l37 y37 z37
  obtain ⟨rfl, N37q, e37q⟩ := hQ37
  have N37 := Fr.app N36 N37q
  obtain ⟨_, _, ⟨T38, L38, k38, n38⟩, -, X38, ⟨Lc38, hQ38, l38, y38, z38⟩, st38⟩ := Jvm.LawKit.callS X37 hx (y := (⟨"com/example/triskel/triskel/ntriples/TerminalReaderIsBaseCharacterPinLaw", "excluded", "(I)Z"⟩ : MethodName)) hown (mvT hZ (hw _ (List.mem_of_getElem? (i := 16) rfl))) (mvT hZ (hw _ (List.mem_of_getElem? (i := 17) rfl))) (mvT hZ (hw _ (List.mem_of_getElem? (i := 18) rfl))) (mvT hZ (hw _ (List.mem_of_getElem? (i := 19) rfl))) (by decide) (backOf (W := 1) (rm2 l Z a0 hw [] (wv + (ud % (3 : Int32))) h33 n0) hZ (hw _ (List.mem_of_getElem? (i := 19) rfl)) (hw _ (List.mem_of_getElem? (i := 18) rfl)) (by decide) (by decide)) (g := (mkF m 232 #[.val (.int uc), .val (.int uk), .val (.int ud), .val (.ref bb), .val (.int (wv + (ud % (3 : Int32)))), .val (.int (1 : Int32)), .unset] [(.int (wv + (ud % (3 : Int32)))), (.int (f1_0 (wv + (ud % (3 : Int32)))))])) rfl (by rw [hml]; rfl) (argsL := [(.int (wv + (ud % (3 : Int32))))]) (rest := [(.int (f1_0 (wv + (ud % (3 : Int32)))))]) (lenOf pd_0 rfl) rfl (by show 2 * 0 + _ ≤ _; exact Nat.le_of_eq rfl) (hb hby at_232) (fun _ _ => ⟨rfl, e37q, (by decide : 1 + 0 ≤ _), (by decide : 28 + 0 ≤ _)⟩)
  dsimp only [Pt.U, Pt.locs, Pt.cells, Pt.slots] at X38 l38 y38 z38 st38 hQ38
  subst l38 y38 z38
  obtain ⟨rfl, N38q, e38q⟩ := hQ38
  have N38 := Fr.app N37 N38q
  have sg235 : ∀ t, Steps p.tables e below (T38.setTop (mkF m 243 #[.val (.int uc), .val (.int uk), .val (.int ud), .val (.ref bb), .val (.int (wv + (ud % (3 : Int32)))), .val (.int (1 : Int32)), .unset] [(.int (own_n2 uc uk ud wv)), (.int (f1_0 (wv + (ud % (3 : Int32)))))])) t → Steps p.tables e below (T38.setTop (mkF m 235 #[.val (.int uc), .val (.int uk), .val (.int ud), .val (.ref bb), .val (.int (wv + (ud % (3 : Int32)))), .val (.int (1 : Int32)), .unset] [(.int (f2_0 (wv + (ud % (3 : Int32))))), (.int (f1_0 (wv + (ud % (3 : Int32)))))])) t := by
    intro t kt
    show Steps p.tables e below (T38.setTop (mkF m 235 #[.val (.int uc), .val (.int uk), .val (.int ud), .val (.ref bb), .val (.int (wv + (ud % (3 : Int32)))), .val (.int (1 : Int32)), .unset] [(.int (f2_0 (wv + (ud % (3 : Int32))))), (.int (f1_0 (wv + (ud % (3 : Int32)))))])) _
    by_cases hc235 : (f2_0 (wv + (ud % (3 : Int32)))) = (0 : Int32)
    · refine XS.ifNo X38.here hx rfl (hb hby at_235) rfl ((if0 _ _).trans (teq hc235).2) ?_
      show Steps p.tables e below (T38.setTop (mkF m 238 #[.val (.int uc), .val (.int uk), .val (.int ud), .val (.ref bb), .val (.int (wv + (ud % (3 : Int32)))), .val (.int (1 : Int32)), .unset] [(.int (f1_0 (wv + (ud % (3 : Int32)))))])) _
      refine XS.iconst X38.here hx rfl (hb hby at_238) ?_
      show Steps p.tables e below (T38.setTop (mkF m 239 #[.val (.int uc), .val (.int uk), .val (.int ud), .val (.ref bb), .val (.int (wv + (ud % (3 : Int32)))), .val (.int (1 : Int32)), .unset] [(.int (1 : Int32)), (.int (f1_0 (wv + (ud % (3 : Int32)))))])) _
      refine XS.goto X38.here hx rfl (pc0 := 239) (pc' := 243) rfl (hb hby at_239) (by decide) (by decide) ?_
      have hv : own_n2 uc uk ud wv = (1 : Int32) := by unfold own_n2; rw [if_pos hc235]
      rw [hv] at kt
      exact kt
    · refine XS.ifYes X38.here hx rfl (pc0 := 235) (pc' := 242) rfl (hb hby at_235) rfl ((if0 _ _).trans (feq hc235).2) (by decide) (by decide) ?_
      show Steps p.tables e below (T38.setTop (mkF m 242 #[.val (.int uc), .val (.int uk), .val (.int ud), .val (.ref bb), .val (.int (wv + (ud % (3 : Int32)))), .val (.int (1 : Int32)), .unset] [(.int (f1_0 (wv + (ud % (3 : Int32)))))])) _
      refine XS.iconst X38.here hx rfl (hb hby at_242) ?_
      have hv : own_n2 uc uk ud wv = (0 : Int32) := by unfold own_n2; rw [if_neg hc235]
      rw [hv] at kt
      exact kt
  obtain ⟨fs, hr, hrun, hended, hW, hsame⟩ := X38.leave (v := some (.int (1 : Int32))) (fun h => by rw [Bd.returns] at h; cases h)
  refine ⟨_, _, pre0 _ ?_, hrun, hended, _, _, rfl, ?_, ⟨_, rfl⟩, hW, hsame.mono (by decide) (by decide)⟩
  · show Steps p.tables e below (s₁.setTop (mkF m 0 #[.val (.int uc), .val (.int uk), .val (.int ud), .unset, .unset, .unset, .unset] [])) _
    refine XS.bipush X0.here hx rfl (hb hby at_0) ?_
    show Steps p.tables e below (s₁.setTop (mkF m 2 #[.val (.int uc), .val (.int uk), .val (.int ud), .unset, .unset, .unset, .unset] [(.int (28 : Int32))])) _
    refine st1 _ ?_
    show Steps p.tables e below (T1.setTop (mkF m 4 #[.val (.int uc), .val (.int uk), .val (.int ud), .unset, .unset, .unset, .unset] [(.ref bb)])) _
    refine XS.dup X1.here hx rfl (hb hby at_4) rfl rfl ?_
    show Steps p.tables e below (T1.setTop (mkF m 5 #[.val (.int uc), .val (.int uk), .val (.int ud), .unset, .unset, .unset, .unset] [(.ref bb), (.ref bb)])) _
    refine XS.iconst X1.here hx rfl (hb hby at_5) ?_
    show Steps p.tables e below (T1.setTop (mkF m 6 #[.val (.int uc), .val (.int uk), .val (.int ud), .unset, .unset, .unset, .unset] [(.int (0 : Int32)), (.ref bb), (.ref bb)])) _
    refine XS.bipush X1.here hx rfl (hb hby at_6) ?_
    show Steps p.tables e below (T1.setTop (mkF m 8 #[.val (.int uc), .val (.int uk), .val (.int ud), .unset, .unset, .unset, .unset] [(.int (65 : Int32)), (.int (0 : Int32)), (.ref bb), (.ref bb)])) _
    refine st3 _ ?_
    show Steps p.tables e below (T3.setTop (mkF m 9 #[.val (.int uc), .val (.int uk), .val (.int ud), .unset, .unset, .unset, .unset] [(.ref bb)])) _
    refine XS.dup X3.here hx rfl (hb hby at_9) rfl rfl ?_
    show Steps p.tables e below (T3.setTop (mkF m 10 #[.val (.int uc), .val (.int uk), .val (.int ud), .unset, .unset, .unset, .unset] [(.ref bb), (.ref bb)])) _
    refine XS.iconst X3.here hx rfl (hb hby at_10) ?_
    show Steps p.tables e below (T3.setTop (mkF m 11 #[.val (.int uc), .val (.int uk), .val (.int ud), .unset, .unset, .unset, .unset] [(.int (1 : Int32)), (.ref bb), (.ref bb)])) _
    refine XS.bipush X3.here hx rfl (hb hby at_11) ?_
    show Steps p.tables e below (T3.setTop (mkF m 13 #[.val (.int uc), .val (.int uk), .val (.int ud), .unset, .unset, .unset, .unset] [(.int (90 : Int32)), (.int (1 : Int32)), (.ref bb), (.ref bb)])) _
    refine st4 _ ?_
    show Steps p.tables e below (T4.setTop (mkF m 14 #[.val (.int uc), .val (.int uk), .val (.int ud), .unset, .unset, .unset, .unset] [(.ref bb)])) _
    refine XS.dup X4.here hx rfl (hb hby at_14) rfl rfl ?_
    show Steps p.tables e below (T4.setTop (mkF m 15 #[.val (.int uc), .val (.int uk), .val (.int ud), .unset, .unset, .unset, .unset] [(.ref bb), (.ref bb)])) _
    refine XS.iconst X4.here hx rfl (hb hby at_15) ?_
    show Steps p.tables e below (T4.setTop (mkF m 16 #[.val (.int uc), .val (.int uk), .val (.int ud), .unset, .unset, .unset, .unset] [(.int (2 : Int32)), (.ref bb), (.ref bb)])) _
    refine XS.bipush X4.here hx rfl (hb hby at_16) ?_
    show Steps p.tables e below (T4.setTop (mkF m 18 #[.val (.int uc), .val (.int uk), .val (.int ud), .unset, .unset, .unset, .unset] [(.int (97 : Int32)), (.int (2 : Int32)), (.ref bb), (.ref bb)])) _
    refine st5 _ ?_
    show Steps p.tables e below (T5.setTop (mkF m 19 #[.val (.int uc), .val (.int uk), .val (.int ud), .unset, .unset, .unset, .unset] [(.ref bb)])) _
    refine XS.dup X5.here hx rfl (hb hby at_19) rfl rfl ?_
    show Steps p.tables e below (T5.setTop (mkF m 20 #[.val (.int uc), .val (.int uk), .val (.int ud), .unset, .unset, .unset, .unset] [(.ref bb), (.ref bb)])) _
    refine XS.iconst X5.here hx rfl (hb hby at_20) ?_
    show Steps p.tables e below (T5.setTop (mkF m 21 #[.val (.int uc), .val (.int uk), .val (.int ud), .unset, .unset, .unset, .unset] [(.int (3 : Int32)), (.ref bb), (.ref bb)])) _
    refine XS.bipush X5.here hx rfl (hb hby at_21) ?_
    show Steps p.tables e below (T5.setTop (mkF m 23 #[.val (.int uc), .val (.int uk), .val (.int ud), .unset, .unset, .unset, .unset] [(.int (122 : Int32)), (.int (3 : Int32)), (.ref bb), (.ref bb)])) _
    refine st6 _ ?_
    show Steps p.tables e below (T6.setTop (mkF m 24 #[.val (.int uc), .val (.int uk), .val (.int ud), .unset, .unset, .unset, .unset] [(.ref bb)])) _
    refine XS.dup X6.here hx rfl (hb hby at_24) rfl rfl ?_
    show Steps p.tables e below (T6.setTop (mkF m 25 #[.val (.int uc), .val (.int uk), .val (.int ud), .unset, .unset, .unset, .unset] [(.ref bb), (.ref bb)])) _
    refine XS.iconst X6.here hx rfl (hb hby at_25) ?_
    show Steps p.tables e below (T6.setTop (mkF m 26 #[.val (.int uc), .val (.int uk), .val (.int ud), .unset, .unset, .unset, .unset] [(.int (4 : Int32)), (.ref bb), (.ref bb)])) _
    refine XS.sipush X6.here hx rfl (hb hby at_26) ?_
    show Steps p.tables e below (T6.setTop (mkF m 29 #[.val (.int uc), .val (.int uk), .val (.int ud), .unset, .unset, .unset, .unset] [(.int (192 : Int32)), (.int (4 : Int32)), (.ref bb), (.ref bb)])) _
    refine st7 _ ?_
    show Steps p.tables e below (T7.setTop (mkF m 30 #[.val (.int uc), .val (.int uk), .val (.int ud), .unset, .unset, .unset, .unset] [(.ref bb)])) _
    refine XS.dup X7.here hx rfl (hb hby at_30) rfl rfl ?_
    show Steps p.tables e below (T7.setTop (mkF m 31 #[.val (.int uc), .val (.int uk), .val (.int ud), .unset, .unset, .unset, .unset] [(.ref bb), (.ref bb)])) _
    refine XS.iconst X7.here hx rfl (hb hby at_31) ?_
    show Steps p.tables e below (T7.setTop (mkF m 32 #[.val (.int uc), .val (.int uk), .val (.int ud), .unset, .unset, .unset, .unset] [(.int (5 : Int32)), (.ref bb), (.ref bb)])) _
    refine XS.sipush X7.here hx rfl (hb hby at_32) ?_
    show Steps p.tables e below (T7.setTop (mkF m 35 #[.val (.int uc), .val (.int uk), .val (.int ud), .unset, .unset, .unset, .unset] [(.int (214 : Int32)), (.int (5 : Int32)), (.ref bb), (.ref bb)])) _
    refine st8 _ ?_
    show Steps p.tables e below (T8.setTop (mkF m 36 #[.val (.int uc), .val (.int uk), .val (.int ud), .unset, .unset, .unset, .unset] [(.ref bb)])) _
    refine XS.dup X8.here hx rfl (hb hby at_36) rfl rfl ?_
    show Steps p.tables e below (T8.setTop (mkF m 37 #[.val (.int uc), .val (.int uk), .val (.int ud), .unset, .unset, .unset, .unset] [(.ref bb), (.ref bb)])) _
    refine XS.bipush X8.here hx rfl (hb hby at_37) ?_
    show Steps p.tables e below (T8.setTop (mkF m 39 #[.val (.int uc), .val (.int uk), .val (.int ud), .unset, .unset, .unset, .unset] [(.int (6 : Int32)), (.ref bb), (.ref bb)])) _
    refine XS.sipush X8.here hx rfl (hb hby at_39) ?_
    show Steps p.tables e below (T8.setTop (mkF m 42 #[.val (.int uc), .val (.int uk), .val (.int ud), .unset, .unset, .unset, .unset] [(.int (216 : Int32)), (.int (6 : Int32)), (.ref bb), (.ref bb)])) _
    refine st9 _ ?_
    show Steps p.tables e below (T9.setTop (mkF m 43 #[.val (.int uc), .val (.int uk), .val (.int ud), .unset, .unset, .unset, .unset] [(.ref bb)])) _
    refine XS.dup X10.here hx rfl (hb hby at_43) rfl rfl ?_
    show Steps p.tables e below (T9.setTop (mkF m 44 #[.val (.int uc), .val (.int uk), .val (.int ud), .unset, .unset, .unset, .unset] [(.ref bb), (.ref bb)])) _
    refine XS.bipush X10.here hx rfl (hb hby at_44) ?_
    show Steps p.tables e below (T9.setTop (mkF m 46 #[.val (.int uc), .val (.int uk), .val (.int ud), .unset, .unset, .unset, .unset] [(.int (7 : Int32)), (.ref bb), (.ref bb)])) _
    refine XS.sipush X10.here hx rfl (hb hby at_46) ?_
    show Steps p.tables e below (T9.setTop (mkF m 49 #[.val (.int uc), .val (.int uk), .val (.int ud), .unset, .unset, .unset, .unset] [(.int (246 : Int32)), (.int (7 : Int32)), (.ref bb), (.ref bb)])) _
    refine st11 _ ?_
    show Steps p.tables e below (T11.setTop (mkF m 50 #[.val (.int uc), .val (.int uk), .val (.int ud), .unset, .unset, .unset, .unset] [(.ref bb)])) _
    refine XS.dup X11.here hx rfl (hb hby at_50) rfl rfl ?_
    show Steps p.tables e below (T11.setTop (mkF m 51 #[.val (.int uc), .val (.int uk), .val (.int ud), .unset, .unset, .unset, .unset] [(.ref bb), (.ref bb)])) _
    refine XS.bipush X11.here hx rfl (hb hby at_51) ?_
    show Steps p.tables e below (T11.setTop (mkF m 53 #[.val (.int uc), .val (.int uk), .val (.int ud), .unset, .unset, .unset, .unset] [(.int (8 : Int32)), (.ref bb), (.ref bb)])) _
    refine XS.sipush X11.here hx rfl (hb hby at_53) ?_
    show Steps p.tables e below (T11.setTop (mkF m 56 #[.val (.int uc), .val (.int uk), .val (.int ud), .unset, .unset, .unset, .unset] [(.int (248 : Int32)), (.int (8 : Int32)), (.ref bb), (.ref bb)])) _
    refine st12 _ ?_
    show Steps p.tables e below (T12.setTop (mkF m 57 #[.val (.int uc), .val (.int uk), .val (.int ud), .unset, .unset, .unset, .unset] [(.ref bb)])) _
    refine XS.dup X12.here hx rfl (hb hby at_57) rfl rfl ?_
    show Steps p.tables e below (T12.setTop (mkF m 58 #[.val (.int uc), .val (.int uk), .val (.int ud), .unset, .unset, .unset, .unset] [(.ref bb), (.ref bb)])) _
    refine XS.bipush X12.here hx rfl (hb hby at_58) ?_
    show Steps p.tables e below (T12.setTop (mkF m 60 #[.val (.int uc), .val (.int uk), .val (.int ud), .unset, .unset, .unset, .unset] [(.int (9 : Int32)), (.ref bb), (.ref bb)])) _
    refine XS.sipush X12.here hx rfl (hb hby at_60) ?_
    show Steps p.tables e below (T12.setTop (mkF m 63 #[.val (.int uc), .val (.int uk), .val (.int ud), .unset, .unset, .unset, .unset] [(.int (767 : Int32)), (.int (9 : Int32)), (.ref bb), (.ref bb)])) _
    refine st13 _ ?_
    show Steps p.tables e below (T13.setTop (mkF m 64 #[.val (.int uc), .val (.int uk), .val (.int ud), .unset, .unset, .unset, .unset] [(.ref bb)])) _
    refine XS.dup X13.here hx rfl (hb hby at_64) rfl rfl ?_
    show Steps p.tables e below (T13.setTop (mkF m 65 #[.val (.int uc), .val (.int uk), .val (.int ud), .unset, .unset, .unset, .unset] [(.ref bb), (.ref bb)])) _
    refine XS.bipush X13.here hx rfl (hb hby at_65) ?_
    show Steps p.tables e below (T13.setTop (mkF m 67 #[.val (.int uc), .val (.int uk), .val (.int ud), .unset, .unset, .unset, .unset] [(.int (10 : Int32)), (.ref bb), (.ref bb)])) _
    refine XS.sipush X13.here hx rfl (hb hby at_67) ?_
    show Steps p.tables e below (T13.setTop (mkF m 70 #[.val (.int uc), .val (.int uk), .val (.int ud), .unset, .unset, .unset, .unset] [(.int (880 : Int32)), (.int (10 : Int32)), (.ref bb), (.ref bb)])) _
    refine st14 _ ?_
    show Steps p.tables e below (T14.setTop (mkF m 71 #[.val (.int uc), .val (.int uk), .val (.int ud), .unset, .unset, .unset, .unset] [(.ref bb)])) _
    refine XS.dup X14.here hx rfl (hb hby at_71) rfl rfl ?_
    show Steps p.tables e below (T14.setTop (mkF m 72 #[.val (.int uc), .val (.int uk), .val (.int ud), .unset, .unset, .unset, .unset] [(.ref bb), (.ref bb)])) _
    refine XS.bipush X14.here hx rfl (hb hby at_72) ?_
    show Steps p.tables e below (T14.setTop (mkF m 74 #[.val (.int uc), .val (.int uk), .val (.int ud), .unset, .unset, .unset, .unset] [(.int (11 : Int32)), (.ref bb), (.ref bb)])) _
    refine XS.sipush X14.here hx rfl (hb hby at_74) ?_
    show Steps p.tables e below (T14.setTop (mkF m 77 #[.val (.int uc), .val (.int uk), .val (.int ud), .unset, .unset, .unset, .unset] [(.int (893 : Int32)), (.int (11 : Int32)), (.ref bb), (.ref bb)])) _
    refine st15 _ ?_
    show Steps p.tables e below (T15.setTop (mkF m 78 #[.val (.int uc), .val (.int uk), .val (.int ud), .unset, .unset, .unset, .unset] [(.ref bb)])) _
    refine XS.dup X15.here hx rfl (hb hby at_78) rfl rfl ?_
    show Steps p.tables e below (T15.setTop (mkF m 79 #[.val (.int uc), .val (.int uk), .val (.int ud), .unset, .unset, .unset, .unset] [(.ref bb), (.ref bb)])) _
    refine XS.bipush X15.here hx rfl (hb hby at_79) ?_
    show Steps p.tables e below (T15.setTop (mkF m 81 #[.val (.int uc), .val (.int uk), .val (.int ud), .unset, .unset, .unset, .unset] [(.int (12 : Int32)), (.ref bb), (.ref bb)])) _
    refine XS.sipush X15.here hx rfl (hb hby at_81) ?_
    show Steps p.tables e below (T15.setTop (mkF m 84 #[.val (.int uc), .val (.int uk), .val (.int ud), .unset, .unset, .unset, .unset] [(.int (895 : Int32)), (.int (12 : Int32)), (.ref bb), (.ref bb)])) _
    refine st16 _ ?_
    show Steps p.tables e below (T16.setTop (mkF m 85 #[.val (.int uc), .val (.int uk), .val (.int ud), .unset, .unset, .unset, .unset] [(.ref bb)])) _
    refine XS.dup X16.here hx rfl (hb hby at_85) rfl rfl ?_
    show Steps p.tables e below (T16.setTop (mkF m 86 #[.val (.int uc), .val (.int uk), .val (.int ud), .unset, .unset, .unset, .unset] [(.ref bb), (.ref bb)])) _
    refine XS.bipush X16.here hx rfl (hb hby at_86) ?_
    show Steps p.tables e below (T16.setTop (mkF m 88 #[.val (.int uc), .val (.int uk), .val (.int ud), .unset, .unset, .unset, .unset] [(.int (13 : Int32)), (.ref bb), (.ref bb)])) _
    refine XS.sipush X16.here hx rfl (hb hby at_88) ?_
    show Steps p.tables e below (T16.setTop (mkF m 91 #[.val (.int uc), .val (.int uk), .val (.int ud), .unset, .unset, .unset, .unset] [(.int (8191 : Int32)), (.int (13 : Int32)), (.ref bb), (.ref bb)])) _
    refine st17 _ ?_
    show Steps p.tables e below (T17.setTop (mkF m 92 #[.val (.int uc), .val (.int uk), .val (.int ud), .unset, .unset, .unset, .unset] [(.ref bb)])) _
    refine XS.dup X18.here hx rfl (hb hby at_92) rfl rfl ?_
    show Steps p.tables e below (T17.setTop (mkF m 93 #[.val (.int uc), .val (.int uk), .val (.int ud), .unset, .unset, .unset, .unset] [(.ref bb), (.ref bb)])) _
    refine XS.bipush X18.here hx rfl (hb hby at_93) ?_
    show Steps p.tables e below (T17.setTop (mkF m 95 #[.val (.int uc), .val (.int uk), .val (.int ud), .unset, .unset, .unset, .unset] [(.int (14 : Int32)), (.ref bb), (.ref bb)])) _
    refine XS.sipush X18.here hx rfl (hb hby at_95) ?_
    show Steps p.tables e below (T17.setTop (mkF m 98 #[.val (.int uc), .val (.int uk), .val (.int ud), .unset, .unset, .unset, .unset] [(.int (8204 : Int32)), (.int (14 : Int32)), (.ref bb), (.ref bb)])) _
    refine st19 _ ?_
    show Steps p.tables e below (T19.setTop (mkF m 99 #[.val (.int uc), .val (.int uk), .val (.int ud), .unset, .unset, .unset, .unset] [(.ref bb)])) _
    refine XS.dup X19.here hx rfl (hb hby at_99) rfl rfl ?_
    show Steps p.tables e below (T19.setTop (mkF m 100 #[.val (.int uc), .val (.int uk), .val (.int ud), .unset, .unset, .unset, .unset] [(.ref bb), (.ref bb)])) _
    refine XS.bipush X19.here hx rfl (hb hby at_100) ?_
    show Steps p.tables e below (T19.setTop (mkF m 102 #[.val (.int uc), .val (.int uk), .val (.int ud), .unset, .unset, .unset, .unset] [(.int (15 : Int32)), (.ref bb), (.ref bb)])) _
    refine XS.sipush X19.here hx rfl (hb hby at_102) ?_
    show Steps p.tables e below (T19.setTop (mkF m 105 #[.val (.int uc), .val (.int uk), .val (.int ud), .unset, .unset, .unset, .unset] [(.int (8205 : Int32)), (.int (15 : Int32)), (.ref bb), (.ref bb)])) _
    refine st20 _ ?_
    show Steps p.tables e below (T20.setTop (mkF m 106 #[.val (.int uc), .val (.int uk), .val (.int ud), .unset, .unset, .unset, .unset] [(.ref bb)])) _
    refine XS.dup X20.here hx rfl (hb hby at_106) rfl rfl ?_
    show Steps p.tables e below (T20.setTop (mkF m 107 #[.val (.int uc), .val (.int uk), .val (.int ud), .unset, .unset, .unset, .unset] [(.ref bb), (.ref bb)])) _
    refine XS.bipush X20.here hx rfl (hb hby at_107) ?_
    show Steps p.tables e below (T20.setTop (mkF m 109 #[.val (.int uc), .val (.int uk), .val (.int ud), .unset, .unset, .unset, .unset] [(.int (16 : Int32)), (.ref bb), (.ref bb)])) _
    refine XS.sipush X20.here hx rfl (hb hby at_109) ?_
    show Steps p.tables e below (T20.setTop (mkF m 112 #[.val (.int uc), .val (.int uk), .val (.int ud), .unset, .unset, .unset, .unset] [(.int (8304 : Int32)), (.int (16 : Int32)), (.ref bb), (.ref bb)])) _
    refine st21 _ ?_
    show Steps p.tables e below (T21.setTop (mkF m 113 #[.val (.int uc), .val (.int uk), .val (.int ud), .unset, .unset, .unset, .unset] [(.ref bb)])) _
    refine XS.dup X21.here hx rfl (hb hby at_113) rfl rfl ?_
    show Steps p.tables e below (T21.setTop (mkF m 114 #[.val (.int uc), .val (.int uk), .val (.int ud), .unset, .unset, .unset, .unset] [(.ref bb), (.ref bb)])) _
    refine XS.bipush X21.here hx rfl (hb hby at_114) ?_
    show Steps p.tables e below (T21.setTop (mkF m 116 #[.val (.int uc), .val (.int uk), .val (.int ud), .unset, .unset, .unset, .unset] [(.int (17 : Int32)), (.ref bb), (.ref bb)])) _
    refine XS.sipush X21.here hx rfl (hb hby at_116) ?_
    show Steps p.tables e below (T21.setTop (mkF m 119 #[.val (.int uc), .val (.int uk), .val (.int ud), .unset, .unset, .unset, .unset] [(.int (8591 : Int32)), (.int (17 : Int32)), (.ref bb), (.ref bb)])) _
    refine st22 _ ?_
    show Steps p.tables e below (T22.setTop (mkF m 120 #[.val (.int uc), .val (.int uk), .val (.int ud), .unset, .unset, .unset, .unset] [(.ref bb)])) _
    refine XS.dup X22.here hx rfl (hb hby at_120) rfl rfl ?_
    show Steps p.tables e below (T22.setTop (mkF m 121 #[.val (.int uc), .val (.int uk), .val (.int ud), .unset, .unset, .unset, .unset] [(.ref bb), (.ref bb)])) _
    refine XS.bipush X22.here hx rfl (hb hby at_121) ?_
    show Steps p.tables e below (T22.setTop (mkF m 123 #[.val (.int uc), .val (.int uk), .val (.int ud), .unset, .unset, .unset, .unset] [(.int (18 : Int32)), (.ref bb), (.ref bb)])) _
    refine XS.sipush X22.here hx rfl (hb hby at_123) ?_
    show Steps p.tables e below (T22.setTop (mkF m 126 #[.val (.int uc), .val (.int uk), .val (.int ud), .unset, .unset, .unset, .unset] [(.int (11264 : Int32)), (.int (18 : Int32)), (.ref bb), (.ref bb)])) _
    refine st23 _ ?_
    show Steps p.tables e below (T23.setTop (mkF m 127 #[.val (.int uc), .val (.int uk), .val (.int ud), .unset, .unset, .unset, .unset] [(.ref bb)])) _
    refine XS.dup X23.here hx rfl (hb hby at_127) rfl rfl ?_
    show Steps p.tables e below (T23.setTop (mkF m 128 #[.val (.int uc), .val (.int uk), .val (.int ud), .unset, .unset, .unset, .unset] [(.ref bb), (.ref bb)])) _
    refine XS.bipush X23.here hx rfl (hb hby at_128) ?_
    show Steps p.tables e below (T23.setTop (mkF m 130 #[.val (.int uc), .val (.int uk), .val (.int ud), .unset, .unset, .unset, .unset] [(.int (19 : Int32)), (.ref bb), (.ref bb)])) _
    refine XS.sipush X23.here hx rfl (hb hby at_130) ?_
    show Steps p.tables e below (T23.setTop (mkF m 133 #[.val (.int uc), .val (.int uk), .val (.int ud), .unset, .unset, .unset, .unset] [(.int (12271 : Int32)), (.int (19 : Int32)), (.ref bb), (.ref bb)])) _
    refine st24 _ ?_
    show Steps p.tables e below (T24.setTop (mkF m 134 #[.val (.int uc), .val (.int uk), .val (.int ud), .unset, .unset, .unset, .unset] [(.ref bb)])) _
    refine XS.dup X24.here hx rfl (hb hby at_134) rfl rfl ?_
    show Steps p.tables e below (T24.setTop (mkF m 135 #[.val (.int uc), .val (.int uk), .val (.int ud), .unset, .unset, .unset, .unset] [(.ref bb), (.ref bb)])) _
    refine XS.bipush X24.here hx rfl (hb hby at_135) ?_
    show Steps p.tables e below (T24.setTop (mkF m 137 #[.val (.int uc), .val (.int uk), .val (.int ud), .unset, .unset, .unset, .unset] [(.int (20 : Int32)), (.ref bb), (.ref bb)])) _
    refine XS.sipush X24.here hx rfl (hb hby at_137) ?_
    show Steps p.tables e below (T24.setTop (mkF m 140 #[.val (.int uc), .val (.int uk), .val (.int ud), .unset, .unset, .unset, .unset] [(.int (12289 : Int32)), (.int (20 : Int32)), (.ref bb), (.ref bb)])) _
    refine st25 _ ?_
    show Steps p.tables e below (T25.setTop (mkF m 141 #[.val (.int uc), .val (.int uk), .val (.int ud), .unset, .unset, .unset, .unset] [(.ref bb)])) _
    refine XS.dup X26.here hx rfl (hb hby at_141) rfl rfl ?_
    show Steps p.tables e below (T25.setTop (mkF m 142 #[.val (.int uc), .val (.int uk), .val (.int ud), .unset, .unset, .unset, .unset] [(.ref bb), (.ref bb)])) _
    refine XS.bipush X26.here hx rfl (hb hby at_142) ?_
    show Steps p.tables e below (T25.setTop (mkF m 144 #[.val (.int uc), .val (.int uk), .val (.int ud), .unset, .unset, .unset, .unset] [(.int (21 : Int32)), (.ref bb), (.ref bb)])) _
    refine X26.ldcInt hx hown (mvT hZ (hw _ (List.mem_of_getElem? (i := 1) rfl))) (g := (mkF m 144 #[.val (.int uc), .val (.int uk), .val (.int ud), .unset, .unset, .unset, .unset] [(.int (21 : Int32)), (.ref bb), (.ref bb)])) rfl (hb hby at_144) _ ?_
    show Steps p.tables e below (T25.setTop (mkF m 146 #[.val (.int uc), .val (.int uk), .val (.int ud), .unset, .unset, .unset, .unset] [(.int (55295 : Int32)), (.int (21 : Int32)), (.ref bb), (.ref bb)])) _
    refine st27 _ ?_
    show Steps p.tables e below (T27.setTop (mkF m 147 #[.val (.int uc), .val (.int uk), .val (.int ud), .unset, .unset, .unset, .unset] [(.ref bb)])) _
    refine XS.dup X27.here hx rfl (hb hby at_147) rfl rfl ?_
    show Steps p.tables e below (T27.setTop (mkF m 148 #[.val (.int uc), .val (.int uk), .val (.int ud), .unset, .unset, .unset, .unset] [(.ref bb), (.ref bb)])) _
    refine XS.bipush X27.here hx rfl (hb hby at_148) ?_
    show Steps p.tables e below (T27.setTop (mkF m 150 #[.val (.int uc), .val (.int uk), .val (.int ud), .unset, .unset, .unset, .unset] [(.int (22 : Int32)), (.ref bb), (.ref bb)])) _
    refine X27.ldcInt hx hown (mvT hZ (hw _ (List.mem_of_getElem? (i := 2) rfl))) (g := (mkF m 150 #[.val (.int uc), .val (.int uk), .val (.int ud), .unset, .unset, .unset, .unset] [(.int (22 : Int32)), (.ref bb), (.ref bb)])) rfl (hb hby at_150) _ ?_
    show Steps p.tables e below (T27.setTop (mkF m 152 #[.val (.int uc), .val (.int uk), .val (.int ud), .unset, .unset, .unset, .unset] [(.int (63744 : Int32)), (.int (22 : Int32)), (.ref bb), (.ref bb)])) _
    refine st28 _ ?_
    show Steps p.tables e below (T28.setTop (mkF m 153 #[.val (.int uc), .val (.int uk), .val (.int ud), .unset, .unset, .unset, .unset] [(.ref bb)])) _
    refine XS.dup X28.here hx rfl (hb hby at_153) rfl rfl ?_
    show Steps p.tables e below (T28.setTop (mkF m 154 #[.val (.int uc), .val (.int uk), .val (.int ud), .unset, .unset, .unset, .unset] [(.ref bb), (.ref bb)])) _
    refine XS.bipush X28.here hx rfl (hb hby at_154) ?_
    show Steps p.tables e below (T28.setTop (mkF m 156 #[.val (.int uc), .val (.int uk), .val (.int ud), .unset, .unset, .unset, .unset] [(.int (23 : Int32)), (.ref bb), (.ref bb)])) _
    refine X28.ldcInt hx hown (mvT hZ (hw _ (List.mem_of_getElem? (i := 3) rfl))) (g := (mkF m 156 #[.val (.int uc), .val (.int uk), .val (.int ud), .unset, .unset, .unset, .unset] [(.int (23 : Int32)), (.ref bb), (.ref bb)])) rfl (hb hby at_156) _ ?_
    show Steps p.tables e below (T28.setTop (mkF m 158 #[.val (.int uc), .val (.int uk), .val (.int ud), .unset, .unset, .unset, .unset] [(.int (64975 : Int32)), (.int (23 : Int32)), (.ref bb), (.ref bb)])) _
    refine st29 _ ?_
    show Steps p.tables e below (T29.setTop (mkF m 159 #[.val (.int uc), .val (.int uk), .val (.int ud), .unset, .unset, .unset, .unset] [(.ref bb)])) _
    refine XS.dup X29.here hx rfl (hb hby at_159) rfl rfl ?_
    show Steps p.tables e below (T29.setTop (mkF m 160 #[.val (.int uc), .val (.int uk), .val (.int ud), .unset, .unset, .unset, .unset] [(.ref bb), (.ref bb)])) _
    refine XS.bipush X29.here hx rfl (hb hby at_160) ?_
    show Steps p.tables e below (T29.setTop (mkF m 162 #[.val (.int uc), .val (.int uk), .val (.int ud), .unset, .unset, .unset, .unset] [(.int (24 : Int32)), (.ref bb), (.ref bb)])) _
    refine X29.ldcInt hx hown (mvT hZ (hw _ (List.mem_of_getElem? (i := 4) rfl))) (g := (mkF m 162 #[.val (.int uc), .val (.int uk), .val (.int ud), .unset, .unset, .unset, .unset] [(.int (24 : Int32)), (.ref bb), (.ref bb)])) rfl (hb hby at_162) _ ?_
    show Steps p.tables e below (T29.setTop (mkF m 164 #[.val (.int uc), .val (.int uk), .val (.int ud), .unset, .unset, .unset, .unset] [(.int (65008 : Int32)), (.int (24 : Int32)), (.ref bb), (.ref bb)])) _
    refine st30 _ ?_
    show Steps p.tables e below (T30.setTop (mkF m 165 #[.val (.int uc), .val (.int uk), .val (.int ud), .unset, .unset, .unset, .unset] [(.ref bb)])) _
    refine XS.dup X30.here hx rfl (hb hby at_165) rfl rfl ?_
    show Steps p.tables e below (T30.setTop (mkF m 166 #[.val (.int uc), .val (.int uk), .val (.int ud), .unset, .unset, .unset, .unset] [(.ref bb), (.ref bb)])) _
    refine XS.bipush X30.here hx rfl (hb hby at_166) ?_
    show Steps p.tables e below (T30.setTop (mkF m 168 #[.val (.int uc), .val (.int uk), .val (.int ud), .unset, .unset, .unset, .unset] [(.int (25 : Int32)), (.ref bb), (.ref bb)])) _
    refine X30.ldcInt hx hown (mvT hZ (hw _ (List.mem_of_getElem? (i := 5) rfl))) (g := (mkF m 168 #[.val (.int uc), .val (.int uk), .val (.int ud), .unset, .unset, .unset, .unset] [(.int (25 : Int32)), (.ref bb), (.ref bb)])) rfl (hb hby at_168) _ ?_
    show Steps p.tables e below (T30.setTop (mkF m 170 #[.val (.int uc), .val (.int uk), .val (.int ud), .unset, .unset, .unset, .unset] [(.int (65533 : Int32)), (.int (25 : Int32)), (.ref bb), (.ref bb)])) _
    refine st31 _ ?_
    show Steps p.tables e below (T31.setTop (mkF m 171 #[.val (.int uc), .val (.int uk), .val (.int ud), .unset, .unset, .unset, .unset] [(.ref bb)])) _
    refine XS.dup X31.here hx rfl (hb hby at_171) rfl rfl ?_
    show Steps p.tables e below (T31.setTop (mkF m 172 #[.val (.int uc), .val (.int uk), .val (.int ud), .unset, .unset, .unset, .unset] [(.ref bb), (.ref bb)])) _
    refine XS.bipush X31.here hx rfl (hb hby at_172) ?_
    show Steps p.tables e below (T31.setTop (mkF m 174 #[.val (.int uc), .val (.int uk), .val (.int ud), .unset, .unset, .unset, .unset] [(.int (26 : Int32)), (.ref bb), (.ref bb)])) _
    refine X31.ldcInt hx hown (mvT hZ (hw _ (List.mem_of_getElem? (i := 6) rfl))) (g := (mkF m 174 #[.val (.int uc), .val (.int uk), .val (.int ud), .unset, .unset, .unset, .unset] [(.int (26 : Int32)), (.ref bb), (.ref bb)])) rfl (hb hby at_174) _ ?_
    show Steps p.tables e below (T31.setTop (mkF m 176 #[.val (.int uc), .val (.int uk), .val (.int ud), .unset, .unset, .unset, .unset] [(.int (65536 : Int32)), (.int (26 : Int32)), (.ref bb), (.ref bb)])) _
    refine st32 _ ?_
    show Steps p.tables e below (T32.setTop (mkF m 177 #[.val (.int uc), .val (.int uk), .val (.int ud), .unset, .unset, .unset, .unset] [(.ref bb)])) _
    refine XS.dup X32.here hx rfl (hb hby at_177) rfl rfl ?_
    show Steps p.tables e below (T32.setTop (mkF m 178 #[.val (.int uc), .val (.int uk), .val (.int ud), .unset, .unset, .unset, .unset] [(.ref bb), (.ref bb)])) _
    refine XS.bipush X32.here hx rfl (hb hby at_178) ?_
    show Steps p.tables e below (T32.setTop (mkF m 180 #[.val (.int uc), .val (.int uk), .val (.int ud), .unset, .unset, .unset, .unset] [(.int (27 : Int32)), (.ref bb), (.ref bb)])) _
    refine X32.ldcInt hx hown (mvT hZ (hw _ (List.mem_of_getElem? (i := 7) rfl))) (g := (mkF m 180 #[.val (.int uc), .val (.int uk), .val (.int ud), .unset, .unset, .unset, .unset] [(.int (27 : Int32)), (.ref bb), (.ref bb)])) rfl (hb hby at_180) _ ?_
    show Steps p.tables e below (T32.setTop (mkF m 182 #[.val (.int uc), .val (.int uk), .val (.int ud), .unset, .unset, .unset, .unset] [(.int (983039 : Int32)), (.int (27 : Int32)), (.ref bb), (.ref bb)])) _
    refine st33 _ ?_
    show Steps p.tables e below (T33.setTop (mkF m 183 #[.val (.int uc), .val (.int uk), .val (.int ud), .unset, .unset, .unset, .unset] [(.ref bb)])) _
    refine XS.astoreN X34.here hx rfl (hb hby at_183) rfl rfl (l' := #[.val (.int uc), .val (.int uk), .val (.int ud), .val (.ref bb), .unset, .unset, .unset]) rfl ?_
    show Steps p.tables e below (T33.setTop (mkF m 184 #[.val (.int uc), .val (.int uk), .val (.int ud), .val (.ref bb), .unset, .unset, .unset] [])) _
    refine XS.aloadN X34.here hx rfl (hb hby at_184) rfl rfl ?_
    show Steps p.tables e below (T33.setTop (mkF m 185 #[.val (.int uc), .val (.int uk), .val (.int ud), .val (.ref bb), .unset, .unset, .unset] [(.ref bb)])) _
    refine XS.iloadN X34.here hx rfl (hb hby at_185) rfl ?_
    show Steps p.tables e below (T33.setTop (mkF m 186 #[.val (.int uc), .val (.int uk), .val (.int ud), .val (.ref bb), .unset, .unset, .unset] [(.int uk), (.ref bb)])) _
    refine X34.ldcInt hx hown (mvT hZ (hw _ (List.mem_of_getElem? (i := 8) rfl))) (g := (mkF m 186 #[.val (.int uc), .val (.int uk), .val (.int ud), .val (.ref bb), .unset, .unset, .unset] [(.int uk), (.ref bb)])) rfl (hb hby at_186) _ ?_
    show Steps p.tables e below (T33.setTop (mkF m 188 #[.val (.int uc), .val (.int uk), .val (.int ud), .val (.ref bb), .unset, .unset, .unset] [(.int (2147483647 : Int32)), (.int uk), (.ref bb)])) _
    refine XS.iand X34.here hx rfl (hb hby at_188) rfl ?_
    show Steps p.tables e below (T33.setTop (mkF m 189 #[.val (.int uc), .val (.int uk), .val (.int ud), .val (.ref bb), .unset, .unset, .unset] [(.int (uk &&& (2147483647 : Int32))), (.ref bb)])) _
    refine XS.bipush X34.here hx rfl (hb hby at_189) ?_
    show Steps p.tables e below (T33.setTop (mkF m 191 #[.val (.int uc), .val (.int uk), .val (.int ud), .val (.ref bb), .unset, .unset, .unset] [(.int (28 : Int32)), (.int (uk &&& (2147483647 : Int32))), (.ref bb)])) _
    refine iremM X34 hx rfl (hb hby at_191) rfl (by decide) ?_
    show Steps p.tables e below (T33.setTop (mkF m 192 #[.val (.int uc), .val (.int uk), .val (.int ud), .val (.ref bb), .unset, .unset, .unset] [(.int ((uk &&& (2147483647 : Int32)) % (28 : Int32))), (.ref bb)])) _
    refine X34.iaload hx (j := ((uk &&& (2147483647 : Int32)) % (28 : Int32))) (v := (.int wv)) (by rw [e33]; exact Arz.1) (State.isArrayOf_alike hZ.alike Arz.2.1) Arz.2.2 hin hat (g := (mkF m 192 #[.val (.int uc), .val (.int uk), .val (.int ud), .val (.ref bb), .unset, .unset, .unset] [(.int ((uk &&& (2147483647 : Int32)) % (28 : Int32))), (.ref bb)])) rfl rfl (hb hby at_192) _ ?_
    show Steps p.tables e below (T33.setTop (mkF m 193 #[.val (.int uc), .val (.int uk), .val (.int ud), .val (.ref bb), .unset, .unset, .unset] [(.int wv)])) _
    refine XS.iloadN X34.here hx rfl (hb hby at_193) rfl ?_
    show Steps p.tables e below (T33.setTop (mkF m 194 #[.val (.int uc), .val (.int uk), .val (.int ud), .val (.ref bb), .unset, .unset, .unset] [(.int ud), (.int wv)])) _
    refine XS.iconst X34.here hx rfl (hb hby at_194) ?_
    show Steps p.tables e below (T33.setTop (mkF m 195 #[.val (.int uc), .val (.int uk), .val (.int ud), .val (.ref bb), .unset, .unset, .unset] [(.int (3 : Int32)), (.int ud), (.int wv)])) _
    refine iremM X34 hx rfl (hb hby at_195) rfl (by decide) ?_
    show Steps p.tables e below (T33.setTop (mkF m 196 #[.val (.int uc), .val (.int uk), .val (.int ud), .val (.ref bb), .unset, .unset, .unset] [(.int (ud % (3 : Int32))), (.int wv)])) _
    refine XS.iadd X34.here hx rfl (hb hby at_196) rfl ?_
    show Steps p.tables e below (T33.setTop (mkF m 197 #[.val (.int uc), .val (.int uk), .val (.int ud), .val (.ref bb), .unset, .unset, .unset] [(.int (wv + (ud % (3 : Int32))))])) _
    refine XS.istore X34.here hx rfl (hb hby at_197) rfl (l' := #[.val (.int uc), .val (.int uk), .val (.int ud), .val (.ref bb), .val (.int (wv + (ud % (3 : Int32)))), .unset, .unset]) rfl ?_
    show Steps p.tables e below (T33.setTop (mkF m 199 #[.val (.int uc), .val (.int uk), .val (.int ud), .val (.ref bb), .val (.int (wv + (ud % (3 : Int32)))), .unset, .unset] [])) _
    refine XS.iloadN X34.here hx rfl (hb hby at_199) rfl ?_
    show Steps p.tables e below (T33.setTop (mkF m 200 #[.val (.int uc), .val (.int uk), .val (.int ud), .val (.ref bb), .val (.int (wv + (ud % (3 : Int32)))), .unset, .unset] [(.int uc)])) _
    refine st35 _ ?_
    show Steps p.tables e below (T35.setTop (mkF m 203 #[.val (.int uc), .val (.int uk), .val (.int ud), .val (.ref bb), .val (.int (wv + (ud % (3 : Int32)))), .unset, .unset] [(.int (f1_0 uc))])) _
    refine XS.iloadN X35.here hx rfl (hb hby at_203) rfl ?_
    show Steps p.tables e below (T35.setTop (mkF m 204 #[.val (.int uc), .val (.int uk), .val (.int ud), .val (.ref bb), .val (.int (wv + (ud % (3 : Int32)))), .unset, .unset] [(.int uc), (.int (f1_0 uc))])) _
    refine st36 _ ?_
    show Steps p.tables e below (T36.setTop (mkF m 207 #[.val (.int uc), .val (.int uk), .val (.int ud), .val (.ref bb), .val (.int (wv + (ud % (3 : Int32)))), .unset, .unset] [(.int (f2_0 uc)), (.int (f1_0 uc))])) _
    refine sg207 _ ?_
    show Steps p.tables e below (T36.setTop (mkF m 215 #[.val (.int uc), .val (.int uk), .val (.int ud), .val (.ref bb), .val (.int (wv + (ud % (3 : Int32)))), .unset, .unset] [(.int (own_n1 uc uk ud wv)), (.int (f1_0 uc))])) _
    refine XS.icmpNo X36.here hx rfl (hb hby at_215) rfl (teq (own_eq uc)).2 ?_
    show Steps p.tables e below (T36.setTop (mkF m 218 #[.val (.int uc), .val (.int uk), .val (.int ud), .val (.ref bb), .val (.int (wv + (ud % (3 : Int32)))), .unset, .unset] [])) _
    refine XS.iconst X36.here hx rfl (hb hby at_218) ?_
    show Steps p.tables e below (T36.setTop (mkF m 219 #[.val (.int uc), .val (.int uk), .val (.int ud), .val (.ref bb), .val (.int (wv + (ud % (3 : Int32)))), .unset, .unset] [(.int (1 : Int32))])) _
    refine XS.goto X36.here hx rfl (pc0 := 219) (pc' := 223) rfl (hb hby at_219) (by decide) (by decide) ?_
    show Steps p.tables e below (T36.setTop (mkF m 223 #[.val (.int uc), .val (.int uk), .val (.int ud), .val (.ref bb), .val (.int (wv + (ud % (3 : Int32)))), .unset, .unset] [(.int (1 : Int32))])) _
    refine XS.istore X36.here hx rfl (hb hby at_223) rfl (l' := #[.val (.int uc), .val (.int uk), .val (.int ud), .val (.ref bb), .val (.int (wv + (ud % (3 : Int32)))), .val (.int (1 : Int32)), .unset]) rfl ?_
    show Steps p.tables e below (T36.setTop (mkF m 225 #[.val (.int uc), .val (.int uk), .val (.int ud), .val (.ref bb), .val (.int (wv + (ud % (3 : Int32)))), .val (.int (1 : Int32)), .unset] [])) _
    refine XS.iload X36.here hx rfl (hb hby at_225) rfl ?_
    show Steps p.tables e below (T36.setTop (mkF m 227 #[.val (.int uc), .val (.int uk), .val (.int ud), .val (.ref bb), .val (.int (wv + (ud % (3 : Int32)))), .val (.int (1 : Int32)), .unset] [(.int (wv + (ud % (3 : Int32))))])) _
    refine st37 _ ?_
    show Steps p.tables e below (T37.setTop (mkF m 230 #[.val (.int uc), .val (.int uk), .val (.int ud), .val (.ref bb), .val (.int (wv + (ud % (3 : Int32)))), .val (.int (1 : Int32)), .unset] [(.int (f1_0 (wv + (ud % (3 : Int32)))))])) _
    refine XS.iload X37.here hx rfl (hb hby at_230) rfl ?_
    show Steps p.tables e below (T37.setTop (mkF m 232 #[.val (.int uc), .val (.int uk), .val (.int ud), .val (.ref bb), .val (.int (wv + (ud % (3 : Int32)))), .val (.int (1 : Int32)), .unset] [(.int (wv + (ud % (3 : Int32)))), (.int (f1_0 (wv + (ud % (3 : Int32)))))])) _
    refine st38 _ ?_
    show Steps p.tables e below (T38.setTop (mkF m 235 #[.val (.int uc), .val (.int uk), .val (.int ud), .val (.ref bb), .val (.int (wv + (ud % (3 : Int32)))), .val (.int (1 : Int32)), .unset] [(.int (f2_0 (wv + (ud % (3 : Int32))))), (.int (f1_0 (wv + (ud % (3 : Int32)))))])) _
    refine sg235 _ ?_
    show Steps p.tables e below (T38.setTop (mkF m 243 #[.val (.int uc), .val (.int uk), .val (.int ud), .val (.ref bb), .val (.int (wv + (ud % (3 : Int32)))), .val (.int (1 : Int32)), .unset] [(.int (own_n2 uc uk ud wv)), (.int (f1_0 (wv + (ud % (3 : Int32)))))])) _
    refine XS.icmpNo X38.here hx rfl (hb hby at_243) rfl (teq (own_eq (wv + (ud % (3 : Int32))))).2 ?_
    show Steps p.tables e below (T38.setTop (mkF m 246 #[.val (.int uc), .val (.int uk), .val (.int ud), .val (.ref bb), .val (.int (wv + (ud % (3 : Int32)))), .val (.int (1 : Int32)), .unset] [])) _
    refine XS.iconst X38.here hx rfl (hb hby at_246) ?_
    show Steps p.tables e below (T38.setTop (mkF m 247 #[.val (.int uc), .val (.int uk), .val (.int ud), .val (.ref bb), .val (.int (wv + (ud % (3 : Int32)))), .val (.int (1 : Int32)), .unset] [(.int (1 : Int32))])) _
    refine XS.goto X38.here hx rfl (pc0 := 247) (pc' := 251) rfl (hb hby at_247) (by decide) (by decide) ?_
    show Steps p.tables e below (T38.setTop (mkF m 251 #[.val (.int uc), .val (.int uk), .val (.int ud), .val (.ref bb), .val (.int (wv + (ud % (3 : Int32)))), .val (.int (1 : Int32)), .unset] [(.int (1 : Int32))])) _
    refine XS.istore X38.here hx rfl (hb hby at_251) rfl (l' := #[.val (.int uc), .val (.int uk), .val (.int ud), .val (.ref bb), .val (.int (wv + (ud % (3 : Int32)))), .val (.int (1 : Int32)), .val (.int (1 : Int32))]) rfl ?_
    show Steps p.tables e below (T38.setTop (mkF m 253 #[.val (.int uc), .val (.int uk), .val (.int ud), .val (.ref bb), .val (.int (wv + (ud % (3 : Int32)))), .val (.int (1 : Int32)), .val (.int (1 : Int32))] [])) _
    refine XS.iload X38.here hx rfl (hb hby at_253) rfl ?_
    show Steps p.tables e below (T38.setTop (mkF m 255 #[.val (.int uc), .val (.int uk), .val (.int ud), .val (.ref bb), .val (.int (wv + (ud % (3 : Int32)))), .val (.int (1 : Int32)), .val (.int (1 : Int32))] [(.int (1 : Int32))])) _
    refine XS.ifNo X38.here hx rfl (hb hby at_255) rfl ((if0 _ _).trans (feq (by decide : ¬ ((1 : Int32) = (0 : Int32)))).1) ?_
    show Steps p.tables e below (T38.setTop (mkF m 258 #[.val (.int uc), .val (.int uk), .val (.int ud), .val (.ref bb), .val (.int (wv + (ud % (3 : Int32)))), .val (.int (1 : Int32)), .val (.int (1 : Int32))] [])) _
    refine XS.iload X38.here hx rfl (hb hby at_258) rfl ?_
    show Steps p.tables e below (T38.setTop (mkF m 260 #[.val (.int uc), .val (.int uk), .val (.int ud), .val (.ref bb), .val (.int (wv + (ud % (3 : Int32)))), .val (.int (1 : Int32)), .val (.int (1 : Int32))] [(.int (1 : Int32))])) _
    refine XS.ifNo X38.here hx rfl (hb hby at_260) rfl ((if0 _ _).trans (feq (by decide : ¬ ((1 : Int32) = (0 : Int32)))).1) ?_
    show Steps p.tables e below (T38.setTop (mkF m 263 #[.val (.int uc), .val (.int uk), .val (.int ud), .val (.ref bb), .val (.int (wv + (ud % (3 : Int32)))), .val (.int (1 : Int32)), .val (.int (1 : Int32))] [])) _
    refine XS.iconst X38.here hx rfl (hb hby at_263) ?_
    show Steps p.tables e below (T38.setTop (mkF m 264 #[.val (.int uc), .val (.int uk), .val (.int ud), .val (.ref bb), .val (.int (wv + (ud % (3 : Int32)))), .val (.int (1 : Int32)), .val (.int (1 : Int32))] [(.int (1 : Int32))])) _
    refine XS.goto X38.here hx rfl (pc0 := 264) (pc' := 268) rfl (hb hby at_264) (by decide) (by decide) ?_
    show Steps p.tables e below (T38.setTop (mkF m 268 #[.val (.int uc), .val (.int uk), .val (.int ud), .val (.ref bb), .val (.int (wv + (ud % (3 : Int32)))), .val (.int (1 : Int32)), .val (.int (1 : Int32))] [(.int (1 : Int32))])) _
    exact retN X38 hx (t := .boolean) Bd.returns (by simp) (hb hby at_268) hr
  · show Q0 Z uc uk ud h0 n0 _ T38.heap _
    rw [e38q]
    exact ⟨rfl, N38⟩
set_option maxRecDepth 65536 in
set_option maxHeartbeats 40000000 in
theorem comes_1 {Post : Tables → Env → Array Value → State → Outcome → State → Prop} (hpost : ∀ tb e args s v u, (limb_1_1.after args s (.returned v) u = true ∧ limb_1_2.after args s (.returned v) u = true ∧ True) → FrameEnd s (.returned v) u (Jvm.fieldLocs frame_1_writes args s ++ Jvm.arrayLocs frame_1_arrays args s ++ Jvm.staticLocs frame_1_statics s) 16 128 → Post tb e args s (.returned v) u) :
    ArmFor flags0 classFile x code maxLocals ret World_1 tables_1 room_1 Calls_1 rest_1 Pre_1 Post := by
  intro l hfl _ _ p e ha hc hk s m args below hf hA hF happ hP
  obtain ⟨hcalls, hrest, hpre⟩ := hP
  obtain ⟨-, -, -, hnamed, -, -, -, hat⟩ := (Spec.applies_iff hf).mp happ
  obtain ⟨hg, hn⟩ := and_e (Cond.before_iff.mp (show (Jvm.Cond.and given_1 narrow_1).before args s = true from hpre))
  obtain ⟨h1, r0⟩ := and_e hg
  obtain ⟨g0, r1⟩ := and_e r0
  obtain ⟨g1, r2⟩ := and_e r1
  obtain ⟨w0, w1, w2, rfl⟩ : ∃ w0 w1 w2 : Value, args = #[w0, w1, w2] := by
    have hs : args.size = 3 := by simpa [Cond.value, given_1] using h1
    obtain ⟨L⟩ := args
    match L, hs with
    | [w0, w1, w2], _ => exact ⟨w0, w1, w2, rfl⟩
  have hw := fun d (hd : d ∈ tables_1) => atoms_spec (ws := Jvm.Cond.code x code maxLocals ret :: tables_1) hat d (List.mem_cons_of_mem _ hd)
  obtain ⟨i0, ei0⟩ := is_v g0
  obtain rfl : w0 = (.int i0) := Option.some.inj ei0
  obtain ⟨i1, ei1⟩ := is_v g1
  obtain rfl : w1 = (.int i1) := Option.some.inj ei1
  obtain ⟨i2, ei2⟩ := is_v r2
  obtain rfl : w2 = (.int i2) := Option.some.inj ei2
  obtain ⟨n, o, h1, h2, h3, _, L, rfl, ⟨rfl, N⟩, hq⟩ := rm0 l s _ hw tables_1 i0 i1 i2 s.heap s.heap.size (Nat.le_refl _) p e ha hc hk s m _ below hf ((Spec.applies_iff_loose hf).mp happ).1 ⟨rfl, State.Warmed39.refl s, rfl⟩ trivial
  refine ⟨n, _, h1, h2, h3, hpost _ _ _ _ _ _ ⟨Cond.after_iff.mpr rfl, Cond.after_iff.mpr (eq_i res_at (Term.int_eval (1)) rfl), trivial⟩ ⟨hq.1, hq.2.1, (hq.2.2.sift fun y hy => Or.inr (N y hy)).mono (by decide) (by decide)⟩⟩
theorem main_1_1 : Claimed_1_1 := comes_1 fun _ _ _ _ _ _ h hF => ⟨h.1, hF⟩
theorem main_1_2 : Claimed_1_2 := comes_1 fun _ _ _ _ _ _ h hF => ⟨h.2.1, hF⟩
end Jvm.Pilot.@@N@@
namespace Jvm.Pilot.@@N@@
open Jvm Jvm.ClassFile Sem Op Lib Jvm.Free Jvm.Stand Jvm.Pilot.@@N@@.Jvm.D
/-! MADE BY PROGRAM (witnessworld.py) out of the Statement's table words and the real class files: 9 classes; the members and pool entries that the words name. The judged class is class 1, her method 2. -/
namespace start1
open Jvm.ClassFile
def u (s : String) : CpInfo := .utf8 (stringToUtf16 s)
/-- a pool by its gaps: so many unusable entries, then the entry; so many at the end -/
def gap : Nat → List CpInfo → List CpInfo
  | 0, r => r
  | n + 1, r => .unusable :: gap n r
def poolList (es : List (Nat × CpInfo)) (last : Nat) : List CpInfo := es.foldr (fun e r => gap e.1 (e.2 :: r)) (gap last [])
def pool (es : List (Nat × CpInfo)) (last : Nat) : Array CpInfo := ⟨poolList es last⟩
def fileOf (pool : Array CpInfo) (this : Nat) (attrs : Array Attribute := #[]) (ms : Array MethodInfo := #[]) (fl : Nat := 33) (sup : Nat := 0) (ifs : Array Nat := #[]) (fds : Array FieldInfo := #[]) : ClassFile where
  minorVersion := 0
  majorVersion := 65
  constantPool := pool
  accessFlags := fl
  thisClass := this
  superClass := sup
  interfaces := ifs
  fields := fds
  methods := ms
  attributes := attrs
def plain (name : String) (sup : Option ClassId) : Class where
  name := name
  kind := .ordinary
  loader := none
  accessFlags := 33
  super := sup
  interfaces := #[]
  cf := none
  fields := #[]
  methods := #[]
  instanceTypes := #[]
  staticTypes := #[]
  resolved := #[]
  callSites := []
  init := .initialized
  statics := none
  mirror := none

def pool0 : Array CpInfo := pool [(5, u "<init>"), (0, u "()V"), (1, .class_ 10), (1, u "java/lang/Object")] 113

def k0m0 : Method := { name := "<init>", desc := "()V", sig := { parameters := [], returnType := none }, accessFlags := 1, code := none }
/-- java/lang/Object -/
def k0 : Class := { plain "java/lang/Object" none with
  accessFlags := 33
  interfaces := #[]
  cf := some (fileOf pool0 8 #[] #[{ accessFlags := 1, nameIndex := 5, descriptorIndex := 6, attributes := #[] }] 33 0 #[] #[])
  fields := #[]
  methods := #[k0m0]
  instanceTypes := #[]
  staticTypes := #[]
  resolved := Array.replicate 124 none
  statics := none }

def pool1 : Array CpInfo := pool [(2, .class_ 4), (1, u "java/lang/Object"), (0, u "<init>"), (0, u "()V"), (0, .integer 55296), (0, .integer 63743), (0, .integer 64976), (0, .integer 65007), (0, .integer 65534), (0, .integer 65535), (0, .integer 983039), (0, .integer 55295), (0, .integer 63744), (0, .integer 64975), (0, .integer 65008), (0, .integer 65533), (0, .integer 65536), (0, .integer 2147483647), (0, .methodref 22 23), (0, .class_ 24), (0, .nameAndType 25 26), (0, u "com/example/triskel/triskel/ntriples/TerminalReader"), (0, u "isBaseCharacter"), (0, u "(I)Z"), (0, .methodref 28 29), (0, .class_ 30), (0, .nameAndType 31 26), (0, u "com/example/triskel/triskel/ntriples/TerminalReaderIsBaseCharacterPinLaw"), (0, u "excluded"), (3, u "law"), (0, u "(III)Z")] 4

def k1m0 : Method := { name := "<init>", desc := "()V", sig := { parameters := [], returnType := none }, accessFlags := 1, code := none }
def k1c1 : Code := { maxStack := 2, maxLocals := 1, code := method_2_code, exceptionTable := #[], attributes := #[] }
def k1m1 : Method := { name := "excluded", desc := "(I)Z", sig := { parameters := [.int], returnType := some .boolean }, accessFlags := 10, code := some k1c1 }
def k1c2 : Code := { maxStack := 4, maxLocals := 7, code := code, exceptionTable := #[], attributes := #[] }
def k1m2 : Method := { name := "law", desc := "(III)Z", sig := { parameters := [.int, .int, .int], returnType := some .boolean }, accessFlags := 9, code := some k1c2 }
/-- com/example/triskel/triskel/ntriples/TerminalReaderIsBaseCharacterPinLaw -/
def k1 : Class := { plain "com/example/triskel/triskel/ntriples/TerminalReaderIsBaseCharacterPinLaw" (some 0) with
  accessFlags := 49
  interfaces := #[]
  cf := some (fileOf pool1 28 #[] #[{ accessFlags := 1, nameIndex := 5, descriptorIndex := 6, attributes := #[] }, { accessFlags := 10, nameIndex := 31, descriptorIndex := 26, attributes := #[] }, { accessFlags := 9, nameIndex := 35, descriptorIndex := 36, attributes := #[] }] 49 2 #[] #[])
  fields := #[]
  methods := #[k1m0, k1m1, k1m2]
  instanceTypes := #[]
  staticTypes := #[]
  resolved := Array.replicate 41 none
  statics := none }

def pool2 : Array CpInfo := pool [(4, .class_ 6), (1, u "java/lang/Object"), (6, .class_ 15), (1, u "com/example/triskel/triskel/ntriples/TerminalReader"), (0, u "text"), (0, u "Lcom/example/triskel/triskel/ntriples/Utf8Text;"), (5, u "input"), (0, u "Lcom/example/triskel/triskel/ntriples/Utf8Input;"), (2, u "givenBack"), (0, u "Ljava/lang/String;"), (6, u "givenBackIndex"), (0, u "I"), (19, u "DOUBLE_QUOTED_RUN"), (0, u "[Z"), (2, u "SINGLE_QUOTED_RUN"), (9, u "givenBackColumn"), (29, u "(I)Z"), (14, u "IRI_RUN"), (116, u "NAME_RUN"), (20, u "LABEL_START_ASCII"), (2, u "isBaseCharacter"), (2, u "LABEL_ASCII"), (0, .integer 55295), (0, .integer 63744), (0, .integer 64975), (0, .integer 65008), (0, .integer 65533), (0, .integer 65536), (0, .integer 983039), (26, u "END")] 74

def k2c0 : Code := { maxStack := 2, maxLocals := 1, code := prog_35_method_29_code, exceptionTable := #[], attributes := #[] }
def k2m0 : Method := { name := "isBaseCharacter", desc := "(I)Z", sig := { parameters := [.int], returnType := some .boolean }, accessFlags := 9, code := some k2c0 }
/-- com/example/triskel/triskel/ntriples/TerminalReader -/
def k2 : Class := { plain "com/example/triskel/triskel/ntriples/TerminalReader" (some 0) with
  accessFlags := 49
  interfaces := #[]
  cf := some (fileOf pool2 13 #[] #[{ accessFlags := 9, nameIndex := 256, descriptorIndex := 100, attributes := #[] }] 49 4 #[] #[{ accessFlags := 25, nameIndex := 293, descriptorIndex := 36, attributes := #[] }, { accessFlags := 26, nameIndex := 115, descriptorIndex := 57, attributes := #[] }, { accessFlags := 26, nameIndex := 56, descriptorIndex := 57, attributes := #[] }, { accessFlags := 26, nameIndex := 60, descriptorIndex := 57, attributes := #[] }, { accessFlags := 26, nameIndex := 253, descriptorIndex := 57, attributes := #[] }, { accessFlags := 26, nameIndex := 259, descriptorIndex := 57, attributes := #[] }, { accessFlags := 26, nameIndex := 232, descriptorIndex := 57, attributes := #[] }, { accessFlags := 18, nameIndex := 23, descriptorIndex := 24, attributes := #[] }, { accessFlags := 18, nameIndex := 16, descriptorIndex := 17, attributes := #[] }, { accessFlags := 2, nameIndex := 27, descriptorIndex := 28, attributes := #[] }, { accessFlags := 2, nameIndex := 35, descriptorIndex := 36, attributes := #[] }, { accessFlags := 2, nameIndex := 70, descriptorIndex := 36, attributes := #[] }])
  fields := #[{ name := "END", type := .int, accessFlags := 25, slot := 0, constantValue := 0 }, { name := "IRI_RUN", type := (.array .boolean), accessFlags := 26, slot := 1, constantValue := 0 }, { name := "DOUBLE_QUOTED_RUN", type := (.array .boolean), accessFlags := 26, slot := 2, constantValue := 0 }, { name := "SINGLE_QUOTED_RUN", type := (.array .boolean), accessFlags := 26, slot := 3, constantValue := 0 }, { name := "LABEL_START_ASCII", type := (.array .boolean), accessFlags := 26, slot := 4, constantValue := 0 }, { name := "LABEL_ASCII", type := (.array .boolean), accessFlags := 26, slot := 5, constantValue := 0 }, { name := "NAME_RUN", type := (.array .boolean), accessFlags := 26, slot := 6, constantValue := 0 }, { name := "input", type := (.object "com/example/triskel/triskel/ntriples/Utf8Input"), accessFlags := 18, slot := 0, constantValue := 0 }, { name := "text", type := (.object "com/example/triskel/triskel/ntriples/Utf8Text"), accessFlags := 18, slot := 1, constantValue := 0 }, { name := "givenBack", type := (.object "java/lang/String"), accessFlags := 2, slot := 2, constantValue := 0 }, { name := "givenBackIndex", type := .int, accessFlags := 2, slot := 3, constantValue := 0 }, { name := "givenBackColumn", type := .int, accessFlags := 2, slot := 4, constantValue := 0 }]
  methods := #[k2m0]
  instanceTypes := #[(.object "com/example/triskel/triskel/ntriples/Utf8Input"), (.object "com/example/triskel/triskel/ntriples/Utf8Text"), (.object "java/lang/String"), .int, .int]
  staticTypes := #[.int, (.array .boolean), (.array .boolean), (.array .boolean), (.array .boolean), (.array .boolean), (.array .boolean)]
  resolved := Array.replicate 368 none
  statics := none }

def pool3 : Array CpInfo := pool [(1, u "java/lang/Cloneable"), (0, .class_ 1), (0, u "java/lang/Object"), (0, .class_ 3)] 3

/-- java/lang/Cloneable -/
def k3 : Class := { plain "java/lang/Cloneable" (some 0) with
  accessFlags := 1537
  interfaces := #[]
  cf := some (fileOf pool3 2 #[] #[] 1537 4 #[] #[])
  fields := #[]
  methods := #[]
  instanceTypes := #[]
  staticTypes := #[]
  resolved := Array.replicate 8 none
  statics := none }

def pool4 : Array CpInfo := pool [(1, u "java/io/Serializable"), (0, .class_ 1), (0, u "java/lang/Object"), (0, .class_ 3)] 3

/-- java/io/Serializable -/
def k4 : Class := { plain "java/io/Serializable" (some 0) with
  accessFlags := 1537
  interfaces := #[]
  cf := some (fileOf pool4 2 #[] #[] 1537 4 #[] #[])
  fields := #[]
  methods := #[]
  instanceTypes := #[]
  staticTypes := #[]
  resolved := Array.replicate 8 none
  statics := none }

/-- the primitive byte -/
def k5 : Class := { plain "byte" none with kind := .primitive 'B', accessFlags := 0x411 }
/-- [B -/
def k6 : Class := { plain "[B" (some 0) with kind := .array 5 .byte, interfaces := #[3, 4], accessFlags := 1041 }

/-- the primitive int -/
def k7 : Class := { plain "int" none with kind := .primitive 'I', accessFlags := 0x411 }
/-- [I -/
def k8 : Class := { plain "[I" (some 0) with kind := .array 7 .int, interfaces := #[3, 4], accessFlags := 1041 }

def heap : Heap := #[]
def classes : Array Class := #[k0, k1, k2, k3, k4, k5, k6, k7, k8]
def interned : List (Array UInt16 × Addr) := []
def slotsUsed : Nat := 0
def theMethod : MethodId := ⟨1, 2⟩
def args0 : Array Value := #[.int 70, .int 7, .int 1]
def aboutOver (below : List Frame) : State where
  vm := { classes := classes, interned := interned.toArray }
  heap := heap
  slotsUsed := slotsUsed
  threads := #[{ frames := .invoking theMethod args0 :: below }]
def below0 : List Frame := [.native { method := ⟨0, 0⟩, args := #[] }]
def about1 : State := aboutOver below0
def p0 : Program := .bare "" "" ""
def e0 : Env := launch0.env 0 0 0
theorem w_frames : about1.frames = Frame.invoking theMethod args0 :: below0 := rfl
set_option maxRecDepth 65536 in
theorem w_args : argsFit about1.vm theMethod args0 = true := by decide +kernel
set_option maxRecDepth 65536 in
theorem w_heap : heapFits about1 = true := by decide +kernel
set_option maxRecDepth 65536 in
theorem w_runnable : about1.curStatus? = some .runnable := by decide +kernel
set_option maxRecDepth 65536 in
theorem w_alone : about1.alone = true := by decide +kernel
set_option maxRecDepth 65536 in
theorem w_named : about1.methodNamed? x = some theMethod := by decide +kernel
set_option maxRecDepth 65536 in
theorem w_hears : about1.hears theMethod below0 = true := by decide +kernel
set_option maxRecDepth 65536 in
theorem w_ripe : about1.ripe theMethod args0 below0 = true := by decide +kernel
theorem w_running : about1.status = .running := rfl
set_option maxRecDepth 65536 in
theorem w_room : about1.hasRoom e0.platform room_1 = true :=
  launch0.hasRoom_least _ room_1 (by decide +kernel) (by decide +kernel) (by decide +kernel) (by decide +kernel) (by decide +kernel) (by decide +kernel)
theorem allAtoms_all (ts : List Jvm.Cond) (a : Array Jvm.Value) (st : Jvm.State) : (allAtoms ts).before a st = ts.all (fun c => c.before a st) := by
  induction ts with
  | nil => rfl
  | cons c t ih =>
    show (Jvm.Cond.and c (allAtoms t)).before a st = _
    rw [Jvm.Cond.before_and, ih, List.all_cons]
def words1 : List Jvm.Cond := Jvm.Cond.code x code maxLocals ret :: tables_1
/-- a 'code' word, met by the world's own term for the bytes: nothing is compared byte by byte -/
theorem code_word {y : MethodName} {bytes : ByteArray} {mx : Nat} {rt : Option FieldType} {a : Array Value} {s : State} {m : MethodId} {meth : Method} {c : Code} (h1 : s.methodNamed? y = some m) (h2 : s.vm.method? m = some meth) (h3 : meth.code = some c) (h4 : c.code = bytes)
    (h5 : (c.maxLocals == mx && c.exceptionTable.isEmpty && decide (c.maxStack ≤ mostOperands) && decide (meth.sig.returnType = rt) && !meth.locks && decide (parseMethodDescriptor y.desc = some meth.sig)) = true) : (Jvm.Cond.code y bytes mx rt).before a s = true := by
  simp only [Bool.and_eq_true, beq_iff_eq, Bool.not_eq_true', decide_eq_true_eq] at h5
  obtain ⟨⟨⟨⟨⟨g1, g2⟩, g3⟩, g4⟩, g5⟩, g6⟩ := h5
  simp [Cond.before, Cond.holds, Cond.value, h1, h2, h3, h4, g1, g2, g3, g4, g5, g6]
def isCode : Jvm.Cond → Bool
  | .code _ _ _ _ => true
  | _ => false
theorem all_split {L : List Jvm.Cond} {P : Jvm.Cond → Bool} (h1 : L.all (fun c => isCode c || P c) = true) (h2 : ∀ c ∈ L.filter isCode, P c = true) : L.all P = true := by
  refine List.all_eq_true.mpr fun c hc => ?_
  have h := List.all_eq_true.mp h1 c hc
  rcases Bool.eq_false_or_eq_true (isCode c) with hi | hi
  · exact h2 c (List.mem_filter.mpr ⟨hc, hi⟩)
  · simpa [hi] using h
set_option maxRecDepth 65536 in
theorem w_c0 : (Jvm.Cond.code x code maxLocals ret).before args0 about1 = true := code_word (m := ⟨1, 2⟩) (meth := k1m2) (c := k1c2) (by decide +kernel) rfl rfl rfl (by decide +kernel)
set_option maxRecDepth 65536 in
theorem w_c1 : (Jvm.Cond.code ({ cls := "com/example/triskel/triskel/ntriples/TerminalReader", name := "isBaseCharacter", desc := "(I)Z" } : Jvm.MethodName) prog_35_method_29_code (1 : Nat) (Option.some Jvm.ClassFile.FieldType.boolean)).before args0 about1 = true := code_word (m := ⟨2, 0⟩) (meth := k2m0) (c := k2c0) (by decide +kernel) rfl rfl rfl (by decide +kernel)
set_option maxRecDepth 65536 in
theorem w_c2 : (Jvm.Cond.code ({ cls := "com/example/triskel/triskel/ntriples/TerminalReaderIsBaseCharacterPinLaw", name := "excluded", desc := "(I)Z" } : Jvm.MethodName) method_2_code (1 : Nat) (Option.some Jvm.ClassFile.FieldType.boolean)).before args0 about1 = true := code_word (m := ⟨1, 1⟩) (meth := k1m1) (c := k1c1) (by decide +kernel) rfl rfl rfl (by decide +kernel)
def codes1 : List Jvm.Cond := [Jvm.Cond.code x code maxLocals ret, Jvm.Cond.code ({ cls := "com/example/triskel/triskel/ntriples/TerminalReader", name := "isBaseCharacter", desc := "(I)Z" } : Jvm.MethodName) prog_35_method_29_code (1 : Nat) (Option.some Jvm.ClassFile.FieldType.boolean), Jvm.Cond.code ({ cls := "com/example/triskel/triskel/ntriples/TerminalReaderIsBaseCharacterPinLaw", name := "excluded", desc := "(I)Z" } : Jvm.MethodName) method_2_code (1 : Nat) (Option.some Jvm.ClassFile.FieldType.boolean)]
set_option maxRecDepth 65536 in
theorem codes_eq : words1.filter isCode = codes1 := rfl
theorem w_codes : ∀ c ∈ words1.filter isCode, c.before args0 about1 = true := by
  rw [codes_eq]
  intro c hc
  simp only [codes1, List.mem_cons, List.not_mem_nil, or_false] at hc
  rcases hc with rfl | rfl | rfl
  · exact w_c0
  · exact w_c1
  · exact w_c2
set_option maxRecDepth 65536 in
theorem w_t1 : (words1.take 24).all (fun c => isCode c || c.before args0 about1) = true := by decide +kernel
set_option maxRecDepth 65536 in
theorem w_t2 : (words1.drop 24).all (fun c => isCode c || c.before args0 about1) = true := by decide +kernel
theorem w_tables : (allAtoms (Jvm.Cond.code x code maxLocals ret :: tables_1)).before args0 about1 = true := by
  rw [allAtoms_all]
  show words1.all (fun c => c.before args0 about1) = true
  refine all_split ?_ w_codes
  rw [← List.take_append_drop 24 words1, List.all_append, w_t1, w_t2]
  rfl
set_option maxRecDepth 65536 in
theorem w_case : (Jvm.Cond.and given_1 narrow_1).before args0 about1 = true := by decide +kernel
theorem w_applies : (headSpec (Jvm.Cond.code x code maxLocals ret :: tables_1) room_1).applies x e0.platform about1 = true :=
  (Spec.applies_iff w_frames).mpr ⟨w_running, w_runnable, w_alone, w_named, w_hears, w_ripe, w_room, w_tables⟩
theorem atStart : AtStart classFile x code maxLocals ret World_1 tables_1 room_1 Calls_1 rest_1 Pre_1 launch0 p0 e0 about1 theMethod args0 below0 :=
  ⟨lists_1, trivial, launch0.admits_env _ _ _, launch0.least_env, fairChoices_fair.cas, fairChoices_fair.clock, w_frames, w_args, w_heap, w_applies, trivial, trivial, w_case⟩
end start1
theorem witness_1 : WitnessClaimed_1 := ⟨start1.p0, start1.e0, start1.about1, start1.theMethod, start1.args0, start1.below0, start1.atStart⟩
end Jvm.Pilot.@@N@@
