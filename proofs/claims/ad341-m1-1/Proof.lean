import JvmDerived
import JvmDerived.Pilot.@@N@@Statement
import JvmDerived.Pilot.@@N@@Code
set_option linter.unusedVariables false
set_option linter.unusedSimpArgs false
namespace Jvm.RoadKit
open Sem ClassFile Op Lib Jvm.Stand Jvm.Free Jvm.LawKit
section New
variable {p : Program} {l : Launch} {e : Env} {R : Room} {s : State} {m : MethodId} {args : Array Value} {below : List Frame} {meth : Method} {c : Code} {T : State} {locs : List Loc} {cells slots : Nat}
theorem retI (X : Stand p l e R s m args below meth c T locs cells slots) (hx : p.tables.exec = Jvm.exec) {pc : Nat} {Ls : Array Slot} {z : Int32} {rest : List Value} (hret : meth.sig.returnType = some .int) (hd : decode c.code pc = .ok (.ireturn, 1)) {fs : List Frame}
    (hl : ∀ (f : JFrame) (acts : List Action), f.method = m → f.locked = none → f.entered = [] → (doReturn e (T.setTop f) acts (some (.int z))).1 = T.setFrames fs) : Steps p.tables e below (T.setTop (mkF m pc Ls (.int z :: rest))) (T.setFrames fs) := by
  have hm' : T.vm.method? m = some meth := X.method'
  have hn : narrow .int (.int z) = .int z := rfl
  show Steps p.tables e below (T.setTop { method := m, pc := pc, locals := Ls, stack := _ :: rest, locked := none }) _
  jvm_step X.here [X.here.top, hx, hd, hm', hret, hn]
  first | (intro acts; rw [hl _ acts rfl rfl rfl]) | rw [hl _ _ rfl rfl rfl]
  exact Steps.refl _
end New
end Jvm.RoadKit
namespace Jvm.Pilot.@@N@@
open Jvm Jvm.ClassFile Sem Op Lib Jvm.Free Jvm.Stand Jvm.LawKit Jvm.RoadKit Bundle Jvm.Pilot.@@N@@.Jvm.D
/-- what the return with the value v leads to -/
def own_RetTo (e : Env) (T : State) (m : MethodId) (v : Option Value) (fs : List Frame) : Prop := ∀ (f : JFrame) (acts : List Action), f.method = m → f.locked = none → f.entered = [] → (doReturn e (T.setTop f) acts v).1 = T.setFrames fs
def f1_0 (u0 : Int32) (u1 : Int32) : Int32 := (if u0 < (32 : Int32) then (if u0 = (9 : Int32) then (0 : Int32) else (if u0 = (10 : Int32) then (0 : Int32) else (1 : Int32))) else (if u0 = (32 : Int32) then (if u1 = (32 : Int32) then (1 : Int32) else (0 : Int32)) else (if u0 = (92 : Int32) then (1 : Int32) else (if u0 < (127 : Int32) then (if u0 < (65534 : Int32) then (0 : Int32) else (1 : Int32)) else (if (159 : Int32) < u0 then (if u0 < (65534 : Int32) then (0 : Int32) else (1 : Int32)) else (1 : Int32))))))
theorem d1_0 : decode prog_165_method_2_code 0 = .ok (.iload_n 0, 1) := by decide +kernel
theorem d1_1 : decode prog_165_method_2_code 1 = .ok (.bipush 32, 2) := by decide +kernel
theorem d1_3 : decode prog_165_method_2_code 3 = .ok (.if_icmp .ge 21, 3) := by decide +kernel
theorem d1_6 : decode prog_165_method_2_code 6 = .ok (.iload_n 0, 1) := by decide +kernel
theorem d1_7 : decode prog_165_method_2_code 7 = .ok (.bipush 9, 2) := by decide +kernel
theorem d1_9 : decode prog_165_method_2_code 9 = .ok (.if_icmp .eq 13, 3) := by decide +kernel
theorem d1_12 : decode prog_165_method_2_code 12 = .ok (.iload_n 0, 1) := by decide +kernel
theorem d1_13 : decode prog_165_method_2_code 13 = .ok (.bipush 10, 2) := by decide +kernel
theorem d1_15 : decode prog_165_method_2_code 15 = .ok (.if_icmp .eq 7, 3) := by decide +kernel
theorem d1_18 : decode prog_165_method_2_code 18 = .ok (.iconst 1, 1) := by decide +kernel
theorem d1_19 : decode prog_165_method_2_code 19 = .ok (.goto 4, 3) := by decide +kernel
theorem d1_22 : decode prog_165_method_2_code 22 = .ok (.iconst 0, 1) := by decide +kernel
theorem d1_23 : decode prog_165_method_2_code 23 = .ok (.ireturn, 1) := by decide +kernel
theorem d1_24 : decode prog_165_method_2_code 24 = .ok (.iload_n 0, 1) := by decide +kernel
theorem d1_25 : decode prog_165_method_2_code 25 = .ok (.bipush 32, 2) := by decide +kernel
theorem d1_27 : decode prog_165_method_2_code 27 = .ok (.if_icmp .ne 15, 3) := by decide +kernel
theorem d1_30 : decode prog_165_method_2_code 30 = .ok (.iload_n 1, 1) := by decide +kernel
theorem d1_31 : decode prog_165_method_2_code 31 = .ok (.bipush 32, 2) := by decide +kernel
theorem d1_33 : decode prog_165_method_2_code 33 = .ok (.if_icmp .ne 7, 3) := by decide +kernel
theorem d1_36 : decode prog_165_method_2_code 36 = .ok (.iconst 1, 1) := by decide +kernel
theorem d1_37 : decode prog_165_method_2_code 37 = .ok (.goto 4, 3) := by decide +kernel
theorem d1_40 : decode prog_165_method_2_code 40 = .ok (.iconst 0, 1) := by decide +kernel
theorem d1_41 : decode prog_165_method_2_code 41 = .ok (.ireturn, 1) := by decide +kernel
theorem d1_42 : decode prog_165_method_2_code 42 = .ok (.iload_n 0, 1) := by decide +kernel
theorem d1_43 : decode prog_165_method_2_code 43 = .ok (.bipush 92, 2) := by decide +kernel
theorem d1_45 : decode prog_165_method_2_code 45 = .ok (.if_icmp .eq 22, 3) := by decide +kernel
theorem d1_48 : decode prog_165_method_2_code 48 = .ok (.iload_n 0, 1) := by decide +kernel
theorem d1_49 : decode prog_165_method_2_code 49 = .ok (.bipush 127, 2) := by decide +kernel
theorem d1_51 : decode prog_165_method_2_code 51 = .ok (.if_icmp .lt 10, 3) := by decide +kernel
theorem d1_54 : decode prog_165_method_2_code 54 = .ok (.iload_n 0, 1) := by decide +kernel
theorem d1_55 : decode prog_165_method_2_code 55 = .ok (.sipush 159, 3) := by decide +kernel
theorem d1_58 : decode prog_165_method_2_code 58 = .ok (.if_icmp .le 9, 3) := by decide +kernel
theorem d1_61 : decode prog_165_method_2_code 61 = .ok (.iload_n 0, 1) := by decide +kernel
theorem d1_62 : decode prog_165_method_2_code 62 = .ok (.ldc 9, 2) := by decide +kernel
theorem d1_64 : decode prog_165_method_2_code 64 = .ok (.if_icmp .lt 7, 3) := by decide +kernel
theorem d1_67 : decode prog_165_method_2_code 67 = .ok (.iconst 1, 1) := by decide +kernel
theorem d1_68 : decode prog_165_method_2_code 68 = .ok (.goto 4, 3) := by decide +kernel
theorem d1_71 : decode prog_165_method_2_code 71 = .ok (.iconst 0, 1) := by decide +kernel
theorem d1_72 : decode prog_165_method_2_code 72 = .ok (.ireturn, 1) := by decide +kernel
theorem pn_0 : plainName "com/example/tabularium/tabularium/siard/TextEscapes" = true := by first | (simp [plainName, overriddenIn]; done) | decide +kernel
theorem ef_1 (m : MethodId) (x0 : Int32) (x1 : Int32) : entryFrame m #[(.int x0), (.int x1)] 2 = mkF m 0 #[.val (.int x0), .val (.int x1)] [] := by first | (simp [entryFrame, mkF, argsToLocals, Value.category]; done) | rfl
def Q1 (Z : State) (u0 : Int32) (u1 : Int32) (h0 : Heap) (n0 : Nat) (v : Option Value) (h : Heap) (L : List Loc) : Prop := v = some (.int (f1_0 u0 u1)) ∧ Fr n0 L ∧ h = h0
set_option maxRecDepth 65536 in
set_option maxHeartbeats 40000000 in
theorem rm1 (l : Launch) (Z : State) (a0 : Array Value) (hw : ∀ d ∈ tables_1, d.before a0 Z = true) (ws : List Jvm.Cond) (u0 : Int32) (u1 : Int32) (h0 : Heap) (n0 : Nat) :
    MetFree l (⟨"com/example/tabularium/tabularium/siard/TextEscapes", "escaped", "(CC)Z"⟩ : MethodName) (head1 (Jvm.Cond.code (⟨"com/example/tabularium/tabularium/siard/TextEscapes", "escaped", "(CC)Z"⟩ : MethodName) prog_165_method_2_code 2 (some .boolean) :: ws) ({ frames := 0, cells := 0, slots := 0, locals := 0 } : Room)) (fun a U => a = #[(.int u0), (.int u1)] ∧ Z.Warmed39 U.vm ∧ U.heap = h0) (fun _ _ _ _ _ => True) (fun _ U o U' => ∃ v L, o = .returned v ∧ Q1 Z u0 u1 h0 n0 v U'.heap L ∧ FrameEnd U o U' L ({ frames := 0, cells := 0, slots := 0, locals := 0 } : Room).cells ({ frames := 0, cells := 0, slots := 0, locals := 0 } : Room).slots) := by
  refine MetFree.of_bodySF (plainFor_of_name pn_0) hisR ?_
  intro p e s m args below meth c s₁ Bd hml0 hP hK
  obtain ⟨rfl, hZ, hh⟩ := hP
  have hx := Bd.exec
  have hby := Bd.bytes
  have hml : c.maxLocals = 2 := hml0
  have hown : s.vm.findClass "com/example/tabularium/tabularium/siard/TextEscapes" = some m.cls := findClass_of_methodNamed Bd.named
  have hnm := (name_of_methodNamed Bd.named Bd.method).1
  have X0 : Stand p l e ({ frames := 0, cells := 0, slots := 0, locals := 0 } : Room) s m #[(.int u0), (.int u1)] below meth c s₁ [] 0 0 := Stand.of_body Bd
  have e0 : s₁.heap = h0 := by rw [← hh, Bd.state]; rfl
  have N0 := Fr.nil n0
  have pre0 : ∀ t, Steps p.tables e below (s₁.setTop (mkF m 0 #[.val (.int u0), .val (.int u1)] [])) t → Steps p.tables e below (s₁.setTop (entryFrame m #[(.int u0), (.int u1)] 2)) t := fun t k => castTop (ef_1 m u0 u1) k
  have sg0 : ∀ {fs : List Frame}, own_RetTo e s₁ m (some (.int (f1_0 u0 u1))) fs → Steps p.tables e below (s₁.setTop (mkF m 0 #[.val (.int u0), .val (.int u1)] [])) (s₁.setFrames fs) := by
    intro fs hr
    show Steps p.tables e below (s₁.setTop (mkF m 0 #[.val (.int u0), .val (.int u1)] [])) _
    refine XS.iloadN X0.here hx rfl (hb hby d1_0) rfl ?_
    show Steps p.tables e below (s₁.setTop (mkF m 1 #[.val (.int u0), .val (.int u1)] [(.int u0)])) _
    refine XS.bipush X0.here hx rfl (hb hby d1_1) ?_
    show Steps p.tables e below (s₁.setTop (mkF m 3 #[.val (.int u0), .val (.int u1)] [(.int (32 : Int32)), (.int u0)])) _
    by_cases hc3 : u0 < (32 : Int32)
    · refine XS.icmpNo X0.here hx rfl (hb hby d1_3) rfl (tlt hc3).2.1 ?_
      show Steps p.tables e below (s₁.setTop (mkF m 6 #[.val (.int u0), .val (.int u1)] [])) _
      refine XS.iloadN X0.here hx rfl (hb hby d1_6) rfl ?_
      show Steps p.tables e below (s₁.setTop (mkF m 7 #[.val (.int u0), .val (.int u1)] [(.int u0)])) _
      refine XS.bipush X0.here hx rfl (hb hby d1_7) ?_
      show Steps p.tables e below (s₁.setTop (mkF m 9 #[.val (.int u0), .val (.int u1)] [(.int (9 : Int32)), (.int u0)])) _
      by_cases hc9 : u0 = (9 : Int32)
      · refine XS.icmpYes X0.here hx rfl (pc0 := 9) (pc' := 22) rfl (hb hby d1_9) rfl (teq hc9).1 (by decide) (by decide) ?_
        show Steps p.tables e below (s₁.setTop (mkF m 22 #[.val (.int u0), .val (.int u1)] [])) _
        refine XS.iconst X0.here hx rfl (hb hby d1_22) ?_
        have hv : f1_0 u0 u1 = (0 : Int32) := by unfold f1_0; rw [if_pos hc3, if_pos hc9]
        rw [hv] at hr
        show Steps p.tables e below (s₁.setTop (mkF m 23 #[.val (.int u0), .val (.int u1)] [(.int (0 : Int32))])) _
        exact retN X0 hx (t := .boolean) Bd.returns (by simp) (hb hby d1_23) hr
      · refine XS.icmpNo X0.here hx rfl (hb hby d1_9) rfl (feq hc9).1 ?_
        show Steps p.tables e below (s₁.setTop (mkF m 12 #[.val (.int u0), .val (.int u1)] [])) _
        refine XS.iloadN X0.here hx rfl (hb hby d1_12) rfl ?_
        show Steps p.tables e below (s₁.setTop (mkF m 13 #[.val (.int u0), .val (.int u1)] [(.int u0)])) _
        refine XS.bipush X0.here hx rfl (hb hby d1_13) ?_
        show Steps p.tables e below (s₁.setTop (mkF m 15 #[.val (.int u0), .val (.int u1)] [(.int (10 : Int32)), (.int u0)])) _
        by_cases hc15 : u0 = (10 : Int32)
        · refine XS.icmpYes X0.here hx rfl (pc0 := 15) (pc' := 22) rfl (hb hby d1_15) rfl (teq hc15).1 (by decide) (by decide) ?_
          show Steps p.tables e below (s₁.setTop (mkF m 22 #[.val (.int u0), .val (.int u1)] [])) _
          refine XS.iconst X0.here hx rfl (hb hby d1_22) ?_
          have hv : f1_0 u0 u1 = (0 : Int32) := by unfold f1_0; rw [if_pos hc3, if_neg hc9, if_pos hc15]
          rw [hv] at hr
          show Steps p.tables e below (s₁.setTop (mkF m 23 #[.val (.int u0), .val (.int u1)] [(.int (0 : Int32))])) _
          exact retN X0 hx (t := .boolean) Bd.returns (by simp) (hb hby d1_23) hr
        · refine XS.icmpNo X0.here hx rfl (hb hby d1_15) rfl (feq hc15).1 ?_
          show Steps p.tables e below (s₁.setTop (mkF m 18 #[.val (.int u0), .val (.int u1)] [])) _
          refine XS.iconst X0.here hx rfl (hb hby d1_18) ?_
          show Steps p.tables e below (s₁.setTop (mkF m 19 #[.val (.int u0), .val (.int u1)] [(.int (1 : Int32))])) _
          refine XS.goto X0.here hx rfl (pc0 := 19) (pc' := 23) rfl (hb hby d1_19) (by decide) (by decide) ?_
          have hv : f1_0 u0 u1 = (1 : Int32) := by unfold f1_0; rw [if_pos hc3, if_neg hc9, if_neg hc15]
          rw [hv] at hr
          show Steps p.tables e below (s₁.setTop (mkF m 23 #[.val (.int u0), .val (.int u1)] [(.int (1 : Int32))])) _
          exact retN X0 hx (t := .boolean) Bd.returns (by simp) (hb hby d1_23) hr
    · refine XS.icmpYes X0.here hx rfl (pc0 := 3) (pc' := 24) rfl (hb hby d1_3) rfl (flt hc3).2.1 (by decide) (by decide) ?_
      show Steps p.tables e below (s₁.setTop (mkF m 24 #[.val (.int u0), .val (.int u1)] [])) _
      refine XS.iloadN X0.here hx rfl (hb hby d1_24) rfl ?_
      show Steps p.tables e below (s₁.setTop (mkF m 25 #[.val (.int u0), .val (.int u1)] [(.int u0)])) _
      refine XS.bipush X0.here hx rfl (hb hby d1_25) ?_
      show Steps p.tables e below (s₁.setTop (mkF m 27 #[.val (.int u0), .val (.int u1)] [(.int (32 : Int32)), (.int u0)])) _
      by_cases hc27 : u0 = (32 : Int32)
      · refine XS.icmpNo X0.here hx rfl (hb hby d1_27) rfl (teq hc27).2 ?_
        show Steps p.tables e below (s₁.setTop (mkF m 30 #[.val (.int u0), .val (.int u1)] [])) _
        refine XS.iloadN X0.here hx rfl (hb hby d1_30) rfl ?_
        show Steps p.tables e below (s₁.setTop (mkF m 31 #[.val (.int u0), .val (.int u1)] [(.int u1)])) _
        refine XS.bipush X0.here hx rfl (hb hby d1_31) ?_
        show Steps p.tables e below (s₁.setTop (mkF m 33 #[.val (.int u0), .val (.int u1)] [(.int (32 : Int32)), (.int u1)])) _
        by_cases hc33 : u1 = (32 : Int32)
        · refine XS.icmpNo X0.here hx rfl (hb hby d1_33) rfl (teq hc33).2 ?_
          show Steps p.tables e below (s₁.setTop (mkF m 36 #[.val (.int u0), .val (.int u1)] [])) _
          refine XS.iconst X0.here hx rfl (hb hby d1_36) ?_
          show Steps p.tables e below (s₁.setTop (mkF m 37 #[.val (.int u0), .val (.int u1)] [(.int (1 : Int32))])) _
          refine XS.goto X0.here hx rfl (pc0 := 37) (pc' := 41) rfl (hb hby d1_37) (by decide) (by decide) ?_
          have hv : f1_0 u0 u1 = (1 : Int32) := by unfold f1_0; rw [if_neg hc3, if_pos hc27, if_pos hc33]
          rw [hv] at hr
          show Steps p.tables e below (s₁.setTop (mkF m 41 #[.val (.int u0), .val (.int u1)] [(.int (1 : Int32))])) _
          exact retN X0 hx (t := .boolean) Bd.returns (by simp) (hb hby d1_41) hr
        · refine XS.icmpYes X0.here hx rfl (pc0 := 33) (pc' := 40) rfl (hb hby d1_33) rfl (feq hc33).2 (by decide) (by decide) ?_
          show Steps p.tables e below (s₁.setTop (mkF m 40 #[.val (.int u0), .val (.int u1)] [])) _
          refine XS.iconst X0.here hx rfl (hb hby d1_40) ?_
          have hv : f1_0 u0 u1 = (0 : Int32) := by unfold f1_0; rw [if_neg hc3, if_pos hc27, if_neg hc33]
          rw [hv] at hr
          show Steps p.tables e below (s₁.setTop (mkF m 41 #[.val (.int u0), .val (.int u1)] [(.int (0 : Int32))])) _
          exact retN X0 hx (t := .boolean) Bd.returns (by simp) (hb hby d1_41) hr
      · refine XS.icmpYes X0.here hx rfl (pc0 := 27) (pc' := 42) rfl (hb hby d1_27) rfl (feq hc27).2 (by decide) (by decide) ?_
        show Steps p.tables e below (s₁.setTop (mkF m 42 #[.val (.int u0), .val (.int u1)] [])) _
        refine XS.iloadN X0.here hx rfl (hb hby d1_42) rfl ?_
        show Steps p.tables e below (s₁.setTop (mkF m 43 #[.val (.int u0), .val (.int u1)] [(.int u0)])) _
        refine XS.bipush X0.here hx rfl (hb hby d1_43) ?_
        show Steps p.tables e below (s₁.setTop (mkF m 45 #[.val (.int u0), .val (.int u1)] [(.int (92 : Int32)), (.int u0)])) _
        by_cases hc45 : u0 = (92 : Int32)
        · refine XS.icmpYes X0.here hx rfl (pc0 := 45) (pc' := 67) rfl (hb hby d1_45) rfl (teq hc45).1 (by decide) (by decide) ?_
          show Steps p.tables e below (s₁.setTop (mkF m 67 #[.val (.int u0), .val (.int u1)] [])) _
          refine XS.iconst X0.here hx rfl (hb hby d1_67) ?_
          show Steps p.tables e below (s₁.setTop (mkF m 68 #[.val (.int u0), .val (.int u1)] [(.int (1 : Int32))])) _
          refine XS.goto X0.here hx rfl (pc0 := 68) (pc' := 72) rfl (hb hby d1_68) (by decide) (by decide) ?_
          have hv : f1_0 u0 u1 = (1 : Int32) := by unfold f1_0; rw [if_neg hc3, if_neg hc27, if_pos hc45]
          rw [hv] at hr
          show Steps p.tables e below (s₁.setTop (mkF m 72 #[.val (.int u0), .val (.int u1)] [(.int (1 : Int32))])) _
          exact retN X0 hx (t := .boolean) Bd.returns (by simp) (hb hby d1_72) hr
        · refine XS.icmpNo X0.here hx rfl (hb hby d1_45) rfl (feq hc45).1 ?_
          show Steps p.tables e below (s₁.setTop (mkF m 48 #[.val (.int u0), .val (.int u1)] [])) _
          refine XS.iloadN X0.here hx rfl (hb hby d1_48) rfl ?_
          show Steps p.tables e below (s₁.setTop (mkF m 49 #[.val (.int u0), .val (.int u1)] [(.int u0)])) _
          refine XS.bipush X0.here hx rfl (hb hby d1_49) ?_
          show Steps p.tables e below (s₁.setTop (mkF m 51 #[.val (.int u0), .val (.int u1)] [(.int (127 : Int32)), (.int u0)])) _
          by_cases hc51 : u0 < (127 : Int32)
          · refine XS.icmpYes X0.here hx rfl (pc0 := 51) (pc' := 61) rfl (hb hby d1_51) rfl (tlt hc51).1 (by decide) (by decide) ?_
            show Steps p.tables e below (s₁.setTop (mkF m 61 #[.val (.int u0), .val (.int u1)] [])) _
            refine XS.iloadN X0.here hx rfl (hb hby d1_61) rfl ?_
            show Steps p.tables e below (s₁.setTop (mkF m 62 #[.val (.int u0), .val (.int u1)] [(.int u0)])) _
            refine X0.ldcInt hx hown (mvT hZ (hw _ (List.mem_of_getElem? (i := 6) rfl))) (g := (mkF m 62 #[.val (.int u0), .val (.int u1)] [(.int u0)])) rfl (hb hby d1_62) _ ?_
            show Steps p.tables e below (s₁.setTop (mkF m 64 #[.val (.int u0), .val (.int u1)] [(.int (65534 : Int32)), (.int u0)])) _
            by_cases hc64 : u0 < (65534 : Int32)
            · refine XS.icmpYes X0.here hx rfl (pc0 := 64) (pc' := 71) rfl (hb hby d1_64) rfl (tlt hc64).1 (by decide) (by decide) ?_
              show Steps p.tables e below (s₁.setTop (mkF m 71 #[.val (.int u0), .val (.int u1)] [])) _
              refine XS.iconst X0.here hx rfl (hb hby d1_71) ?_
              have hv : f1_0 u0 u1 = (0 : Int32) := by unfold f1_0; rw [if_neg hc3, if_neg hc27, if_neg hc45, if_pos hc51, if_pos hc64]
              rw [hv] at hr
              show Steps p.tables e below (s₁.setTop (mkF m 72 #[.val (.int u0), .val (.int u1)] [(.int (0 : Int32))])) _
              exact retN X0 hx (t := .boolean) Bd.returns (by simp) (hb hby d1_72) hr
            · refine XS.icmpNo X0.here hx rfl (hb hby d1_64) rfl (flt hc64).1 ?_
              show Steps p.tables e below (s₁.setTop (mkF m 67 #[.val (.int u0), .val (.int u1)] [])) _
              refine XS.iconst X0.here hx rfl (hb hby d1_67) ?_
              show Steps p.tables e below (s₁.setTop (mkF m 68 #[.val (.int u0), .val (.int u1)] [(.int (1 : Int32))])) _
              refine XS.goto X0.here hx rfl (pc0 := 68) (pc' := 72) rfl (hb hby d1_68) (by decide) (by decide) ?_
              have hv : f1_0 u0 u1 = (1 : Int32) := by unfold f1_0; rw [if_neg hc3, if_neg hc27, if_neg hc45, if_pos hc51, if_neg hc64]
              rw [hv] at hr
              show Steps p.tables e below (s₁.setTop (mkF m 72 #[.val (.int u0), .val (.int u1)] [(.int (1 : Int32))])) _
              exact retN X0 hx (t := .boolean) Bd.returns (by simp) (hb hby d1_72) hr
          · refine XS.icmpNo X0.here hx rfl (hb hby d1_51) rfl (flt hc51).1 ?_
            show Steps p.tables e below (s₁.setTop (mkF m 54 #[.val (.int u0), .val (.int u1)] [])) _
            refine XS.iloadN X0.here hx rfl (hb hby d1_54) rfl ?_
            show Steps p.tables e below (s₁.setTop (mkF m 55 #[.val (.int u0), .val (.int u1)] [(.int u0)])) _
            refine XS.sipush X0.here hx rfl (hb hby d1_55) ?_
            show Steps p.tables e below (s₁.setTop (mkF m 58 #[.val (.int u0), .val (.int u1)] [(.int (159 : Int32)), (.int u0)])) _
            by_cases hc58 : (159 : Int32) < u0
            · refine XS.icmpNo X0.here hx rfl (hb hby d1_58) rfl (tlt hc58).2.2.2 ?_
              show Steps p.tables e below (s₁.setTop (mkF m 61 #[.val (.int u0), .val (.int u1)] [])) _
              refine XS.iloadN X0.here hx rfl (hb hby d1_61) rfl ?_
              show Steps p.tables e below (s₁.setTop (mkF m 62 #[.val (.int u0), .val (.int u1)] [(.int u0)])) _
              refine X0.ldcInt hx hown (mvT hZ (hw _ (List.mem_of_getElem? (i := 6) rfl))) (g := (mkF m 62 #[.val (.int u0), .val (.int u1)] [(.int u0)])) rfl (hb hby d1_62) _ ?_
              show Steps p.tables e below (s₁.setTop (mkF m 64 #[.val (.int u0), .val (.int u1)] [(.int (65534 : Int32)), (.int u0)])) _
              by_cases hc64 : u0 < (65534 : Int32)
              · refine XS.icmpYes X0.here hx rfl (pc0 := 64) (pc' := 71) rfl (hb hby d1_64) rfl (tlt hc64).1 (by decide) (by decide) ?_
                show Steps p.tables e below (s₁.setTop (mkF m 71 #[.val (.int u0), .val (.int u1)] [])) _
                refine XS.iconst X0.here hx rfl (hb hby d1_71) ?_
                have hv : f1_0 u0 u1 = (0 : Int32) := by unfold f1_0; rw [if_neg hc3, if_neg hc27, if_neg hc45, if_neg hc51, if_pos hc58, if_pos hc64]
                rw [hv] at hr
                show Steps p.tables e below (s₁.setTop (mkF m 72 #[.val (.int u0), .val (.int u1)] [(.int (0 : Int32))])) _
                exact retN X0 hx (t := .boolean) Bd.returns (by simp) (hb hby d1_72) hr
              · refine XS.icmpNo X0.here hx rfl (hb hby d1_64) rfl (flt hc64).1 ?_
                show Steps p.tables e below (s₁.setTop (mkF m 67 #[.val (.int u0), .val (.int u1)] [])) _
                refine XS.iconst X0.here hx rfl (hb hby d1_67) ?_
                show Steps p.tables e below (s₁.setTop (mkF m 68 #[.val (.int u0), .val (.int u1)] [(.int (1 : Int32))])) _
                refine XS.goto X0.here hx rfl (pc0 := 68) (pc' := 72) rfl (hb hby d1_68) (by decide) (by decide) ?_
                have hv : f1_0 u0 u1 = (1 : Int32) := by unfold f1_0; rw [if_neg hc3, if_neg hc27, if_neg hc45, if_neg hc51, if_pos hc58, if_neg hc64]
                rw [hv] at hr
                show Steps p.tables e below (s₁.setTop (mkF m 72 #[.val (.int u0), .val (.int u1)] [(.int (1 : Int32))])) _
                exact retN X0 hx (t := .boolean) Bd.returns (by simp) (hb hby d1_72) hr
            · refine XS.icmpYes X0.here hx rfl (pc0 := 58) (pc' := 67) rfl (hb hby d1_58) rfl (flt hc58).2.2.2 (by decide) (by decide) ?_
              show Steps p.tables e below (s₁.setTop (mkF m 67 #[.val (.int u0), .val (.int u1)] [])) _
              refine XS.iconst X0.here hx rfl (hb hby d1_67) ?_
              show Steps p.tables e below (s₁.setTop (mkF m 68 #[.val (.int u0), .val (.int u1)] [(.int (1 : Int32))])) _
              refine XS.goto X0.here hx rfl (pc0 := 68) (pc' := 72) rfl (hb hby d1_68) (by decide) (by decide) ?_
              have hv : f1_0 u0 u1 = (1 : Int32) := by unfold f1_0; rw [if_neg hc3, if_neg hc27, if_neg hc45, if_neg hc51, if_neg hc58]
              rw [hv] at hr
              show Steps p.tables e below (s₁.setTop (mkF m 72 #[.val (.int u0), .val (.int u1)] [(.int (1 : Int32))])) _
              exact retN X0 hx (t := .boolean) Bd.returns (by simp) (hb hby d1_72) hr
  obtain ⟨fs, hr, hrun, hended, hW, hsame⟩ := X0.leave (v := some (.int (f1_0 u0 u1))) (fun h => by rw [Bd.returns] at h; cases h)
  refine ⟨_, _, pre0 _ ?_, hrun, hended, _, _, rfl, ?_, ⟨_, rfl⟩, hW, hsame.mono (by decide) (by decide)⟩
  · show Steps p.tables e below (s₁.setTop (mkF m 0 #[.val (.int u0), .val (.int u1)] [])) _
    exact sg0 hr
  · show Q1 Z u0 u1 h0 n0 _ s₁.heap _
    rw [e0]
    exact ⟨rfl, N0, rfl⟩
def g_c (ua : Int32) (ub : Int32) (us : Int32) : Int32 := (if (us &&& (1 : Int32)) = (0 : Int32) then (ua.toUInt32.toUInt16.toUInt32.toInt32) else (32 : Int32))
def g_p (ua : Int32) (ub : Int32) (us : Int32) : Int32 := (if (us &&& (2 : Int32)) = (0 : Int32) then (ub.toUInt32.toUInt16.toUInt32.toInt32) else (32 : Int32))
def g_ctl (ua : Int32) (ub : Int32) (us : Int32) : Int32 := (if (31 : Int32) < (g_c ua ub us) then (0 : Int32) else (if (g_c ua ub us) = (9 : Int32) then (0 : Int32) else (if (g_c ua ub us) = (10 : Int32) then (0 : Int32) else (1 : Int32))))
def g_del (ua : Int32) (ub : Int32) (us : Int32) : Int32 := (if (g_c ua ub us) < (127 : Int32) then (0 : Int32) else (if (159 : Int32) < (g_c ua ub us) then (0 : Int32) else (1 : Int32)))
def g_bs (ua : Int32) (ub : Int32) (us : Int32) : Int32 := (if (g_c ua ub us) = (92 : Int32) then (1 : Int32) else (0 : Int32))
def g_non (ua : Int32) (ub : Int32) (us : Int32) : Int32 := (if (g_c ua ub us) = (65534 : Int32) then (1 : Int32) else (if (g_c ua ub us) = (65535 : Int32) then (1 : Int32) else (0 : Int32)))
def g_sp (ua : Int32) (ub : Int32) (us : Int32) : Int32 := (if (g_c ua ub us) = (32 : Int32) then (if (g_p ua ub us) = (32 : Int32) then (1 : Int32) else (0 : Int32)) else (0 : Int32))
def g_exp (ua : Int32) (ub : Int32) (us : Int32) : Int32 := (if (g_ctl ua ub us) = (0 : Int32) then (if (g_del ua ub us) = (0 : Int32) then (if (g_bs ua ub us) = (0 : Int32) then (if (g_non ua ub us) = (0 : Int32) then (if (g_sp ua ub us) = (0 : Int32) then (0 : Int32) else (1 : Int32)) else (1 : Int32)) else (1 : Int32)) else (1 : Int32)) else (1 : Int32))
theorem own_c (ua ub us : Int32) : 0 ≤ (g_c ua ub us).toInt ∧ (g_c ua ub us).toInt < 65536 := by
  unfold g_c
  split
  · exact ⟨(c_i2c ua).2.1, (c_i2c ua).2.2⟩
  · decide
theorem own_eq (ua ub us : Int32) : f1_0 (g_c ua ub us) (g_p ua ub us) = g_exp ua ub us := by
  have hr := own_c ua ub us
  unfold f1_0 g_exp g_ctl g_del g_bs g_non g_sp
  generalize g_c ua ub us = c at *
  generalize g_p ua ub us = q
  have e1 : ∀ k : Int32, c = k ↔ c.toInt = k.toInt := fun k => Int32.toInt_inj.symm
  simp only [Int32.lt_iff_toInt_lt, e1, show (32 : Int32).toInt = 32 from rfl, show (31 : Int32).toInt = 31 from rfl, show (9 : Int32).toInt = 9 from rfl, show (10 : Int32).toInt = 10 from rfl, show (92 : Int32).toInt = 92 from rfl, show (127 : Int32).toInt = 127 from rfl, show (159 : Int32).toInt = 159 from rfl, show (65534 : Int32).toInt = 65534 from rfl, show (65535 : Int32).toInt = 65535 from rfl]
  generalize c.toInt = n at *
  clear e1
  have cases : (n < 32 ∧ n = 9) ∨ (n < 32 ∧ n = 10) ∨ (n < 32 ∧ n ≠ 9 ∧ n ≠ 10) ∨ n = 32 ∨ n = 92 ∨ (32 < n ∧ n < 127 ∧ n ≠ 92) ∨ (127 ≤ n ∧ n ≤ 159) ∨ (159 < n ∧ n < 65534) ∨ n = 65534 ∨ n = 65535 := by omega
  have z : ¬ ((1 : Int32) = 0) := by decide
  by_cases hq : q = (32 : Int32)
  all_goals
    rcases cases with h | h | h | h | h | h | h | h | h | h
    all_goals simp (disch := omega) only [if_pos, if_neg, hq, z, ↓reduceIte]
theorem pd_0 : parseMethodDescriptor "(CC)Z" = some ⟨[.char, .char], some .boolean⟩ := by decide +kernel
theorem pn_1 : plainName "com/example/tabularium/tabularium/siard/TextEscapesEscapedPinLaw" = true := by first | (simp [plainName, overriddenIn]; done) | decide +kernel
theorem ef_0 (m : MethodId) (x0 : Int32) (x1 : Int32) (x2 : Int32) : entryFrame m #[(.int x0), (.int x1), (.int x2)] maxLocals = mkF m 0 #[.val (.int x0), .val (.int x1), .val (.int x2), .unset, .unset, .unset, .unset, .unset, .unset, .unset, .unset, .unset, .unset] [] := by first | (simp [entryFrame, mkF, argsToLocals, Value.category, maxLocals]; done) | rfl
def Q0 (Z : State) (ua : Int32) (ub : Int32) (us : Int32) (h0 : Heap) (n0 : Nat) (v : Option Value) (h : Heap) (L : List Loc) : Prop := v = some (.int (1 : Int32)) ∧ Fr n0 L
set_option maxRecDepth 65536 in
set_option maxHeartbeats 40000000 in
theorem rm0 (l : Launch) (Z : State) (a0 : Array Value) (hw : ∀ d ∈ tables_1, d.before a0 Z = true) (ws : List Jvm.Cond) (ua : Int32) (ub : Int32) (us : Int32) (h0 : Heap) (n0 : Nat) (Z0 : n0 ≤ h0.size) :
    MetFree l x (head1 (Jvm.Cond.code x code maxLocals ret :: ws) room_1) (fun a U => a = #[(.int ua), (.int ub), (.int us)] ∧ Z.Warmed39 U.vm ∧ U.heap = h0) (fun _ _ _ _ _ => True) (fun _ U o U' => ∃ v L, o = .returned v ∧ Q0 Z ua ub us h0 n0 v U'.heap L ∧ FrameEnd U o U' L 0 0) := by
  refine MetFree.of_bodySF (plainFor_of_name pn_1) hisR ?_
  intro p e s m args below meth c s₁ Bd hml0 hP hK
  obtain ⟨rfl, hZ, hh⟩ := hP
  have hx := Bd.exec
  have hby := Bd.bytes
  have hml : c.maxLocals = 13 := hml0
  have hown : s.vm.findClass "com/example/tabularium/tabularium/siard/TextEscapesEscapedPinLaw" = some m.cls := findClass_of_methodNamed Bd.named
  have hnm := (name_of_methodNamed Bd.named Bd.method).1
  have X0 : Stand p l e room_1 s m #[(.int ua), (.int ub), (.int us)] below meth c s₁ [] 0 0 := Stand.of_body Bd
  have e0 : s₁.heap = h0 := by rw [← hh, Bd.state]; rfl
  have N0 := Fr.nil n0
  have pre0 : ∀ t, Steps p.tables e below (s₁.setTop (mkF m 0 #[.val (.int ua), .val (.int ub), .val (.int us), .unset, .unset, .unset, .unset, .unset, .unset, .unset, .unset, .unset, .unset] [])) t → Steps p.tables e below (s₁.setTop (entryFrame m #[(.int ua), (.int ub), (.int us)] maxLocals)) t := fun t k => castTop (ef_0 m ua ub us) k
  have sg0 : ∀ t, Steps p.tables e below (s₁.setTop (mkF m 13 #[.val (.int ua), .val (.int ub), .val (.int us), .unset, .unset, .unset, .unset, .unset, .unset, .unset, .unset, .unset, .unset] [(.int (g_c ua ub us))])) t → Steps p.tables e below (s₁.setTop (mkF m 0 #[.val (.int ua), .val (.int ub), .val (.int us), .unset, .unset, .unset, .unset, .unset, .unset, .unset, .unset, .unset, .unset] [])) t := by
    intro t kt
    show Steps p.tables e below (s₁.setTop (mkF m 0 #[.val (.int ua), .val (.int ub), .val (.int us), .unset, .unset, .unset, .unset, .unset, .unset, .unset, .unset, .unset, .unset] [])) _
    refine XS.iloadN X0.here hx rfl (hb hby at_0) rfl ?_
    show Steps p.tables e below (s₁.setTop (mkF m 1 #[.val (.int ua), .val (.int ub), .val (.int us), .unset, .unset, .unset, .unset, .unset, .unset, .unset, .unset, .unset, .unset] [(.int us)])) _
    refine XS.iconst X0.here hx rfl (hb hby at_1) ?_
    show Steps p.tables e below (s₁.setTop (mkF m 2 #[.val (.int ua), .val (.int ub), .val (.int us), .unset, .unset, .unset, .unset, .unset, .unset, .unset, .unset, .unset, .unset] [(.int (1 : Int32)), (.int us)])) _
    refine XS.iand X0.here hx rfl (hb hby at_2) rfl ?_
    show Steps p.tables e below (s₁.setTop (mkF m 3 #[.val (.int ua), .val (.int ub), .val (.int us), .unset, .unset, .unset, .unset, .unset, .unset, .unset, .unset, .unset, .unset] [(.int (us &&& (1 : Int32)))])) _
    by_cases hc3 : (us &&& (1 : Int32)) = (0 : Int32)
    · refine XS.ifYes X0.here hx rfl (pc0 := 3) (pc' := 11) rfl (hb hby at_3) rfl ((if0 _ _).trans (teq hc3).1) (by decide) (by decide) ?_
      show Steps p.tables e below (s₁.setTop (mkF m 11 #[.val (.int ua), .val (.int ub), .val (.int us), .unset, .unset, .unset, .unset, .unset, .unset, .unset, .unset, .unset, .unset] [])) _
      refine XS.iloadN X0.here hx rfl (hb hby at_11) rfl ?_
      show Steps p.tables e below (s₁.setTop (mkF m 12 #[.val (.int ua), .val (.int ub), .val (.int us), .unset, .unset, .unset, .unset, .unset, .unset, .unset, .unset, .unset, .unset] [(.int ua)])) _
      refine XS.i2c X0.here hx rfl (hb hby at_12) rfl ?_
      have hv : g_c ua ub us = (ua.toUInt32.toUInt16.toUInt32.toInt32) := by unfold g_c; rw [if_pos hc3]
      rw [hv] at kt
      exact kt
    · refine XS.ifNo X0.here hx rfl (hb hby at_3) rfl ((if0 _ _).trans (feq hc3).1) ?_
      show Steps p.tables e below (s₁.setTop (mkF m 6 #[.val (.int ua), .val (.int ub), .val (.int us), .unset, .unset, .unset, .unset, .unset, .unset, .unset, .unset, .unset, .unset] [])) _
      refine XS.bipush X0.here hx rfl (hb hby at_6) ?_
      show Steps p.tables e below (s₁.setTop (mkF m 8 #[.val (.int ua), .val (.int ub), .val (.int us), .unset, .unset, .unset, .unset, .unset, .unset, .unset, .unset, .unset, .unset] [(.int (32 : Int32))])) _
      refine XS.goto X0.here hx rfl (pc0 := 8) (pc' := 13) rfl (hb hby at_8) (by decide) (by decide) ?_
      have hv : g_c ua ub us = (32 : Int32) := by unfold g_c; rw [if_neg hc3]
      rw [hv] at kt
      exact kt
  have sg14 : ∀ t, Steps p.tables e below (s₁.setTop (mkF m 27 #[.val (.int ua), .val (.int ub), .val (.int us), .val (.int (g_c ua ub us)), .unset, .unset, .unset, .unset, .unset, .unset, .unset, .unset, .unset] [(.int (g_p ua ub us))])) t → Steps p.tables e below (s₁.setTop (mkF m 14 #[.val (.int ua), .val (.int ub), .val (.int us), .val (.int (g_c ua ub us)), .unset, .unset, .unset, .unset, .unset, .unset, .unset, .unset, .unset] [])) t := by
    intro t kt
    show Steps p.tables e below (s₁.setTop (mkF m 14 #[.val (.int ua), .val (.int ub), .val (.int us), .val (.int (g_c ua ub us)), .unset, .unset, .unset, .unset, .unset, .unset, .unset, .unset, .unset] [])) _
    refine XS.iloadN X0.here hx rfl (hb hby at_14) rfl ?_
    show Steps p.tables e below (s₁.setTop (mkF m 15 #[.val (.int ua), .val (.int ub), .val (.int us), .val (.int (g_c ua ub us)), .unset, .unset, .unset, .unset, .unset, .unset, .unset, .unset, .unset] [(.int us)])) _
    refine XS.iconst X0.here hx rfl (hb hby at_15) ?_
    show Steps p.tables e below (s₁.setTop (mkF m 16 #[.val (.int ua), .val (.int ub), .val (.int us), .val (.int (g_c ua ub us)), .unset, .unset, .unset, .unset, .unset, .unset, .unset, .unset, .unset] [(.int (2 : Int32)), (.int us)])) _
    refine XS.iand X0.here hx rfl (hb hby at_16) rfl ?_
    show Steps p.tables e below (s₁.setTop (mkF m 17 #[.val (.int ua), .val (.int ub), .val (.int us), .val (.int (g_c ua ub us)), .unset, .unset, .unset, .unset, .unset, .unset, .unset, .unset, .unset] [(.int (us &&& (2 : Int32)))])) _
    by_cases hc17 : (us &&& (2 : Int32)) = (0 : Int32)
    · refine XS.ifYes X0.here hx rfl (pc0 := 17) (pc' := 25) rfl (hb hby at_17) rfl ((if0 _ _).trans (teq hc17).1) (by decide) (by decide) ?_
      show Steps p.tables e below (s₁.setTop (mkF m 25 #[.val (.int ua), .val (.int ub), .val (.int us), .val (.int (g_c ua ub us)), .unset, .unset, .unset, .unset, .unset, .unset, .unset, .unset, .unset] [])) _
      refine XS.iloadN X0.here hx rfl (hb hby at_25) rfl ?_
      show Steps p.tables e below (s₁.setTop (mkF m 26 #[.val (.int ua), .val (.int ub), .val (.int us), .val (.int (g_c ua ub us)), .unset, .unset, .unset, .unset, .unset, .unset, .unset, .unset, .unset] [(.int ub)])) _
      refine XS.i2c X0.here hx rfl (hb hby at_26) rfl ?_
      have hv : g_p ua ub us = (ub.toUInt32.toUInt16.toUInt32.toInt32) := by unfold g_p; rw [if_pos hc17]
      rw [hv] at kt
      exact kt
    · refine XS.ifNo X0.here hx rfl (hb hby at_17) rfl ((if0 _ _).trans (feq hc17).1) ?_
      show Steps p.tables e below (s₁.setTop (mkF m 20 #[.val (.int ua), .val (.int ub), .val (.int us), .val (.int (g_c ua ub us)), .unset, .unset, .unset, .unset, .unset, .unset, .unset, .unset, .unset] [])) _
      refine XS.bipush X0.here hx rfl (hb hby at_20) ?_
      show Steps p.tables e below (s₁.setTop (mkF m 22 #[.val (.int ua), .val (.int ub), .val (.int us), .val (.int (g_c ua ub us)), .unset, .unset, .unset, .unset, .unset, .unset, .unset, .unset, .unset] [(.int (32 : Int32))])) _
      refine XS.goto X0.here hx rfl (pc0 := 22) (pc' := 27) rfl (hb hby at_22) (by decide) (by decide) ?_
      have hv : g_p ua ub us = (32 : Int32) := by unfold g_p; rw [if_neg hc17]
      rw [hv] at kt
      exact kt
  have sg36 : ∀ t, Steps p.tables e below (s₁.setTop (mkF m 62 #[.val (.int ua), .val (.int ub), .val (.int us), .val (.int (g_c ua ub us)), .val (.int (g_p ua ub us)), .val (.int (g_c ua ub us)), .val (.int (g_p ua ub us)), .unset, .unset, .unset, .unset, .unset, .unset] [(.int (g_ctl ua ub us))])) t → Steps p.tables e below (s₁.setTop (mkF m 36 #[.val (.int ua), .val (.int ub), .val (.int us), .val (.int (g_c ua ub us)), .val (.int (g_p ua ub us)), .val (.int (g_c ua ub us)), .val (.int (g_p ua ub us)), .unset, .unset, .unset, .unset, .unset, .unset] [])) t := by
    intro t kt
    show Steps p.tables e below (s₁.setTop (mkF m 36 #[.val (.int ua), .val (.int ub), .val (.int us), .val (.int (g_c ua ub us)), .val (.int (g_p ua ub us)), .val (.int (g_c ua ub us)), .val (.int (g_p ua ub us)), .unset, .unset, .unset, .unset, .unset, .unset] [])) _
    refine XS.iload X0.here hx rfl (hb hby at_36) rfl ?_
    show Steps p.tables e below (s₁.setTop (mkF m 38 #[.val (.int ua), .val (.int ub), .val (.int us), .val (.int (g_c ua ub us)), .val (.int (g_p ua ub us)), .val (.int (g_c ua ub us)), .val (.int (g_p ua ub us)), .unset, .unset, .unset, .unset, .unset, .unset] [(.int (g_c ua ub us))])) _
    refine XS.bipush X0.here hx rfl (hb hby at_38) ?_
    show Steps p.tables e below (s₁.setTop (mkF m 40 #[.val (.int ua), .val (.int ub), .val (.int us), .val (.int (g_c ua ub us)), .val (.int (g_p ua ub us)), .val (.int (g_c ua ub us)), .val (.int (g_p ua ub us)), .unset, .unset, .unset, .unset, .unset, .unset] [(.int (31 : Int32)), (.int (g_c ua ub us))])) _
    by_cases hc40 : (31 : Int32) < (g_c ua ub us)
    · refine XS.icmpYes X0.here hx rfl (pc0 := 40) (pc' := 61) rfl (hb hby at_40) rfl (tlt hc40).2.2.1 (by decide) (by decide) ?_
      show Steps p.tables e below (s₁.setTop (mkF m 61 #[.val (.int ua), .val (.int ub), .val (.int us), .val (.int (g_c ua ub us)), .val (.int (g_p ua ub us)), .val (.int (g_c ua ub us)), .val (.int (g_p ua ub us)), .unset, .unset, .unset, .unset, .unset, .unset] [])) _
      refine XS.iconst X0.here hx rfl (hb hby at_61) ?_
      have hv : g_ctl ua ub us = (0 : Int32) := by unfold g_ctl; rw [if_pos hc40]
      rw [hv] at kt
      exact kt
    · refine XS.icmpNo X0.here hx rfl (hb hby at_40) rfl (flt hc40).2.2.1 ?_
      show Steps p.tables e below (s₁.setTop (mkF m 43 #[.val (.int ua), .val (.int ub), .val (.int us), .val (.int (g_c ua ub us)), .val (.int (g_p ua ub us)), .val (.int (g_c ua ub us)), .val (.int (g_p ua ub us)), .unset, .unset, .unset, .unset, .unset, .unset] [])) _
      refine XS.iload X0.here hx rfl (hb hby at_43) rfl ?_
      show Steps p.tables e below (s₁.setTop (mkF m 45 #[.val (.int ua), .val (.int ub), .val (.int us), .val (.int (g_c ua ub us)), .val (.int (g_p ua ub us)), .val (.int (g_c ua ub us)), .val (.int (g_p ua ub us)), .unset, .unset, .unset, .unset, .unset, .unset] [(.int (g_c ua ub us))])) _
      refine XS.bipush X0.here hx rfl (hb hby at_45) ?_
      show Steps p.tables e below (s₁.setTop (mkF m 47 #[.val (.int ua), .val (.int ub), .val (.int us), .val (.int (g_c ua ub us)), .val (.int (g_p ua ub us)), .val (.int (g_c ua ub us)), .val (.int (g_p ua ub us)), .unset, .unset, .unset, .unset, .unset, .unset] [(.int (9 : Int32)), (.int (g_c ua ub us))])) _
      by_cases hc47 : (g_c ua ub us) = (9 : Int32)
      · refine XS.icmpYes X0.here hx rfl (pc0 := 47) (pc' := 61) rfl (hb hby at_47) rfl (teq hc47).1 (by decide) (by decide) ?_
        show Steps p.tables e below (s₁.setTop (mkF m 61 #[.val (.int ua), .val (.int ub), .val (.int us), .val (.int (g_c ua ub us)), .val (.int (g_p ua ub us)), .val (.int (g_c ua ub us)), .val (.int (g_p ua ub us)), .unset, .unset, .unset, .unset, .unset, .unset] [])) _
        refine XS.iconst X0.here hx rfl (hb hby at_61) ?_
        have hv : g_ctl ua ub us = (0 : Int32) := by unfold g_ctl; rw [if_neg hc40, if_pos hc47]
        rw [hv] at kt
        exact kt
      · refine XS.icmpNo X0.here hx rfl (hb hby at_47) rfl (feq hc47).1 ?_
        show Steps p.tables e below (s₁.setTop (mkF m 50 #[.val (.int ua), .val (.int ub), .val (.int us), .val (.int (g_c ua ub us)), .val (.int (g_p ua ub us)), .val (.int (g_c ua ub us)), .val (.int (g_p ua ub us)), .unset, .unset, .unset, .unset, .unset, .unset] [])) _
        refine XS.iload X0.here hx rfl (hb hby at_50) rfl ?_
        show Steps p.tables e below (s₁.setTop (mkF m 52 #[.val (.int ua), .val (.int ub), .val (.int us), .val (.int (g_c ua ub us)), .val (.int (g_p ua ub us)), .val (.int (g_c ua ub us)), .val (.int (g_p ua ub us)), .unset, .unset, .unset, .unset, .unset, .unset] [(.int (g_c ua ub us))])) _
        refine XS.bipush X0.here hx rfl (hb hby at_52) ?_
        show Steps p.tables e below (s₁.setTop (mkF m 54 #[.val (.int ua), .val (.int ub), .val (.int us), .val (.int (g_c ua ub us)), .val (.int (g_p ua ub us)), .val (.int (g_c ua ub us)), .val (.int (g_p ua ub us)), .unset, .unset, .unset, .unset, .unset, .unset] [(.int (10 : Int32)), (.int (g_c ua ub us))])) _
        by_cases hc54 : (g_c ua ub us) = (10 : Int32)
        · refine XS.icmpYes X0.here hx rfl (pc0 := 54) (pc' := 61) rfl (hb hby at_54) rfl (teq hc54).1 (by decide) (by decide) ?_
          show Steps p.tables e below (s₁.setTop (mkF m 61 #[.val (.int ua), .val (.int ub), .val (.int us), .val (.int (g_c ua ub us)), .val (.int (g_p ua ub us)), .val (.int (g_c ua ub us)), .val (.int (g_p ua ub us)), .unset, .unset, .unset, .unset, .unset, .unset] [])) _
          refine XS.iconst X0.here hx rfl (hb hby at_61) ?_
          have hv : g_ctl ua ub us = (0 : Int32) := by unfold g_ctl; rw [if_neg hc40, if_neg hc47, if_pos hc54]
          rw [hv] at kt
          exact kt
        · refine XS.icmpNo X0.here hx rfl (hb hby at_54) rfl (feq hc54).1 ?_
          show Steps p.tables e below (s₁.setTop (mkF m 57 #[.val (.int ua), .val (.int ub), .val (.int us), .val (.int (g_c ua ub us)), .val (.int (g_p ua ub us)), .val (.int (g_c ua ub us)), .val (.int (g_p ua ub us)), .unset, .unset, .unset, .unset, .unset, .unset] [])) _
          refine XS.iconst X0.here hx rfl (hb hby at_57) ?_
          show Steps p.tables e below (s₁.setTop (mkF m 58 #[.val (.int ua), .val (.int ub), .val (.int us), .val (.int (g_c ua ub us)), .val (.int (g_p ua ub us)), .val (.int (g_c ua ub us)), .val (.int (g_p ua ub us)), .unset, .unset, .unset, .unset, .unset, .unset] [(.int (1 : Int32))])) _
          refine XS.goto X0.here hx rfl (pc0 := 58) (pc' := 62) rfl (hb hby at_58) (by decide) (by decide) ?_
          have hv : g_ctl ua ub us = (1 : Int32) := by unfold g_ctl; rw [if_neg hc40, if_neg hc47, if_neg hc54]
          rw [hv] at kt
          exact kt
  have sg64 : ∀ t, Steps p.tables e below (s₁.setTop (mkF m 84 #[.val (.int ua), .val (.int ub), .val (.int us), .val (.int (g_c ua ub us)), .val (.int (g_p ua ub us)), .val (.int (g_c ua ub us)), .val (.int (g_p ua ub us)), .val (.int (g_ctl ua ub us)), .unset, .unset, .unset, .unset, .unset] [(.int (g_del ua ub us))])) t → Steps p.tables e below (s₁.setTop (mkF m 64 #[.val (.int ua), .val (.int ub), .val (.int us), .val (.int (g_c ua ub us)), .val (.int (g_p ua ub us)), .val (.int (g_c ua ub us)), .val (.int (g_p ua ub us)), .val (.int (g_ctl ua ub us)), .unset, .unset, .unset, .unset, .unset] [])) t := by
    intro t kt
    show Steps p.tables e below (s₁.setTop (mkF m 64 #[.val (.int ua), .val (.int ub), .val (.int us), .val (.int (g_c ua ub us)), .val (.int (g_p ua ub us)), .val (.int (g_c ua ub us)), .val (.int (g_p ua ub us)), .val (.int (g_ctl ua ub us)), .unset, .unset, .unset, .unset, .unset] [])) _
    refine XS.iload X0.here hx rfl (hb hby at_64) rfl ?_
    show Steps p.tables e below (s₁.setTop (mkF m 66 #[.val (.int ua), .val (.int ub), .val (.int us), .val (.int (g_c ua ub us)), .val (.int (g_p ua ub us)), .val (.int (g_c ua ub us)), .val (.int (g_p ua ub us)), .val (.int (g_ctl ua ub us)), .unset, .unset, .unset, .unset, .unset] [(.int (g_c ua ub us))])) _
    refine XS.bipush X0.here hx rfl (hb hby at_66) ?_
    show Steps p.tables e below (s₁.setTop (mkF m 68 #[.val (.int ua), .val (.int ub), .val (.int us), .val (.int (g_c ua ub us)), .val (.int (g_p ua ub us)), .val (.int (g_c ua ub us)), .val (.int (g_p ua ub us)), .val (.int (g_ctl ua ub us)), .unset, .unset, .unset, .unset, .unset] [(.int (127 : Int32)), (.int (g_c ua ub us))])) _
    by_cases hc68 : (g_c ua ub us) < (127 : Int32)
    · refine XS.icmpYes X0.here hx rfl (pc0 := 68) (pc' := 83) rfl (hb hby at_68) rfl (tlt hc68).1 (by decide) (by decide) ?_
      show Steps p.tables e below (s₁.setTop (mkF m 83 #[.val (.int ua), .val (.int ub), .val (.int us), .val (.int (g_c ua ub us)), .val (.int (g_p ua ub us)), .val (.int (g_c ua ub us)), .val (.int (g_p ua ub us)), .val (.int (g_ctl ua ub us)), .unset, .unset, .unset, .unset, .unset] [])) _
      refine XS.iconst X0.here hx rfl (hb hby at_83) ?_
      have hv : g_del ua ub us = (0 : Int32) := by unfold g_del; rw [if_pos hc68]
      rw [hv] at kt
      exact kt
    · refine XS.icmpNo X0.here hx rfl (hb hby at_68) rfl (flt hc68).1 ?_
      show Steps p.tables e below (s₁.setTop (mkF m 71 #[.val (.int ua), .val (.int ub), .val (.int us), .val (.int (g_c ua ub us)), .val (.int (g_p ua ub us)), .val (.int (g_c ua ub us)), .val (.int (g_p ua ub us)), .val (.int (g_ctl ua ub us)), .unset, .unset, .unset, .unset, .unset] [])) _
      refine XS.iload X0.here hx rfl (hb hby at_71) rfl ?_
      show Steps p.tables e below (s₁.setTop (mkF m 73 #[.val (.int ua), .val (.int ub), .val (.int us), .val (.int (g_c ua ub us)), .val (.int (g_p ua ub us)), .val (.int (g_c ua ub us)), .val (.int (g_p ua ub us)), .val (.int (g_ctl ua ub us)), .unset, .unset, .unset, .unset, .unset] [(.int (g_c ua ub us))])) _
      refine XS.sipush X0.here hx rfl (hb hby at_73) ?_
      show Steps p.tables e below (s₁.setTop (mkF m 76 #[.val (.int ua), .val (.int ub), .val (.int us), .val (.int (g_c ua ub us)), .val (.int (g_p ua ub us)), .val (.int (g_c ua ub us)), .val (.int (g_p ua ub us)), .val (.int (g_ctl ua ub us)), .unset, .unset, .unset, .unset, .unset] [(.int (159 : Int32)), (.int (g_c ua ub us))])) _
      by_cases hc76 : (159 : Int32) < (g_c ua ub us)
      · refine XS.icmpYes X0.here hx rfl (pc0 := 76) (pc' := 83) rfl (hb hby at_76) rfl (tlt hc76).2.2.1 (by decide) (by decide) ?_
        show Steps p.tables e below (s₁.setTop (mkF m 83 #[.val (.int ua), .val (.int ub), .val (.int us), .val (.int (g_c ua ub us)), .val (.int (g_p ua ub us)), .val (.int (g_c ua ub us)), .val (.int (g_p ua ub us)), .val (.int (g_ctl ua ub us)), .unset, .unset, .unset, .unset, .unset] [])) _
        refine XS.iconst X0.here hx rfl (hb hby at_83) ?_
        have hv : g_del ua ub us = (0 : Int32) := by unfold g_del; rw [if_neg hc68, if_pos hc76]
        rw [hv] at kt
        exact kt
      · refine XS.icmpNo X0.here hx rfl (hb hby at_76) rfl (flt hc76).2.2.1 ?_
        show Steps p.tables e below (s₁.setTop (mkF m 79 #[.val (.int ua), .val (.int ub), .val (.int us), .val (.int (g_c ua ub us)), .val (.int (g_p ua ub us)), .val (.int (g_c ua ub us)), .val (.int (g_p ua ub us)), .val (.int (g_ctl ua ub us)), .unset, .unset, .unset, .unset, .unset] [])) _
        refine XS.iconst X0.here hx rfl (hb hby at_79) ?_
        show Steps p.tables e below (s₁.setTop (mkF m 80 #[.val (.int ua), .val (.int ub), .val (.int us), .val (.int (g_c ua ub us)), .val (.int (g_p ua ub us)), .val (.int (g_c ua ub us)), .val (.int (g_p ua ub us)), .val (.int (g_ctl ua ub us)), .unset, .unset, .unset, .unset, .unset] [(.int (1 : Int32))])) _
        refine XS.goto X0.here hx rfl (pc0 := 80) (pc' := 84) rfl (hb hby at_80) (by decide) (by decide) ?_
        have hv : g_del ua ub us = (1 : Int32) := by unfold g_del; rw [if_neg hc68, if_neg hc76]
        rw [hv] at kt
        exact kt
  have sg86 : ∀ t, Steps p.tables e below (s₁.setTop (mkF m 98 #[.val (.int ua), .val (.int ub), .val (.int us), .val (.int (g_c ua ub us)), .val (.int (g_p ua ub us)), .val (.int (g_c ua ub us)), .val (.int (g_p ua ub us)), .val (.int (g_ctl ua ub us)), .val (.int (g_del ua ub us)), .unset, .unset, .unset, .unset] [(.int (g_bs ua ub us))])) t → Steps p.tables e below (s₁.setTop (mkF m 86 #[.val (.int ua), .val (.int ub), .val (.int us), .val (.int (g_c ua ub us)), .val (.int (g_p ua ub us)), .val (.int (g_c ua ub us)), .val (.int (g_p ua ub us)), .val (.int (g_ctl ua ub us)), .val (.int (g_del ua ub us)), .unset, .unset, .unset, .unset] [])) t := by
    intro t kt
    show Steps p.tables e below (s₁.setTop (mkF m 86 #[.val (.int ua), .val (.int ub), .val (.int us), .val (.int (g_c ua ub us)), .val (.int (g_p ua ub us)), .val (.int (g_c ua ub us)), .val (.int (g_p ua ub us)), .val (.int (g_ctl ua ub us)), .val (.int (g_del ua ub us)), .unset, .unset, .unset, .unset] [])) _
    refine XS.iload X0.here hx rfl (hb hby at_86) rfl ?_
    show Steps p.tables e below (s₁.setTop (mkF m 88 #[.val (.int ua), .val (.int ub), .val (.int us), .val (.int (g_c ua ub us)), .val (.int (g_p ua ub us)), .val (.int (g_c ua ub us)), .val (.int (g_p ua ub us)), .val (.int (g_ctl ua ub us)), .val (.int (g_del ua ub us)), .unset, .unset, .unset, .unset] [(.int (g_c ua ub us))])) _
    refine XS.bipush X0.here hx rfl (hb hby at_88) ?_
    show Steps p.tables e below (s₁.setTop (mkF m 90 #[.val (.int ua), .val (.int ub), .val (.int us), .val (.int (g_c ua ub us)), .val (.int (g_p ua ub us)), .val (.int (g_c ua ub us)), .val (.int (g_p ua ub us)), .val (.int (g_ctl ua ub us)), .val (.int (g_del ua ub us)), .unset, .unset, .unset, .unset] [(.int (92 : Int32)), (.int (g_c ua ub us))])) _
    by_cases hc90 : (g_c ua ub us) = (92 : Int32)
    · refine XS.icmpNo X0.here hx rfl (hb hby at_90) rfl (teq hc90).2 ?_
      show Steps p.tables e below (s₁.setTop (mkF m 93 #[.val (.int ua), .val (.int ub), .val (.int us), .val (.int (g_c ua ub us)), .val (.int (g_p ua ub us)), .val (.int (g_c ua ub us)), .val (.int (g_p ua ub us)), .val (.int (g_ctl ua ub us)), .val (.int (g_del ua ub us)), .unset, .unset, .unset, .unset] [])) _
      refine XS.iconst X0.here hx rfl (hb hby at_93) ?_
      show Steps p.tables e below (s₁.setTop (mkF m 94 #[.val (.int ua), .val (.int ub), .val (.int us), .val (.int (g_c ua ub us)), .val (.int (g_p ua ub us)), .val (.int (g_c ua ub us)), .val (.int (g_p ua ub us)), .val (.int (g_ctl ua ub us)), .val (.int (g_del ua ub us)), .unset, .unset, .unset, .unset] [(.int (1 : Int32))])) _
      refine XS.goto X0.here hx rfl (pc0 := 94) (pc' := 98) rfl (hb hby at_94) (by decide) (by decide) ?_
      have hv : g_bs ua ub us = (1 : Int32) := by unfold g_bs; rw [if_pos hc90]
      rw [hv] at kt
      exact kt
    · refine XS.icmpYes X0.here hx rfl (pc0 := 90) (pc' := 97) rfl (hb hby at_90) rfl (feq hc90).2 (by decide) (by decide) ?_
      show Steps p.tables e below (s₁.setTop (mkF m 97 #[.val (.int ua), .val (.int ub), .val (.int us), .val (.int (g_c ua ub us)), .val (.int (g_p ua ub us)), .val (.int (g_c ua ub us)), .val (.int (g_p ua ub us)), .val (.int (g_ctl ua ub us)), .val (.int (g_del ua ub us)), .unset, .unset, .unset, .unset] [])) _
      refine XS.iconst X0.here hx rfl (hb hby at_97) ?_
      have hv : g_bs ua ub us = (0 : Int32) := by unfold g_bs; rw [if_neg hc90]
      rw [hv] at kt
      exact kt
  have sg100 : ∀ t, Steps p.tables e below (s₁.setTop (mkF m 119 #[.val (.int ua), .val (.int ub), .val (.int us), .val (.int (g_c ua ub us)), .val (.int (g_p ua ub us)), .val (.int (g_c ua ub us)), .val (.int (g_p ua ub us)), .val (.int (g_ctl ua ub us)), .val (.int (g_del ua ub us)), .val (.int (g_bs ua ub us)), .unset, .unset, .unset] [(.int (g_non ua ub us))])) t → Steps p.tables e below (s₁.setTop (mkF m 100 #[.val (.int ua), .val (.int ub), .val (.int us), .val (.int (g_c ua ub us)), .val (.int (g_p ua ub us)), .val (.int (g_c ua ub us)), .val (.int (g_p ua ub us)), .val (.int (g_ctl ua ub us)), .val (.int (g_del ua ub us)), .val (.int (g_bs ua ub us)), .unset, .unset, .unset] [])) t := by
    intro t kt
    show Steps p.tables e below (s₁.setTop (mkF m 100 #[.val (.int ua), .val (.int ub), .val (.int us), .val (.int (g_c ua ub us)), .val (.int (g_p ua ub us)), .val (.int (g_c ua ub us)), .val (.int (g_p ua ub us)), .val (.int (g_ctl ua ub us)), .val (.int (g_del ua ub us)), .val (.int (g_bs ua ub us)), .unset, .unset, .unset] [])) _
    refine XS.iload X0.here hx rfl (hb hby at_100) rfl ?_
    show Steps p.tables e below (s₁.setTop (mkF m 102 #[.val (.int ua), .val (.int ub), .val (.int us), .val (.int (g_c ua ub us)), .val (.int (g_p ua ub us)), .val (.int (g_c ua ub us)), .val (.int (g_p ua ub us)), .val (.int (g_ctl ua ub us)), .val (.int (g_del ua ub us)), .val (.int (g_bs ua ub us)), .unset, .unset, .unset] [(.int (g_c ua ub us))])) _
    refine X0.ldcInt hx hown (mvT hZ (hw _ (List.mem_of_getElem? (i := 0) rfl))) (g := (mkF m 102 #[.val (.int ua), .val (.int ub), .val (.int us), .val (.int (g_c ua ub us)), .val (.int (g_p ua ub us)), .val (.int (g_c ua ub us)), .val (.int (g_p ua ub us)), .val (.int (g_ctl ua ub us)), .val (.int (g_del ua ub us)), .val (.int (g_bs ua ub us)), .unset, .unset, .unset] [(.int (g_c ua ub us))])) rfl (hb hby at_102) _ ?_
    show Steps p.tables e below (s₁.setTop (mkF m 104 #[.val (.int ua), .val (.int ub), .val (.int us), .val (.int (g_c ua ub us)), .val (.int (g_p ua ub us)), .val (.int (g_c ua ub us)), .val (.int (g_p ua ub us)), .val (.int (g_ctl ua ub us)), .val (.int (g_del ua ub us)), .val (.int (g_bs ua ub us)), .unset, .unset, .unset] [(.int (65534 : Int32)), (.int (g_c ua ub us))])) _
    by_cases hc104 : (g_c ua ub us) = (65534 : Int32)
    · refine XS.icmpYes X0.here hx rfl (pc0 := 104) (pc' := 114) rfl (hb hby at_104) rfl (teq hc104).1 (by decide) (by decide) ?_
      show Steps p.tables e below (s₁.setTop (mkF m 114 #[.val (.int ua), .val (.int ub), .val (.int us), .val (.int (g_c ua ub us)), .val (.int (g_p ua ub us)), .val (.int (g_c ua ub us)), .val (.int (g_p ua ub us)), .val (.int (g_ctl ua ub us)), .val (.int (g_del ua ub us)), .val (.int (g_bs ua ub us)), .unset, .unset, .unset] [])) _
      refine XS.iconst X0.here hx rfl (hb hby at_114) ?_
      show Steps p.tables e below (s₁.setTop (mkF m 115 #[.val (.int ua), .val (.int ub), .val (.int us), .val (.int (g_c ua ub us)), .val (.int (g_p ua ub us)), .val (.int (g_c ua ub us)), .val (.int (g_p ua ub us)), .val (.int (g_ctl ua ub us)), .val (.int (g_del ua ub us)), .val (.int (g_bs ua ub us)), .unset, .unset, .unset] [(.int (1 : Int32))])) _
      refine XS.goto X0.here hx rfl (pc0 := 115) (pc' := 119) rfl (hb hby at_115) (by decide) (by decide) ?_
      have hv : g_non ua ub us = (1 : Int32) := by unfold g_non; rw [if_pos hc104]
      rw [hv] at kt
      exact kt
    · refine XS.icmpNo X0.here hx rfl (hb hby at_104) rfl (feq hc104).1 ?_
      show Steps p.tables e below (s₁.setTop (mkF m 107 #[.val (.int ua), .val (.int ub), .val (.int us), .val (.int (g_c ua ub us)), .val (.int (g_p ua ub us)), .val (.int (g_c ua ub us)), .val (.int (g_p ua ub us)), .val (.int (g_ctl ua ub us)), .val (.int (g_del ua ub us)), .val (.int (g_bs ua ub us)), .unset, .unset, .unset] [])) _
      refine XS.iload X0.here hx rfl (hb hby at_107) rfl ?_
      show Steps p.tables e below (s₁.setTop (mkF m 109 #[.val (.int ua), .val (.int ub), .val (.int us), .val (.int (g_c ua ub us)), .val (.int (g_p ua ub us)), .val (.int (g_c ua ub us)), .val (.int (g_p ua ub us)), .val (.int (g_ctl ua ub us)), .val (.int (g_del ua ub us)), .val (.int (g_bs ua ub us)), .unset, .unset, .unset] [(.int (g_c ua ub us))])) _
      refine X0.ldcInt hx hown (mvT hZ (hw _ (List.mem_of_getElem? (i := 1) rfl))) (g := (mkF m 109 #[.val (.int ua), .val (.int ub), .val (.int us), .val (.int (g_c ua ub us)), .val (.int (g_p ua ub us)), .val (.int (g_c ua ub us)), .val (.int (g_p ua ub us)), .val (.int (g_ctl ua ub us)), .val (.int (g_del ua ub us)), .val (.int (g_bs ua ub us)), .unset, .unset, .unset] [(.int (g_c ua ub us))])) rfl (hb hby at_109) _ ?_
      show Steps p.tables e below (s₁.setTop (mkF m 111 #[.val (.int ua), .val (.int ub), .val (.int us), .val (.int (g_c ua ub us)), .val (.int (g_p ua ub us)), .val (.int (g_c ua ub us)), .val (.int (g_p ua ub us)), .val (.int (g_ctl ua ub us)), .val (.int (g_del ua ub us)), .val (.int (g_bs ua ub us)), .unset, .unset, .unset] [(.int (65535 : Int32)), (.int (g_c ua ub us))])) _
      by_cases hc111 : (g_c ua ub us) = (65535 : Int32)
      · refine XS.icmpNo X0.here hx rfl (hb hby at_111) rfl (teq hc111).2 ?_
        show Steps p.tables e below (s₁.setTop (mkF m 114 #[.val (.int ua), .val (.int ub), .val (.int us), .val (.int (g_c ua ub us)), .val (.int (g_p ua ub us)), .val (.int (g_c ua ub us)), .val (.int (g_p ua ub us)), .val (.int (g_ctl ua ub us)), .val (.int (g_del ua ub us)), .val (.int (g_bs ua ub us)), .unset, .unset, .unset] [])) _
        refine XS.iconst X0.here hx rfl (hb hby at_114) ?_
        show Steps p.tables e below (s₁.setTop (mkF m 115 #[.val (.int ua), .val (.int ub), .val (.int us), .val (.int (g_c ua ub us)), .val (.int (g_p ua ub us)), .val (.int (g_c ua ub us)), .val (.int (g_p ua ub us)), .val (.int (g_ctl ua ub us)), .val (.int (g_del ua ub us)), .val (.int (g_bs ua ub us)), .unset, .unset, .unset] [(.int (1 : Int32))])) _
        refine XS.goto X0.here hx rfl (pc0 := 115) (pc' := 119) rfl (hb hby at_115) (by decide) (by decide) ?_
        have hv : g_non ua ub us = (1 : Int32) := by unfold g_non; rw [if_neg hc104, if_pos hc111]
        rw [hv] at kt
        exact kt
      · refine XS.icmpYes X0.here hx rfl (pc0 := 111) (pc' := 118) rfl (hb hby at_111) rfl (feq hc111).2 (by decide) (by decide) ?_
        show Steps p.tables e below (s₁.setTop (mkF m 118 #[.val (.int ua), .val (.int ub), .val (.int us), .val (.int (g_c ua ub us)), .val (.int (g_p ua ub us)), .val (.int (g_c ua ub us)), .val (.int (g_p ua ub us)), .val (.int (g_ctl ua ub us)), .val (.int (g_del ua ub us)), .val (.int (g_bs ua ub us)), .unset, .unset, .unset] [])) _
        refine XS.iconst X0.here hx rfl (hb hby at_118) ?_
        have hv : g_non ua ub us = (0 : Int32) := by unfold g_non; rw [if_neg hc104, if_neg hc111]
        rw [hv] at kt
        exact kt
  have sg121 : ∀ t, Steps p.tables e below (s₁.setTop (mkF m 140 #[.val (.int ua), .val (.int ub), .val (.int us), .val (.int (g_c ua ub us)), .val (.int (g_p ua ub us)), .val (.int (g_c ua ub us)), .val (.int (g_p ua ub us)), .val (.int (g_ctl ua ub us)), .val (.int (g_del ua ub us)), .val (.int (g_bs ua ub us)), .val (.int (g_non ua ub us)), .unset, .unset] [(.int (g_sp ua ub us))])) t → Steps p.tables e below (s₁.setTop (mkF m 121 #[.val (.int ua), .val (.int ub), .val (.int us), .val (.int (g_c ua ub us)), .val (.int (g_p ua ub us)), .val (.int (g_c ua ub us)), .val (.int (g_p ua ub us)), .val (.int (g_ctl ua ub us)), .val (.int (g_del ua ub us)), .val (.int (g_bs ua ub us)), .val (.int (g_non ua ub us)), .unset, .unset] [])) t := by
    intro t kt
    show Steps p.tables e below (s₁.setTop (mkF m 121 #[.val (.int ua), .val (.int ub), .val (.int us), .val (.int (g_c ua ub us)), .val (.int (g_p ua ub us)), .val (.int (g_c ua ub us)), .val (.int (g_p ua ub us)), .val (.int (g_ctl ua ub us)), .val (.int (g_del ua ub us)), .val (.int (g_bs ua ub us)), .val (.int (g_non ua ub us)), .unset, .unset] [])) _
    refine XS.iload X0.here hx rfl (hb hby at_121) rfl ?_
    show Steps p.tables e below (s₁.setTop (mkF m 123 #[.val (.int ua), .val (.int ub), .val (.int us), .val (.int (g_c ua ub us)), .val (.int (g_p ua ub us)), .val (.int (g_c ua ub us)), .val (.int (g_p ua ub us)), .val (.int (g_ctl ua ub us)), .val (.int (g_del ua ub us)), .val (.int (g_bs ua ub us)), .val (.int (g_non ua ub us)), .unset, .unset] [(.int (g_c ua ub us))])) _
    refine XS.bipush X0.here hx rfl (hb hby at_123) ?_
    show Steps p.tables e below (s₁.setTop (mkF m 125 #[.val (.int ua), .val (.int ub), .val (.int us), .val (.int (g_c ua ub us)), .val (.int (g_p ua ub us)), .val (.int (g_c ua ub us)), .val (.int (g_p ua ub us)), .val (.int (g_ctl ua ub us)), .val (.int (g_del ua ub us)), .val (.int (g_bs ua ub us)), .val (.int (g_non ua ub us)), .unset, .unset] [(.int (32 : Int32)), (.int (g_c ua ub us))])) _
    by_cases hc125 : (g_c ua ub us) = (32 : Int32)
    · refine XS.icmpNo X0.here hx rfl (hb hby at_125) rfl (teq hc125).2 ?_
      show Steps p.tables e below (s₁.setTop (mkF m 128 #[.val (.int ua), .val (.int ub), .val (.int us), .val (.int (g_c ua ub us)), .val (.int (g_p ua ub us)), .val (.int (g_c ua ub us)), .val (.int (g_p ua ub us)), .val (.int (g_ctl ua ub us)), .val (.int (g_del ua ub us)), .val (.int (g_bs ua ub us)), .val (.int (g_non ua ub us)), .unset, .unset] [])) _
      refine XS.iload X0.here hx rfl (hb hby at_128) rfl ?_
      show Steps p.tables e below (s₁.setTop (mkF m 130 #[.val (.int ua), .val (.int ub), .val (.int us), .val (.int (g_c ua ub us)), .val (.int (g_p ua ub us)), .val (.int (g_c ua ub us)), .val (.int (g_p ua ub us)), .val (.int (g_ctl ua ub us)), .val (.int (g_del ua ub us)), .val (.int (g_bs ua ub us)), .val (.int (g_non ua ub us)), .unset, .unset] [(.int (g_p ua ub us))])) _
      refine XS.bipush X0.here hx rfl (hb hby at_130) ?_
      show Steps p.tables e below (s₁.setTop (mkF m 132 #[.val (.int ua), .val (.int ub), .val (.int us), .val (.int (g_c ua ub us)), .val (.int (g_p ua ub us)), .val (.int (g_c ua ub us)), .val (.int (g_p ua ub us)), .val (.int (g_ctl ua ub us)), .val (.int (g_del ua ub us)), .val (.int (g_bs ua ub us)), .val (.int (g_non ua ub us)), .unset, .unset] [(.int (32 : Int32)), (.int (g_p ua ub us))])) _
      by_cases hc132 : (g_p ua ub us) = (32 : Int32)
      · refine XS.icmpNo X0.here hx rfl (hb hby at_132) rfl (teq hc132).2 ?_
        show Steps p.tables e below (s₁.setTop (mkF m 135 #[.val (.int ua), .val (.int ub), .val (.int us), .val (.int (g_c ua ub us)), .val (.int (g_p ua ub us)), .val (.int (g_c ua ub us)), .val (.int (g_p ua ub us)), .val (.int (g_ctl ua ub us)), .val (.int (g_del ua ub us)), .val (.int (g_bs ua ub us)), .val (.int (g_non ua ub us)), .unset, .unset] [])) _
        refine XS.iconst X0.here hx rfl (hb hby at_135) ?_
        show Steps p.tables e below (s₁.setTop (mkF m 136 #[.val (.int ua), .val (.int ub), .val (.int us), .val (.int (g_c ua ub us)), .val (.int (g_p ua ub us)), .val (.int (g_c ua ub us)), .val (.int (g_p ua ub us)), .val (.int (g_ctl ua ub us)), .val (.int (g_del ua ub us)), .val (.int (g_bs ua ub us)), .val (.int (g_non ua ub us)), .unset, .unset] [(.int (1 : Int32))])) _
        refine XS.goto X0.here hx rfl (pc0 := 136) (pc' := 140) rfl (hb hby at_136) (by decide) (by decide) ?_
        have hv : g_sp ua ub us = (1 : Int32) := by unfold g_sp; rw [if_pos hc125, if_pos hc132]
        rw [hv] at kt
        exact kt
      · refine XS.icmpYes X0.here hx rfl (pc0 := 132) (pc' := 139) rfl (hb hby at_132) rfl (feq hc132).2 (by decide) (by decide) ?_
        show Steps p.tables e below (s₁.setTop (mkF m 139 #[.val (.int ua), .val (.int ub), .val (.int us), .val (.int (g_c ua ub us)), .val (.int (g_p ua ub us)), .val (.int (g_c ua ub us)), .val (.int (g_p ua ub us)), .val (.int (g_ctl ua ub us)), .val (.int (g_del ua ub us)), .val (.int (g_bs ua ub us)), .val (.int (g_non ua ub us)), .unset, .unset] [])) _
        refine XS.iconst X0.here hx rfl (hb hby at_139) ?_
        have hv : g_sp ua ub us = (0 : Int32) := by unfold g_sp; rw [if_pos hc125, if_neg hc132]
        rw [hv] at kt
        exact kt
    · refine XS.icmpYes X0.here hx rfl (pc0 := 125) (pc' := 139) rfl (hb hby at_125) rfl (feq hc125).2 (by decide) (by decide) ?_
      show Steps p.tables e below (s₁.setTop (mkF m 139 #[.val (.int ua), .val (.int ub), .val (.int us), .val (.int (g_c ua ub us)), .val (.int (g_p ua ub us)), .val (.int (g_c ua ub us)), .val (.int (g_p ua ub us)), .val (.int (g_ctl ua ub us)), .val (.int (g_del ua ub us)), .val (.int (g_bs ua ub us)), .val (.int (g_non ua ub us)), .unset, .unset] [])) _
      refine XS.iconst X0.here hx rfl (hb hby at_139) ?_
      have hv : g_sp ua ub us = (0 : Int32) := by unfold g_sp; rw [if_neg hc125]
      rw [hv] at kt
      exact kt
  have sg142 : ∀ t, Steps p.tables e below (s₁.setTop (mkF m 172 #[.val (.int ua), .val (.int ub), .val (.int us), .val (.int (g_c ua ub us)), .val (.int (g_p ua ub us)), .val (.int (g_c ua ub us)), .val (.int (g_p ua ub us)), .val (.int (g_ctl ua ub us)), .val (.int (g_del ua ub us)), .val (.int (g_bs ua ub us)), .val (.int (g_non ua ub us)), .val (.int (g_sp ua ub us)), .unset] [(.int (g_exp ua ub us))])) t → Steps p.tables e below (s₁.setTop (mkF m 142 #[.val (.int ua), .val (.int ub), .val (.int us), .val (.int (g_c ua ub us)), .val (.int (g_p ua ub us)), .val (.int (g_c ua ub us)), .val (.int (g_p ua ub us)), .val (.int (g_ctl ua ub us)), .val (.int (g_del ua ub us)), .val (.int (g_bs ua ub us)), .val (.int (g_non ua ub us)), .val (.int (g_sp ua ub us)), .unset] [])) t := by
    intro t kt
    show Steps p.tables e below (s₁.setTop (mkF m 142 #[.val (.int ua), .val (.int ub), .val (.int us), .val (.int (g_c ua ub us)), .val (.int (g_p ua ub us)), .val (.int (g_c ua ub us)), .val (.int (g_p ua ub us)), .val (.int (g_ctl ua ub us)), .val (.int (g_del ua ub us)), .val (.int (g_bs ua ub us)), .val (.int (g_non ua ub us)), .val (.int (g_sp ua ub us)), .unset] [])) _
    refine XS.iload X0.here hx rfl (hb hby at_142) rfl ?_
    show Steps p.tables e below (s₁.setTop (mkF m 144 #[.val (.int ua), .val (.int ub), .val (.int us), .val (.int (g_c ua ub us)), .val (.int (g_p ua ub us)), .val (.int (g_c ua ub us)), .val (.int (g_p ua ub us)), .val (.int (g_ctl ua ub us)), .val (.int (g_del ua ub us)), .val (.int (g_bs ua ub us)), .val (.int (g_non ua ub us)), .val (.int (g_sp ua ub us)), .unset] [(.int (g_ctl ua ub us))])) _
    by_cases hc144 : (g_ctl ua ub us) = (0 : Int32)
    · refine XS.ifNo X0.here hx rfl (hb hby at_144) rfl ((if0 _ _).trans (teq hc144).2) ?_
      show Steps p.tables e below (s₁.setTop (mkF m 147 #[.val (.int ua), .val (.int ub), .val (.int us), .val (.int (g_c ua ub us)), .val (.int (g_p ua ub us)), .val (.int (g_c ua ub us)), .val (.int (g_p ua ub us)), .val (.int (g_ctl ua ub us)), .val (.int (g_del ua ub us)), .val (.int (g_bs ua ub us)), .val (.int (g_non ua ub us)), .val (.int (g_sp ua ub us)), .unset] [])) _
      refine XS.iload X0.here hx rfl (hb hby at_147) rfl ?_
      show Steps p.tables e below (s₁.setTop (mkF m 149 #[.val (.int ua), .val (.int ub), .val (.int us), .val (.int (g_c ua ub us)), .val (.int (g_p ua ub us)), .val (.int (g_c ua ub us)), .val (.int (g_p ua ub us)), .val (.int (g_ctl ua ub us)), .val (.int (g_del ua ub us)), .val (.int (g_bs ua ub us)), .val (.int (g_non ua ub us)), .val (.int (g_sp ua ub us)), .unset] [(.int (g_del ua ub us))])) _
      by_cases hc149 : (g_del ua ub us) = (0 : Int32)
      · refine XS.ifNo X0.here hx rfl (hb hby at_149) rfl ((if0 _ _).trans (teq hc149).2) ?_
        show Steps p.tables e below (s₁.setTop (mkF m 152 #[.val (.int ua), .val (.int ub), .val (.int us), .val (.int (g_c ua ub us)), .val (.int (g_p ua ub us)), .val (.int (g_c ua ub us)), .val (.int (g_p ua ub us)), .val (.int (g_ctl ua ub us)), .val (.int (g_del ua ub us)), .val (.int (g_bs ua ub us)), .val (.int (g_non ua ub us)), .val (.int (g_sp ua ub us)), .unset] [])) _
        refine XS.iload X0.here hx rfl (hb hby at_152) rfl ?_
        show Steps p.tables e below (s₁.setTop (mkF m 154 #[.val (.int ua), .val (.int ub), .val (.int us), .val (.int (g_c ua ub us)), .val (.int (g_p ua ub us)), .val (.int (g_c ua ub us)), .val (.int (g_p ua ub us)), .val (.int (g_ctl ua ub us)), .val (.int (g_del ua ub us)), .val (.int (g_bs ua ub us)), .val (.int (g_non ua ub us)), .val (.int (g_sp ua ub us)), .unset] [(.int (g_bs ua ub us))])) _
        by_cases hc154 : (g_bs ua ub us) = (0 : Int32)
        · refine XS.ifNo X0.here hx rfl (hb hby at_154) rfl ((if0 _ _).trans (teq hc154).2) ?_
          show Steps p.tables e below (s₁.setTop (mkF m 157 #[.val (.int ua), .val (.int ub), .val (.int us), .val (.int (g_c ua ub us)), .val (.int (g_p ua ub us)), .val (.int (g_c ua ub us)), .val (.int (g_p ua ub us)), .val (.int (g_ctl ua ub us)), .val (.int (g_del ua ub us)), .val (.int (g_bs ua ub us)), .val (.int (g_non ua ub us)), .val (.int (g_sp ua ub us)), .unset] [])) _
          refine XS.iload X0.here hx rfl (hb hby at_157) rfl ?_
          show Steps p.tables e below (s₁.setTop (mkF m 159 #[.val (.int ua), .val (.int ub), .val (.int us), .val (.int (g_c ua ub us)), .val (.int (g_p ua ub us)), .val (.int (g_c ua ub us)), .val (.int (g_p ua ub us)), .val (.int (g_ctl ua ub us)), .val (.int (g_del ua ub us)), .val (.int (g_bs ua ub us)), .val (.int (g_non ua ub us)), .val (.int (g_sp ua ub us)), .unset] [(.int (g_non ua ub us))])) _
          by_cases hc159 : (g_non ua ub us) = (0 : Int32)
          · refine XS.ifNo X0.here hx rfl (hb hby at_159) rfl ((if0 _ _).trans (teq hc159).2) ?_
            show Steps p.tables e below (s₁.setTop (mkF m 162 #[.val (.int ua), .val (.int ub), .val (.int us), .val (.int (g_c ua ub us)), .val (.int (g_p ua ub us)), .val (.int (g_c ua ub us)), .val (.int (g_p ua ub us)), .val (.int (g_ctl ua ub us)), .val (.int (g_del ua ub us)), .val (.int (g_bs ua ub us)), .val (.int (g_non ua ub us)), .val (.int (g_sp ua ub us)), .unset] [])) _
            refine XS.iload X0.here hx rfl (hb hby at_162) rfl ?_
            show Steps p.tables e below (s₁.setTop (mkF m 164 #[.val (.int ua), .val (.int ub), .val (.int us), .val (.int (g_c ua ub us)), .val (.int (g_p ua ub us)), .val (.int (g_c ua ub us)), .val (.int (g_p ua ub us)), .val (.int (g_ctl ua ub us)), .val (.int (g_del ua ub us)), .val (.int (g_bs ua ub us)), .val (.int (g_non ua ub us)), .val (.int (g_sp ua ub us)), .unset] [(.int (g_sp ua ub us))])) _
            by_cases hc164 : (g_sp ua ub us) = (0 : Int32)
            · refine XS.ifYes X0.here hx rfl (pc0 := 164) (pc' := 171) rfl (hb hby at_164) rfl ((if0 _ _).trans (teq hc164).1) (by decide) (by decide) ?_
              show Steps p.tables e below (s₁.setTop (mkF m 171 #[.val (.int ua), .val (.int ub), .val (.int us), .val (.int (g_c ua ub us)), .val (.int (g_p ua ub us)), .val (.int (g_c ua ub us)), .val (.int (g_p ua ub us)), .val (.int (g_ctl ua ub us)), .val (.int (g_del ua ub us)), .val (.int (g_bs ua ub us)), .val (.int (g_non ua ub us)), .val (.int (g_sp ua ub us)), .unset] [])) _
              refine XS.iconst X0.here hx rfl (hb hby at_171) ?_
              have hv : g_exp ua ub us = (0 : Int32) := by unfold g_exp; rw [if_pos hc144, if_pos hc149, if_pos hc154, if_pos hc159, if_pos hc164]
              rw [hv] at kt
              exact kt
            · refine XS.ifNo X0.here hx rfl (hb hby at_164) rfl ((if0 _ _).trans (feq hc164).1) ?_
              show Steps p.tables e below (s₁.setTop (mkF m 167 #[.val (.int ua), .val (.int ub), .val (.int us), .val (.int (g_c ua ub us)), .val (.int (g_p ua ub us)), .val (.int (g_c ua ub us)), .val (.int (g_p ua ub us)), .val (.int (g_ctl ua ub us)), .val (.int (g_del ua ub us)), .val (.int (g_bs ua ub us)), .val (.int (g_non ua ub us)), .val (.int (g_sp ua ub us)), .unset] [])) _
              refine XS.iconst X0.here hx rfl (hb hby at_167) ?_
              show Steps p.tables e below (s₁.setTop (mkF m 168 #[.val (.int ua), .val (.int ub), .val (.int us), .val (.int (g_c ua ub us)), .val (.int (g_p ua ub us)), .val (.int (g_c ua ub us)), .val (.int (g_p ua ub us)), .val (.int (g_ctl ua ub us)), .val (.int (g_del ua ub us)), .val (.int (g_bs ua ub us)), .val (.int (g_non ua ub us)), .val (.int (g_sp ua ub us)), .unset] [(.int (1 : Int32))])) _
              refine XS.goto X0.here hx rfl (pc0 := 168) (pc' := 172) rfl (hb hby at_168) (by decide) (by decide) ?_
              have hv : g_exp ua ub us = (1 : Int32) := by unfold g_exp; rw [if_pos hc144, if_pos hc149, if_pos hc154, if_pos hc159, if_neg hc164]
              rw [hv] at kt
              exact kt
          · refine XS.ifYes X0.here hx rfl (pc0 := 159) (pc' := 167) rfl (hb hby at_159) rfl ((if0 _ _).trans (feq hc159).2) (by decide) (by decide) ?_
            show Steps p.tables e below (s₁.setTop (mkF m 167 #[.val (.int ua), .val (.int ub), .val (.int us), .val (.int (g_c ua ub us)), .val (.int (g_p ua ub us)), .val (.int (g_c ua ub us)), .val (.int (g_p ua ub us)), .val (.int (g_ctl ua ub us)), .val (.int (g_del ua ub us)), .val (.int (g_bs ua ub us)), .val (.int (g_non ua ub us)), .val (.int (g_sp ua ub us)), .unset] [])) _
            refine XS.iconst X0.here hx rfl (hb hby at_167) ?_
            show Steps p.tables e below (s₁.setTop (mkF m 168 #[.val (.int ua), .val (.int ub), .val (.int us), .val (.int (g_c ua ub us)), .val (.int (g_p ua ub us)), .val (.int (g_c ua ub us)), .val (.int (g_p ua ub us)), .val (.int (g_ctl ua ub us)), .val (.int (g_del ua ub us)), .val (.int (g_bs ua ub us)), .val (.int (g_non ua ub us)), .val (.int (g_sp ua ub us)), .unset] [(.int (1 : Int32))])) _
            refine XS.goto X0.here hx rfl (pc0 := 168) (pc' := 172) rfl (hb hby at_168) (by decide) (by decide) ?_
            have hv : g_exp ua ub us = (1 : Int32) := by unfold g_exp; rw [if_pos hc144, if_pos hc149, if_pos hc154, if_neg hc159]
            rw [hv] at kt
            exact kt
        · refine XS.ifYes X0.here hx rfl (pc0 := 154) (pc' := 167) rfl (hb hby at_154) rfl ((if0 _ _).trans (feq hc154).2) (by decide) (by decide) ?_
          show Steps p.tables e below (s₁.setTop (mkF m 167 #[.val (.int ua), .val (.int ub), .val (.int us), .val (.int (g_c ua ub us)), .val (.int (g_p ua ub us)), .val (.int (g_c ua ub us)), .val (.int (g_p ua ub us)), .val (.int (g_ctl ua ub us)), .val (.int (g_del ua ub us)), .val (.int (g_bs ua ub us)), .val (.int (g_non ua ub us)), .val (.int (g_sp ua ub us)), .unset] [])) _
          refine XS.iconst X0.here hx rfl (hb hby at_167) ?_
          show Steps p.tables e below (s₁.setTop (mkF m 168 #[.val (.int ua), .val (.int ub), .val (.int us), .val (.int (g_c ua ub us)), .val (.int (g_p ua ub us)), .val (.int (g_c ua ub us)), .val (.int (g_p ua ub us)), .val (.int (g_ctl ua ub us)), .val (.int (g_del ua ub us)), .val (.int (g_bs ua ub us)), .val (.int (g_non ua ub us)), .val (.int (g_sp ua ub us)), .unset] [(.int (1 : Int32))])) _
          refine XS.goto X0.here hx rfl (pc0 := 168) (pc' := 172) rfl (hb hby at_168) (by decide) (by decide) ?_
          have hv : g_exp ua ub us = (1 : Int32) := by unfold g_exp; rw [if_pos hc144, if_pos hc149, if_neg hc154]
          rw [hv] at kt
          exact kt
      · refine XS.ifYes X0.here hx rfl (pc0 := 149) (pc' := 167) rfl (hb hby at_149) rfl ((if0 _ _).trans (feq hc149).2) (by decide) (by decide) ?_
        show Steps p.tables e below (s₁.setTop (mkF m 167 #[.val (.int ua), .val (.int ub), .val (.int us), .val (.int (g_c ua ub us)), .val (.int (g_p ua ub us)), .val (.int (g_c ua ub us)), .val (.int (g_p ua ub us)), .val (.int (g_ctl ua ub us)), .val (.int (g_del ua ub us)), .val (.int (g_bs ua ub us)), .val (.int (g_non ua ub us)), .val (.int (g_sp ua ub us)), .unset] [])) _
        refine XS.iconst X0.here hx rfl (hb hby at_167) ?_
        show Steps p.tables e below (s₁.setTop (mkF m 168 #[.val (.int ua), .val (.int ub), .val (.int us), .val (.int (g_c ua ub us)), .val (.int (g_p ua ub us)), .val (.int (g_c ua ub us)), .val (.int (g_p ua ub us)), .val (.int (g_ctl ua ub us)), .val (.int (g_del ua ub us)), .val (.int (g_bs ua ub us)), .val (.int (g_non ua ub us)), .val (.int (g_sp ua ub us)), .unset] [(.int (1 : Int32))])) _
        refine XS.goto X0.here hx rfl (pc0 := 168) (pc' := 172) rfl (hb hby at_168) (by decide) (by decide) ?_
        have hv : g_exp ua ub us = (1 : Int32) := by unfold g_exp; rw [if_pos hc144, if_neg hc149]
        rw [hv] at kt
        exact kt
    · refine XS.ifYes X0.here hx rfl (pc0 := 144) (pc' := 167) rfl (hb hby at_144) rfl ((if0 _ _).trans (feq hc144).2) (by decide) (by decide) ?_
      show Steps p.tables e below (s₁.setTop (mkF m 167 #[.val (.int ua), .val (.int ub), .val (.int us), .val (.int (g_c ua ub us)), .val (.int (g_p ua ub us)), .val (.int (g_c ua ub us)), .val (.int (g_p ua ub us)), .val (.int (g_ctl ua ub us)), .val (.int (g_del ua ub us)), .val (.int (g_bs ua ub us)), .val (.int (g_non ua ub us)), .val (.int (g_sp ua ub us)), .unset] [])) _
      refine XS.iconst X0.here hx rfl (hb hby at_167) ?_
      show Steps p.tables e below (s₁.setTop (mkF m 168 #[.val (.int ua), .val (.int ub), .val (.int us), .val (.int (g_c ua ub us)), .val (.int (g_p ua ub us)), .val (.int (g_c ua ub us)), .val (.int (g_p ua ub us)), .val (.int (g_ctl ua ub us)), .val (.int (g_del ua ub us)), .val (.int (g_bs ua ub us)), .val (.int (g_non ua ub us)), .val (.int (g_sp ua ub us)), .unset] [(.int (1 : Int32))])) _
      refine XS.goto X0.here hx rfl (pc0 := 168) (pc' := 172) rfl (hb hby at_168) (by decide) (by decide) ?_
      have hv : g_exp ua ub us = (1 : Int32) := by unfold g_exp; rw [if_neg hc144]
      rw [hv] at kt
      exact kt
  obtain ⟨_, _, ⟨T1, L1, k1, n1⟩, -, X1, ⟨Lc1, hQ1, l1, y1, z1⟩, st1⟩ := Jvm.LawKit.callS X0 hx (y := (⟨"com/example/tabularium/tabularium/siard/TextEscapes", "escaped", "(CC)Z"⟩ : MethodName)) hown (mvT hZ (hw _ (List.mem_of_getElem? (i := 2) rfl))) (mvT hZ (hw _ (List.mem_of_getElem? (i := 3) rfl))) (mvT hZ (hw _ (List.mem_of_getElem? (i := 4) rfl))) (mvT hZ (hw _ (List.mem_of_getElem? (i := 5) rfl))) (by decide) (backOf (W := 0) (rm1 l Z a0 hw [] (g_c ua ub us) (g_p ua ub us) h0 n0) hZ (hw _ (List.mem_of_getElem? (i := 5) rfl)) (hw _ (List.mem_of_getElem? (i := 4) rfl)) (by decide) (by decide)) (g := (mkF m 177 #[.val (.int ua), .val (.int ub), .val (.int us), .val (.int (g_c ua ub us)), .val (.int (g_p ua ub us)), .val (.int (g_c ua ub us)), .val (.int (g_p ua ub us)), .val (.int (g_ctl ua ub us)), .val (.int (g_del ua ub us)), .val (.int (g_bs ua ub us)), .val (.int (g_non ua ub us)), .val (.int (g_sp ua ub us)), .val (.int (g_exp ua ub us))] [(.int (g_p ua ub us)), (.int (g_c ua ub us))])) rfl (by rw [hml]; rfl) (argsL := [(.int (g_c ua ub us)), (.int (g_p ua ub us))]) (rest := []) (lenOf pd_0 rfl) rfl (by show 2 * 0 + _ ≤ _; exact Nat.le_of_eq rfl) (hb hby at_177) (fun _ _ => ⟨rfl, e0, (by decide : 0 + 0 ≤ _), (by decide : 0 + 0 ≤ _)⟩)
  dsimp only [Pt.U, Pt.locs, Pt.cells, Pt.slots] at X1 l1 y1 z1 st1 hQ1
  subst l1 y1 z1
  obtain ⟨rfl, N1q, e1q⟩ := hQ1
  have N1 := Fr.app N0 N1q
  obtain ⟨fs, hr, hrun, hended, hW, hsame⟩ := X1.leave (v := some (.int (1 : Int32))) (fun h => by rw [Bd.returns] at h; cases h)
  refine ⟨_, _, pre0 _ ?_, hrun, hended, _, _, rfl, ?_, ⟨_, rfl⟩, hW, hsame.mono (by decide) (by decide)⟩
  · show Steps p.tables e below (s₁.setTop (mkF m 0 #[.val (.int ua), .val (.int ub), .val (.int us), .unset, .unset, .unset, .unset, .unset, .unset, .unset, .unset, .unset, .unset] [])) _
    refine sg0 _ ?_
    show Steps p.tables e below (s₁.setTop (mkF m 13 #[.val (.int ua), .val (.int ub), .val (.int us), .unset, .unset, .unset, .unset, .unset, .unset, .unset, .unset, .unset, .unset] [(.int (g_c ua ub us))])) _
    refine XS.istoreN X0.here hx rfl (hb hby at_13) rfl (l' := #[.val (.int ua), .val (.int ub), .val (.int us), .val (.int (g_c ua ub us)), .unset, .unset, .unset, .unset, .unset, .unset, .unset, .unset, .unset]) rfl ?_
    show Steps p.tables e below (s₁.setTop (mkF m 14 #[.val (.int ua), .val (.int ub), .val (.int us), .val (.int (g_c ua ub us)), .unset, .unset, .unset, .unset, .unset, .unset, .unset, .unset, .unset] [])) _
    refine sg14 _ ?_
    show Steps p.tables e below (s₁.setTop (mkF m 27 #[.val (.int ua), .val (.int ub), .val (.int us), .val (.int (g_c ua ub us)), .unset, .unset, .unset, .unset, .unset, .unset, .unset, .unset, .unset] [(.int (g_p ua ub us))])) _
    refine XS.istore X0.here hx rfl (hb hby at_27) rfl (l' := #[.val (.int ua), .val (.int ub), .val (.int us), .val (.int (g_c ua ub us)), .val (.int (g_p ua ub us)), .unset, .unset, .unset, .unset, .unset, .unset, .unset, .unset]) rfl ?_
    show Steps p.tables e below (s₁.setTop (mkF m 29 #[.val (.int ua), .val (.int ub), .val (.int us), .val (.int (g_c ua ub us)), .val (.int (g_p ua ub us)), .unset, .unset, .unset, .unset, .unset, .unset, .unset, .unset] [])) _
    refine XS.iloadN X0.here hx rfl (hb hby at_29) rfl ?_
    show Steps p.tables e below (s₁.setTop (mkF m 30 #[.val (.int ua), .val (.int ub), .val (.int us), .val (.int (g_c ua ub us)), .val (.int (g_p ua ub us)), .unset, .unset, .unset, .unset, .unset, .unset, .unset, .unset] [(.int (g_c ua ub us))])) _
    refine XS.istore X0.here hx rfl (hb hby at_30) rfl (l' := #[.val (.int ua), .val (.int ub), .val (.int us), .val (.int (g_c ua ub us)), .val (.int (g_p ua ub us)), .val (.int (g_c ua ub us)), .unset, .unset, .unset, .unset, .unset, .unset, .unset]) rfl ?_
    show Steps p.tables e below (s₁.setTop (mkF m 32 #[.val (.int ua), .val (.int ub), .val (.int us), .val (.int (g_c ua ub us)), .val (.int (g_p ua ub us)), .val (.int (g_c ua ub us)), .unset, .unset, .unset, .unset, .unset, .unset, .unset] [])) _
    refine XS.iload X0.here hx rfl (hb hby at_32) rfl ?_
    show Steps p.tables e below (s₁.setTop (mkF m 34 #[.val (.int ua), .val (.int ub), .val (.int us), .val (.int (g_c ua ub us)), .val (.int (g_p ua ub us)), .val (.int (g_c ua ub us)), .unset, .unset, .unset, .unset, .unset, .unset, .unset] [(.int (g_p ua ub us))])) _
    refine XS.istore X0.here hx rfl (hb hby at_34) rfl (l' := #[.val (.int ua), .val (.int ub), .val (.int us), .val (.int (g_c ua ub us)), .val (.int (g_p ua ub us)), .val (.int (g_c ua ub us)), .val (.int (g_p ua ub us)), .unset, .unset, .unset, .unset, .unset, .unset]) rfl ?_
    show Steps p.tables e below (s₁.setTop (mkF m 36 #[.val (.int ua), .val (.int ub), .val (.int us), .val (.int (g_c ua ub us)), .val (.int (g_p ua ub us)), .val (.int (g_c ua ub us)), .val (.int (g_p ua ub us)), .unset, .unset, .unset, .unset, .unset, .unset] [])) _
    refine sg36 _ ?_
    show Steps p.tables e below (s₁.setTop (mkF m 62 #[.val (.int ua), .val (.int ub), .val (.int us), .val (.int (g_c ua ub us)), .val (.int (g_p ua ub us)), .val (.int (g_c ua ub us)), .val (.int (g_p ua ub us)), .unset, .unset, .unset, .unset, .unset, .unset] [(.int (g_ctl ua ub us))])) _
    refine XS.istore X0.here hx rfl (hb hby at_62) rfl (l' := #[.val (.int ua), .val (.int ub), .val (.int us), .val (.int (g_c ua ub us)), .val (.int (g_p ua ub us)), .val (.int (g_c ua ub us)), .val (.int (g_p ua ub us)), .val (.int (g_ctl ua ub us)), .unset, .unset, .unset, .unset, .unset]) rfl ?_
    show Steps p.tables e below (s₁.setTop (mkF m 64 #[.val (.int ua), .val (.int ub), .val (.int us), .val (.int (g_c ua ub us)), .val (.int (g_p ua ub us)), .val (.int (g_c ua ub us)), .val (.int (g_p ua ub us)), .val (.int (g_ctl ua ub us)), .unset, .unset, .unset, .unset, .unset] [])) _
    refine sg64 _ ?_
    show Steps p.tables e below (s₁.setTop (mkF m 84 #[.val (.int ua), .val (.int ub), .val (.int us), .val (.int (g_c ua ub us)), .val (.int (g_p ua ub us)), .val (.int (g_c ua ub us)), .val (.int (g_p ua ub us)), .val (.int (g_ctl ua ub us)), .unset, .unset, .unset, .unset, .unset] [(.int (g_del ua ub us))])) _
    refine XS.istore X0.here hx rfl (hb hby at_84) rfl (l' := #[.val (.int ua), .val (.int ub), .val (.int us), .val (.int (g_c ua ub us)), .val (.int (g_p ua ub us)), .val (.int (g_c ua ub us)), .val (.int (g_p ua ub us)), .val (.int (g_ctl ua ub us)), .val (.int (g_del ua ub us)), .unset, .unset, .unset, .unset]) rfl ?_
    show Steps p.tables e below (s₁.setTop (mkF m 86 #[.val (.int ua), .val (.int ub), .val (.int us), .val (.int (g_c ua ub us)), .val (.int (g_p ua ub us)), .val (.int (g_c ua ub us)), .val (.int (g_p ua ub us)), .val (.int (g_ctl ua ub us)), .val (.int (g_del ua ub us)), .unset, .unset, .unset, .unset] [])) _
    refine sg86 _ ?_
    show Steps p.tables e below (s₁.setTop (mkF m 98 #[.val (.int ua), .val (.int ub), .val (.int us), .val (.int (g_c ua ub us)), .val (.int (g_p ua ub us)), .val (.int (g_c ua ub us)), .val (.int (g_p ua ub us)), .val (.int (g_ctl ua ub us)), .val (.int (g_del ua ub us)), .unset, .unset, .unset, .unset] [(.int (g_bs ua ub us))])) _
    refine XS.istore X0.here hx rfl (hb hby at_98) rfl (l' := #[.val (.int ua), .val (.int ub), .val (.int us), .val (.int (g_c ua ub us)), .val (.int (g_p ua ub us)), .val (.int (g_c ua ub us)), .val (.int (g_p ua ub us)), .val (.int (g_ctl ua ub us)), .val (.int (g_del ua ub us)), .val (.int (g_bs ua ub us)), .unset, .unset, .unset]) rfl ?_
    show Steps p.tables e below (s₁.setTop (mkF m 100 #[.val (.int ua), .val (.int ub), .val (.int us), .val (.int (g_c ua ub us)), .val (.int (g_p ua ub us)), .val (.int (g_c ua ub us)), .val (.int (g_p ua ub us)), .val (.int (g_ctl ua ub us)), .val (.int (g_del ua ub us)), .val (.int (g_bs ua ub us)), .unset, .unset, .unset] [])) _
    refine sg100 _ ?_
    show Steps p.tables e below (s₁.setTop (mkF m 119 #[.val (.int ua), .val (.int ub), .val (.int us), .val (.int (g_c ua ub us)), .val (.int (g_p ua ub us)), .val (.int (g_c ua ub us)), .val (.int (g_p ua ub us)), .val (.int (g_ctl ua ub us)), .val (.int (g_del ua ub us)), .val (.int (g_bs ua ub us)), .unset, .unset, .unset] [(.int (g_non ua ub us))])) _
    refine XS.istore X0.here hx rfl (hb hby at_119) rfl (l' := #[.val (.int ua), .val (.int ub), .val (.int us), .val (.int (g_c ua ub us)), .val (.int (g_p ua ub us)), .val (.int (g_c ua ub us)), .val (.int (g_p ua ub us)), .val (.int (g_ctl ua ub us)), .val (.int (g_del ua ub us)), .val (.int (g_bs ua ub us)), .val (.int (g_non ua ub us)), .unset, .unset]) rfl ?_
    show Steps p.tables e below (s₁.setTop (mkF m 121 #[.val (.int ua), .val (.int ub), .val (.int us), .val (.int (g_c ua ub us)), .val (.int (g_p ua ub us)), .val (.int (g_c ua ub us)), .val (.int (g_p ua ub us)), .val (.int (g_ctl ua ub us)), .val (.int (g_del ua ub us)), .val (.int (g_bs ua ub us)), .val (.int (g_non ua ub us)), .unset, .unset] [])) _
    refine sg121 _ ?_
    show Steps p.tables e below (s₁.setTop (mkF m 140 #[.val (.int ua), .val (.int ub), .val (.int us), .val (.int (g_c ua ub us)), .val (.int (g_p ua ub us)), .val (.int (g_c ua ub us)), .val (.int (g_p ua ub us)), .val (.int (g_ctl ua ub us)), .val (.int (g_del ua ub us)), .val (.int (g_bs ua ub us)), .val (.int (g_non ua ub us)), .unset, .unset] [(.int (g_sp ua ub us))])) _
    refine XS.istore X0.here hx rfl (hb hby at_140) rfl (l' := #[.val (.int ua), .val (.int ub), .val (.int us), .val (.int (g_c ua ub us)), .val (.int (g_p ua ub us)), .val (.int (g_c ua ub us)), .val (.int (g_p ua ub us)), .val (.int (g_ctl ua ub us)), .val (.int (g_del ua ub us)), .val (.int (g_bs ua ub us)), .val (.int (g_non ua ub us)), .val (.int (g_sp ua ub us)), .unset]) rfl ?_
    show Steps p.tables e below (s₁.setTop (mkF m 142 #[.val (.int ua), .val (.int ub), .val (.int us), .val (.int (g_c ua ub us)), .val (.int (g_p ua ub us)), .val (.int (g_c ua ub us)), .val (.int (g_p ua ub us)), .val (.int (g_ctl ua ub us)), .val (.int (g_del ua ub us)), .val (.int (g_bs ua ub us)), .val (.int (g_non ua ub us)), .val (.int (g_sp ua ub us)), .unset] [])) _
    refine sg142 _ ?_
    show Steps p.tables e below (s₁.setTop (mkF m 172 #[.val (.int ua), .val (.int ub), .val (.int us), .val (.int (g_c ua ub us)), .val (.int (g_p ua ub us)), .val (.int (g_c ua ub us)), .val (.int (g_p ua ub us)), .val (.int (g_ctl ua ub us)), .val (.int (g_del ua ub us)), .val (.int (g_bs ua ub us)), .val (.int (g_non ua ub us)), .val (.int (g_sp ua ub us)), .unset] [(.int (g_exp ua ub us))])) _
    refine XS.istore X0.here hx rfl (hb hby at_172) rfl (l' := #[.val (.int ua), .val (.int ub), .val (.int us), .val (.int (g_c ua ub us)), .val (.int (g_p ua ub us)), .val (.int (g_c ua ub us)), .val (.int (g_p ua ub us)), .val (.int (g_ctl ua ub us)), .val (.int (g_del ua ub us)), .val (.int (g_bs ua ub us)), .val (.int (g_non ua ub us)), .val (.int (g_sp ua ub us)), .val (.int (g_exp ua ub us))]) rfl ?_
    show Steps p.tables e below (s₁.setTop (mkF m 174 #[.val (.int ua), .val (.int ub), .val (.int us), .val (.int (g_c ua ub us)), .val (.int (g_p ua ub us)), .val (.int (g_c ua ub us)), .val (.int (g_p ua ub us)), .val (.int (g_ctl ua ub us)), .val (.int (g_del ua ub us)), .val (.int (g_bs ua ub us)), .val (.int (g_non ua ub us)), .val (.int (g_sp ua ub us)), .val (.int (g_exp ua ub us))] [])) _
    refine XS.iloadN X0.here hx rfl (hb hby at_174) rfl ?_
    show Steps p.tables e below (s₁.setTop (mkF m 175 #[.val (.int ua), .val (.int ub), .val (.int us), .val (.int (g_c ua ub us)), .val (.int (g_p ua ub us)), .val (.int (g_c ua ub us)), .val (.int (g_p ua ub us)), .val (.int (g_ctl ua ub us)), .val (.int (g_del ua ub us)), .val (.int (g_bs ua ub us)), .val (.int (g_non ua ub us)), .val (.int (g_sp ua ub us)), .val (.int (g_exp ua ub us))] [(.int (g_c ua ub us))])) _
    refine XS.iload X0.here hx rfl (hb hby at_175) rfl ?_
    show Steps p.tables e below (s₁.setTop (mkF m 177 #[.val (.int ua), .val (.int ub), .val (.int us), .val (.int (g_c ua ub us)), .val (.int (g_p ua ub us)), .val (.int (g_c ua ub us)), .val (.int (g_p ua ub us)), .val (.int (g_ctl ua ub us)), .val (.int (g_del ua ub us)), .val (.int (g_bs ua ub us)), .val (.int (g_non ua ub us)), .val (.int (g_sp ua ub us)), .val (.int (g_exp ua ub us))] [(.int (g_p ua ub us)), (.int (g_c ua ub us))])) _
    refine st1 _ ?_
    show Steps p.tables e below (T1.setTop (mkF m 180 #[.val (.int ua), .val (.int ub), .val (.int us), .val (.int (g_c ua ub us)), .val (.int (g_p ua ub us)), .val (.int (g_c ua ub us)), .val (.int (g_p ua ub us)), .val (.int (g_ctl ua ub us)), .val (.int (g_del ua ub us)), .val (.int (g_bs ua ub us)), .val (.int (g_non ua ub us)), .val (.int (g_sp ua ub us)), .val (.int (g_exp ua ub us))] [(.int (f1_0 (g_c ua ub us) (g_p ua ub us)))])) _
    refine XS.iload X1.here hx rfl (hb hby at_180) rfl ?_
    show Steps p.tables e below (T1.setTop (mkF m 182 #[.val (.int ua), .val (.int ub), .val (.int us), .val (.int (g_c ua ub us)), .val (.int (g_p ua ub us)), .val (.int (g_c ua ub us)), .val (.int (g_p ua ub us)), .val (.int (g_ctl ua ub us)), .val (.int (g_del ua ub us)), .val (.int (g_bs ua ub us)), .val (.int (g_non ua ub us)), .val (.int (g_sp ua ub us)), .val (.int (g_exp ua ub us))] [(.int (g_exp ua ub us)), (.int (f1_0 (g_c ua ub us) (g_p ua ub us)))])) _
    refine XS.icmpNo X1.here hx rfl (hb hby at_182) rfl (teq (own_eq ua ub us)).2 ?_
    show Steps p.tables e below (T1.setTop (mkF m 185 #[.val (.int ua), .val (.int ub), .val (.int us), .val (.int (g_c ua ub us)), .val (.int (g_p ua ub us)), .val (.int (g_c ua ub us)), .val (.int (g_p ua ub us)), .val (.int (g_ctl ua ub us)), .val (.int (g_del ua ub us)), .val (.int (g_bs ua ub us)), .val (.int (g_non ua ub us)), .val (.int (g_sp ua ub us)), .val (.int (g_exp ua ub us))] [])) _
    refine XS.iconst X1.here hx rfl (hb hby at_185) ?_
    show Steps p.tables e below (T1.setTop (mkF m 186 #[.val (.int ua), .val (.int ub), .val (.int us), .val (.int (g_c ua ub us)), .val (.int (g_p ua ub us)), .val (.int (g_c ua ub us)), .val (.int (g_p ua ub us)), .val (.int (g_ctl ua ub us)), .val (.int (g_del ua ub us)), .val (.int (g_bs ua ub us)), .val (.int (g_non ua ub us)), .val (.int (g_sp ua ub us)), .val (.int (g_exp ua ub us))] [(.int (1 : Int32))])) _
    refine XS.goto X1.here hx rfl (pc0 := 186) (pc' := 190) rfl (hb hby at_186) (by decide) (by decide) ?_
    show Steps p.tables e below (T1.setTop (mkF m 190 #[.val (.int ua), .val (.int ub), .val (.int us), .val (.int (g_c ua ub us)), .val (.int (g_p ua ub us)), .val (.int (g_c ua ub us)), .val (.int (g_p ua ub us)), .val (.int (g_ctl ua ub us)), .val (.int (g_del ua ub us)), .val (.int (g_bs ua ub us)), .val (.int (g_non ua ub us)), .val (.int (g_sp ua ub us)), .val (.int (g_exp ua ub us))] [(.int (1 : Int32))])) _
    exact retN X1 hx (t := .boolean) Bd.returns (by simp) (hb hby at_190) hr
  · show Q0 Z ua ub us h0 n0 _ T1.heap _
    rw [e1q]
    exact ⟨rfl, N1⟩
set_option maxRecDepth 65536 in
set_option maxHeartbeats 40000000 in
theorem comes_1 {Post : Tables → Env → Array Value → State → Outcome → State → Prop} (hpost : ∀ tb e args s v u, (limb_1_1.after args s (.returned v) u = true ∧ limb_1_2.after args s (.returned v) u = true ∧ True) → FrameEnd s (.returned v) u (Jvm.fieldLocs frame_1_writes args s ++ Jvm.arrayLocs frame_1_arrays args s ++ Jvm.staticLocs frame_1_statics s) 0 0 → Post tb e args s (.returned v) u) :
    ArmFor flags0 classFile x code maxLocals ret World_1 tables_1 room_1 Calls_1 rest_1 Pre_1 Post := by
  intro l hfl _ _ p e ha hc hk s m args below hf hA hF happ hP
  obtain ⟨hcalls, hrest, hpre⟩ := hP
  obtain ⟨-, -, -, hnamed, -, -, -, hat⟩ := (Spec.applies_iff hf).mp happ
  obtain ⟨hg, hn⟩ := and_e (Cond.before_iff.mp (show (Jvm.Cond.and given_1 narrow_1).before args s = true from hpre))
  obtain ⟨h1, r0⟩ := and_e hg
  obtain ⟨g0, r1⟩ := and_e r0
  obtain ⟨g1, r2⟩ := and_e r1
  obtain ⟨w0, w1, w2, rfl⟩ : ∃ w0 w1 w2 : Value, args = #[w0, w1, w2] := by
    have hs : args.size = 3 := by simpa [Cond.value, given_1] using h1
    obtain ⟨L⟩ := args
    match L, hs with
    | [w0, w1, w2], _ => exact ⟨w0, w1, w2, rfl⟩
  have hw := fun d (hd : d ∈ tables_1) => atoms_spec (ws := Jvm.Cond.code x code maxLocals ret :: tables_1) hat d (List.mem_cons_of_mem _ hd)
  obtain ⟨i0, ei0⟩ := is_v g0
  obtain rfl : w0 = (.int i0) := Option.some.inj ei0
  obtain ⟨i1, ei1⟩ := is_v g1
  obtain rfl : w1 = (.int i1) := Option.some.inj ei1
  obtain ⟨i2, ei2⟩ := is_v r2
  obtain rfl : w2 = (.int i2) := Option.some.inj ei2
  obtain ⟨n, o, h1, h2, h3, _, L, rfl, ⟨rfl, N⟩, hq⟩ := rm0 l s _ hw tables_1 i0 i1 i2 s.heap s.heap.size (Nat.le_refl _) p e ha hc hk s m _ below hf ((Spec.applies_iff_loose hf).mp happ).1 ⟨rfl, State.Warmed39.refl s, rfl⟩ trivial
  refine ⟨n, _, h1, h2, h3, hpost _ _ _ _ _ _ ⟨Cond.after_iff.mpr rfl, Cond.after_iff.mpr (eq_i res_at (Term.int_eval (1)) rfl), trivial⟩ ⟨hq.1, hq.2.1, (hq.2.2.sift fun y hy => Or.inr (N y hy)).mono (by decide) (by decide)⟩⟩
theorem main_1_1 : Claimed_1_1 := comes_1 fun _ _ _ _ _ _ h hF => ⟨h.1, hF⟩
theorem main_1_2 : Claimed_1_2 := comes_1 fun _ _ _ _ _ _ h hF => ⟨h.2.1, hF⟩
end Jvm.Pilot.@@N@@
namespace Jvm.Pilot.@@N@@
open Jvm Jvm.ClassFile Sem Op Lib Jvm.Free Jvm.Stand Jvm.Pilot.@@N@@.Jvm.D
/-! MADE BY PROGRAM (witnessworld.py) out of the Statement's table words and the real class files: 9 classes; the members and pool entries that the words name. The judged class is class 1, her method 1. -/
namespace start1
open Jvm.ClassFile
def u (s : String) : CpInfo := .utf8 (stringToUtf16 s)
/-- a pool by its gaps: so many unusable entries, then the entry; so many at the end -/
def gap : Nat → List CpInfo → List CpInfo
  | 0, r => r
  | n + 1, r => .unusable :: gap n r
def poolList (es : List (Nat × CpInfo)) (last : Nat) : List CpInfo := es.foldr (fun e r => gap e.1 (e.2 :: r)) (gap last [])
def pool (es : List (Nat × CpInfo)) (last : Nat) : Array CpInfo := ⟨poolList es last⟩
def fileOf (pool : Array CpInfo) (this : Nat) (attrs : Array Attribute := #[]) (ms : Array MethodInfo := #[]) (fl : Nat := 33) (sup : Nat := 0) (ifs : Array Nat := #[]) (fds : Array FieldInfo := #[]) : ClassFile where
  minorVersion := 0
  majorVersion := 65
  constantPool := pool
  accessFlags := fl
  thisClass := this
  superClass := sup
  interfaces := ifs
  fields := fds
  methods := ms
  attributes := attrs
def plain (name : String) (sup : Option ClassId) : Class where
  name := name
  kind := .ordinary
  loader := none
  accessFlags := 33
  super := sup
  interfaces := #[]
  cf := none
  fields := #[]
  methods := #[]
  instanceTypes := #[]
  staticTypes := #[]
  resolved := #[]
  callSites := []
  init := .initialized
  statics := none
  mirror := none

def pool0 : Array CpInfo := pool [(5, u "<init>"), (0, u "()V"), (1, .class_ 10), (1, u "java/lang/Object")] 113

def k0m0 : Method := { name := "<init>", desc := "()V", sig := { parameters := [], returnType := none }, accessFlags := 1, code := none }
/-- java/lang/Object -/
def k0 : Class := { plain "java/lang/Object" none with
  accessFlags := 33
  interfaces := #[]
  cf := some (fileOf pool0 8 #[] #[{ accessFlags := 1, nameIndex := 5, descriptorIndex := 6, attributes := #[] }] 33 0 #[] #[])
  fields := #[]
  methods := #[k0m0]
  instanceTypes := #[]
  staticTypes := #[]
  resolved := Array.replicate 124 none
  statics := none }

def pool1 : Array CpInfo := pool [(2, .class_ 4), (1, u "java/lang/Object"), (0, u "<init>"), (0, u "()V"), (0, .integer 65534), (0, .integer 65535), (0, .methodref 10 11), (0, .class_ 12), (0, .nameAndType 13 14), (0, u "com/example/tabularium/tabularium/siard/TextEscapes"), (0, u "escaped"), (0, u "(CC)Z"), (0, .class_ 16), (0, u "com/example/tabularium/tabularium/siard/TextEscapesEscapedPinLaw"), (2, u "law"), (0, u "(III)Z")] 3

def k1m0 : Method := { name := "<init>", desc := "()V", sig := { parameters := [], returnType := none }, accessFlags := 2, code := none }
def k1c1 : Code := { maxStack := 2, maxLocals := 13, code := code, exceptionTable := #[], attributes := #[] }
def k1m1 : Method := { name := "law", desc := "(III)Z", sig := { parameters := [.int, .int, .int], returnType := some .boolean }, accessFlags := 9, code := some k1c1 }
/-- com/example/tabularium/tabularium/siard/TextEscapesEscapedPinLaw -/
def k1 : Class := { plain "com/example/tabularium/tabularium/siard/TextEscapesEscapedPinLaw" (some 0) with
  accessFlags := 49
  interfaces := #[]
  cf := some (fileOf pool1 15 #[] #[{ accessFlags := 2, nameIndex := 5, descriptorIndex := 6, attributes := #[] }, { accessFlags := 9, nameIndex := 19, descriptorIndex := 20, attributes := #[] }] 49 2 #[] #[])
  fields := #[]
  methods := #[k1m0, k1m1]
  instanceTypes := #[]
  staticTypes := #[]
  resolved := Array.replicate 24 none
  statics := none }

def pool2 : Array CpInfo := pool [(2, .class_ 4), (1, u "java/lang/Object"), (0, u "<init>"), (0, u "()V"), (0, .class_ 8), (0, u "com/example/tabularium/tabularium/siard/TextEscapes"), (0, .integer 65534), (2, u "LOW_ESCAPES"), (0, u "[Ljava/lang/String;"), (2, u "HEX"), (0, u "Ljava/util/HexFormat;"), (88, u "ESCAPE_LENGTH"), (0, u "I"), (2, u "DELETE"), (0, u "C"), (1, u "LAST_C1_CONTROL"), (1, u "FIRST_NONCHARACTER"), (2, u "escaped"), (0, u "(CC)Z")] 22

def k2m0 : Method := { name := "<init>", desc := "()V", sig := { parameters := [], returnType := none }, accessFlags := 2, code := none }
def k2c1 : Code := { maxStack := 2, maxLocals := 2, code := prog_165_method_2_code, exceptionTable := #[], attributes := #[] }
def k2m1 : Method := { name := "escaped", desc := "(CC)Z", sig := { parameters := [.char, .char], returnType := some .boolean }, accessFlags := 8, code := some k2c1 }
/-- com/example/tabularium/tabularium/siard/TextEscapes -/
def k2 : Class := { plain "com/example/tabularium/tabularium/siard/TextEscapes" (some 0) with
  accessFlags := 48
  interfaces := #[]
  cf := some (fileOf pool2 7 #[] #[{ accessFlags := 2, nameIndex := 5, descriptorIndex := 6, attributes := #[] }, { accessFlags := 8, nameIndex := 118, descriptorIndex := 119, attributes := #[] }] 48 2 #[] #[{ accessFlags := 26, nameIndex := 106, descriptorIndex := 107, attributes := #[] }, { accessFlags := 26, nameIndex := 110, descriptorIndex := 111, attributes := #[] }, { accessFlags := 26, nameIndex := 113, descriptorIndex := 111, attributes := #[] }, { accessFlags := 26, nameIndex := 115, descriptorIndex := 111, attributes := #[] }, { accessFlags := 26, nameIndex := 16, descriptorIndex := 17, attributes := #[] }, { accessFlags := 26, nameIndex := 12, descriptorIndex := 13, attributes := #[] }])
  fields := #[{ name := "ESCAPE_LENGTH", type := .int, accessFlags := 26, slot := 0, constantValue := 0 }, { name := "DELETE", type := .char, accessFlags := 26, slot := 1, constantValue := 0 }, { name := "LAST_C1_CONTROL", type := .char, accessFlags := 26, slot := 2, constantValue := 0 }, { name := "FIRST_NONCHARACTER", type := .char, accessFlags := 26, slot := 3, constantValue := 0 }, { name := "HEX", type := (.object "java/util/HexFormat"), accessFlags := 26, slot := 4, constantValue := 0 }, { name := "LOW_ESCAPES", type := (.array (.object "java/lang/String")), accessFlags := 26, slot := 5, constantValue := 0 }]
  methods := #[k2m0, k2m1]
  instanceTypes := #[]
  staticTypes := #[.int, .char, .char, .char, (.object "java/util/HexFormat"), (.array (.object "java/lang/String"))]
  resolved := Array.replicate 142 none
  statics := none }

def pool3 : Array CpInfo := pool [(1, u "java/lang/Cloneable"), (0, .class_ 1), (0, u "java/lang/Object"), (0, .class_ 3)] 3

/-- java/lang/Cloneable -/
def k3 : Class := { plain "java/lang/Cloneable" (some 0) with
  accessFlags := 1537
  interfaces := #[]
  cf := some (fileOf pool3 2 #[] #[] 1537 4 #[] #[])
  fields := #[]
  methods := #[]
  instanceTypes := #[]
  staticTypes := #[]
  resolved := Array.replicate 8 none
  statics := none }

def pool4 : Array CpInfo := pool [(1, u "java/io/Serializable"), (0, .class_ 1), (0, u "java/lang/Object"), (0, .class_ 3)] 3

/-- java/io/Serializable -/
def k4 : Class := { plain "java/io/Serializable" (some 0) with
  accessFlags := 1537
  interfaces := #[]
  cf := some (fileOf pool4 2 #[] #[] 1537 4 #[] #[])
  fields := #[]
  methods := #[]
  instanceTypes := #[]
  staticTypes := #[]
  resolved := Array.replicate 8 none
  statics := none }

/-- the primitive byte -/
def k5 : Class := { plain "byte" none with kind := .primitive 'B', accessFlags := 0x411 }
/-- [B -/
def k6 : Class := { plain "[B" (some 0) with kind := .array 5 .byte, interfaces := #[3, 4], accessFlags := 1041 }

/-- the primitive int -/
def k7 : Class := { plain "int" none with kind := .primitive 'I', accessFlags := 0x411 }
/-- [I -/
def k8 : Class := { plain "[I" (some 0) with kind := .array 7 .int, interfaces := #[3, 4], accessFlags := 1041 }

def heap : Heap := #[]
def classes : Array Class := #[k0, k1, k2, k3, k4, k5, k6, k7, k8]
def interned : List (Array UInt16 × Addr) := []
def slotsUsed : Nat := 0
def theMethod : MethodId := ⟨1, 1⟩
def args0 : Array Value := #[.int 5, .int 7, .int 1]
def aboutOver (below : List Frame) : State where
  vm := { classes := classes, interned := interned.toArray }
  heap := heap
  slotsUsed := slotsUsed
  threads := #[{ frames := .invoking theMethod args0 :: below }]
def below0 : List Frame := [.native { method := ⟨0, 0⟩, args := #[] }]
def about1 : State := aboutOver below0
def p0 : Program := .bare "" "" ""
def e0 : Env := launch0.env 0 0 0
theorem w_frames : about1.frames = Frame.invoking theMethod args0 :: below0 := rfl
set_option maxRecDepth 65536 in
theorem w_args : argsFit about1.vm theMethod args0 = true := by decide +kernel
set_option maxRecDepth 65536 in
theorem w_heap : heapFits about1 = true := by decide +kernel
set_option maxRecDepth 65536 in
theorem w_runnable : about1.curStatus? = some .runnable := by decide +kernel
set_option maxRecDepth 65536 in
theorem w_alone : about1.alone = true := by decide +kernel
set_option maxRecDepth 65536 in
theorem w_named : about1.methodNamed? x = some theMethod := by decide +kernel
set_option maxRecDepth 65536 in
theorem w_hears : about1.hears theMethod below0 = true := by decide +kernel
set_option maxRecDepth 65536 in
theorem w_ripe : about1.ripe theMethod args0 below0 = true := by decide +kernel
theorem w_running : about1.status = .running := rfl
set_option maxRecDepth 65536 in
theorem w_room : about1.hasRoom e0.platform room_1 = true :=
  launch0.hasRoom_least _ room_1 (by decide +kernel) (by decide +kernel) (by decide +kernel) (by decide +kernel) (by decide +kernel) (by decide +kernel)
theorem allAtoms_all (ts : List Jvm.Cond) (a : Array Jvm.Value) (st : Jvm.State) : (allAtoms ts).before a st = ts.all (fun c => c.before a st) := by
  induction ts with
  | nil => rfl
  | cons c t ih =>
    show (Jvm.Cond.and c (allAtoms t)).before a st = _
    rw [Jvm.Cond.before_and, ih, List.all_cons]
def words1 : List Jvm.Cond := Jvm.Cond.code x code maxLocals ret :: tables_1
/-- a 'code' word, met by the world's own term for the bytes: nothing is compared byte by byte -/
theorem code_word {y : MethodName} {bytes : ByteArray} {mx : Nat} {rt : Option FieldType} {a : Array Value} {s : State} {m : MethodId} {meth : Method} {c : Code} (h1 : s.methodNamed? y = some m) (h2 : s.vm.method? m = some meth) (h3 : meth.code = some c) (h4 : c.code = bytes)
    (h5 : (c.maxLocals == mx && c.exceptionTable.isEmpty && decide (c.maxStack ≤ mostOperands) && decide (meth.sig.returnType = rt) && !meth.locks && decide (parseMethodDescriptor y.desc = some meth.sig)) = true) : (Jvm.Cond.code y bytes mx rt).before a s = true := by
  simp only [Bool.and_eq_true, beq_iff_eq, Bool.not_eq_true', decide_eq_true_eq] at h5
  obtain ⟨⟨⟨⟨⟨g1, g2⟩, g3⟩, g4⟩, g5⟩, g6⟩ := h5
  simp [Cond.before, Cond.holds, Cond.value, h1, h2, h3, h4, g1, g2, g3, g4, g5, g6]
def isCode : Jvm.Cond → Bool
  | .code _ _ _ _ => true
  | _ => false
theorem all_split {L : List Jvm.Cond} {P : Jvm.Cond → Bool} (h1 : L.all (fun c => isCode c || P c) = true) (h2 : ∀ c ∈ L.filter isCode, P c = true) : L.all P = true := by
  refine List.all_eq_true.mpr fun c hc => ?_
  have h := List.all_eq_true.mp h1 c hc
  rcases Bool.eq_false_or_eq_true (isCode c) with hi | hi
  · exact h2 c (List.mem_filter.mpr ⟨hc, hi⟩)
  · simpa [hi] using h
set_option maxRecDepth 65536 in
theorem w_c0 : (Jvm.Cond.code x code maxLocals ret).before args0 about1 = true := code_word (m := ⟨1, 1⟩) (meth := k1m1) (c := k1c1) (by decide +kernel) rfl rfl rfl (by decide +kernel)
set_option maxRecDepth 65536 in
theorem w_c1 : (Jvm.Cond.code ({ cls := "com/example/tabularium/tabularium/siard/TextEscapes", name := "escaped", desc := "(CC)Z" } : Jvm.MethodName) prog_165_method_2_code (2 : Nat) (Option.some Jvm.ClassFile.FieldType.boolean)).before args0 about1 = true := code_word (m := ⟨2, 1⟩) (meth := k2m1) (c := k2c1) (by decide +kernel) rfl rfl rfl (by decide +kernel)
def codes1 : List Jvm.Cond := [Jvm.Cond.code x code maxLocals ret, Jvm.Cond.code ({ cls := "com/example/tabularium/tabularium/siard/TextEscapes", name := "escaped", desc := "(CC)Z" } : Jvm.MethodName) prog_165_method_2_code (2 : Nat) (Option.some Jvm.ClassFile.FieldType.boolean)]
set_option maxRecDepth 65536 in
theorem codes_eq : words1.filter isCode = codes1 := rfl
theorem w_codes : ∀ c ∈ words1.filter isCode, c.before args0 about1 = true := by
  rw [codes_eq]
  intro c hc
  simp only [codes1, List.mem_cons, List.not_mem_nil, or_false] at hc
  rcases hc with rfl | rfl
  · exact w_c0
  · exact w_c1
set_option maxRecDepth 65536 in
theorem w_t1 : words1.all (fun c => isCode c || c.before args0 about1) = true := by decide +kernel
theorem w_tables : (allAtoms (Jvm.Cond.code x code maxLocals ret :: tables_1)).before args0 about1 = true := by
  rw [allAtoms_all]
  show words1.all (fun c => c.before args0 about1) = true
  refine all_split ?_ w_codes
  rw [w_t1]
set_option maxRecDepth 65536 in
theorem w_case : (Jvm.Cond.and given_1 narrow_1).before args0 about1 = true := by decide +kernel
theorem w_applies : (headSpec (Jvm.Cond.code x code maxLocals ret :: tables_1) room_1).applies x e0.platform about1 = true :=
  (Spec.applies_iff w_frames).mpr ⟨w_running, w_runnable, w_alone, w_named, w_hears, w_ripe, w_room, w_tables⟩
theorem atStart : AtStart classFile x code maxLocals ret World_1 tables_1 room_1 Calls_1 rest_1 Pre_1 launch0 p0 e0 about1 theMethod args0 below0 :=
  ⟨lists_1, trivial, launch0.admits_env _ _ _, launch0.least_env, fairChoices_fair.cas, fairChoices_fair.clock, w_frames, w_args, w_heap, w_applies, trivial, trivial, w_case⟩
end start1
theorem witness_1 : WitnessClaimed_1 := ⟨start1.p0, start1.e0, start1.about1, start1.theMethod, start1.args0, start1.below0, start1.atStart⟩
end Jvm.Pilot.@@N@@
