import JvmDerived
import JvmDerived.Pilot.@@N@@Statement
import JvmDerived.Pilot.@@N@@Code
set_option linter.unusedVariables false
set_option linter.unusedSimpArgs false
namespace Jvm.RoadKit
open Sem ClassFile Op Lib Jvm.Stand Jvm.Free Jvm.LawKit
section New
variable {p : Program} {l : Launch} {e : Env} {R : Room} {s : State} {m : MethodId} {args : Array Value} {below : List Frame} {meth : Method} {c : Code} {T : State} {locs : List Loc} {cells slots : Nat}
theorem retI (X : Stand p l e R s m args below meth c T locs cells slots) (hx : p.tables.exec = Jvm.exec) {pc : Nat} {Ls : Array Slot} {z : Int32} {rest : List Value} (hret : meth.sig.returnType = some .int) (hd : decode c.code pc = .ok (.ireturn, 1)) {fs : List Frame}
    (hl : ∀ (f : JFrame) (acts : List Action), f.method = m → f.locked = none → f.entered = [] → (doReturn e (T.setTop f) acts (some (.int z))).1 = T.setFrames fs) : Steps p.tables e below (T.setTop (mkF m pc Ls (.int z :: rest))) (T.setFrames fs) := by
  have hm' : T.vm.method? m = some meth := X.method'
  have hn : narrow .int (.int z) = .int z := rfl
  show Steps p.tables e below (T.setTop { method := m, pc := pc, locals := Ls, stack := _ :: rest, locked := none }) _
  jvm_step X.here [X.here.top, hx, hd, hm', hret, hn]
  first | (intro acts; rw [hl _ acts rfl rfl rfl]) | rw [hl _ _ rfl rfl rfl]
  exact Steps.refl _
end New
end Jvm.RoadKit
namespace Jvm.Pilot.@@N@@
open Jvm Jvm.ClassFile Sem Op Lib Jvm.Free Jvm.Stand Jvm.LawKit Jvm.RoadKit Bundle Jvm.Pilot.@@N@@.Jvm.D
/-- what the return with the value v leads to -/
def own_RetTo (e : Env) (T : State) (m : MethodId) (v : Option Value) (fs : List Frame) : Prop := ∀ (f : JFrame) (acts : List Action), f.method = m → f.locked = none → f.entered = [] → (doReturn e (T.setTop f) acts v).1 = T.setFrames fs
/-- an array by its length and the places that L names -/
def own_C (Z : State) (h : Heap) (a : Addr) (ty : FieldType) (n : Nat) (L : List (Nat × Value)) : Prop := ∃ c : Cell, Arr Z h a c ty ∧ c.slots.size = n ∧ ∀ q ∈ L, c.slots[q.1]? = some q.2
theorem own_C_new {Z : State} {h : Heap} {a : Addr} {k : ClassId} {z : Int32} {n : Nat} {ty : FieldType} (A : Arr Z h a (newA k ty z) ty) (q : z.toNatClampNeg = n) : own_C Z h a ty n [] := ⟨_, A, by rw [sz_new]; exact q, fun _ hq => nomatch hq⟩
theorem own_C_set0 {Z : State} {h h' : Heap} {a : Addr} {c : Cell} {n j : Nat} {ty : FieldType} {v : Value} {L : List (Nat × Value)} (A : Arr Z h a c ty) (S : c.slots.size = n) (I : ∀ q ∈ L, c.slots[q.1]? = some q.2) (W : Wr h h' a j v) : own_C Z h' a ty n [] :=
  ⟨_, A.same W, by show (c.slots.setIfInBounds j v).size = n; rw [Array.size_setIfInBounds]; exact S, fun _ hq => nomatch hq⟩
theorem own_C_set {Z : State} {h h' : Heap} {a : Addr} {c : Cell} {n j : Nat} {ty : FieldType} {v : Value} {L : List (Nat × Value)} (hj : j < n) (hne : ∀ q ∈ L, q.1 ≠ j) (A : Arr Z h a c ty) (S : c.slots.size = n) (I : ∀ q ∈ L, c.slots[q.1]? = some q.2) (W : Wr h h' a j v) : own_C Z h' a ty n ((j, v) :: L) :=
  ⟨_, A.same W, by show (c.slots.setIfInBounds j v).size = n; rw [Array.size_setIfInBounds]; exact S, fun q hq => by
    show (c.slots.setIfInBounds j v)[q.1]? = some q.2
    rw [Array.getElem?_setIfInBounds]
    rcases List.mem_cons.mp hq with rfl | hq
    · rw [if_pos rfl, if_pos (by rw [S]; exact hj)]
    · rw [if_neg (fun r => hne q hq r.symm)]; exact I q hq⟩
/-- a place of an array, as the machine asks it -/
theorem own_in {c : Cell} {n : Nat} {j : Int32} (S : c.slots.size = n) (h1 : 0 ≤ j.toInt) (h2 : j.toNatClampNeg < n) : ¬ (j < 0 ∨ c.slots.size ≤ j.toNatClampNeg) := by
  rw [S, Int32.lt_iff_toInt_lt, show (0 : Int32).toInt = 0 from rfl]; omega
theorem d2_0 : decode method_2_code 0 = .ok (.lload_n 0, 1) := by decide +kernel
theorem d2_1 : decode method_2_code 1 = .ok (.lload_n 2, 1) := by decide +kernel
theorem d2_2 : decode method_2_code 2 = .ok (.lxor, 1) := by decide +kernel
theorem d2_3 : decode method_2_code 3 = .ok (.ldc2_w 9, 3) := by decide +kernel
theorem d2_6 : decode method_2_code 6 = .ok (.lmul, 1) := by decide +kernel
theorem d2_7 : decode method_2_code 7 = .ok (.lreturn, 1) := by decide +kernel
theorem pn_0 : plainName "com/example/assured_timing/assuredtiming/simulation/ConfigurationHashPinLaw" = true := by first | (simp [plainName, overriddenIn]; done) | decide +kernel
theorem ef_2 (m : MethodId) (x0 : Int64) (x1 : Int64) : entryFrame m #[(.long x0), (.long x1)] 4 = mkF m 0 #[.val (.long x0), .second, .val (.long x1), .second] [] := by first | (simp [entryFrame, mkF, argsToLocals, Value.category]; done) | rfl
def Q2 (Z : State) (j0 : Int64) (j1 : Int64) (h0 : Heap) (n0 : Nat) (v : Option Value) (h : Heap) (L : List Loc) : Prop := v = some (.long ((j0 ^^^ j1) * (-7046029254386353131 : Int64))) ∧ Fr n0 L ∧ h = h0
set_option maxRecDepth 65536 in
set_option maxHeartbeats 40000000 in
theorem rm2 (l : Launch) (Z : State) (a0 : Array Value) (hw : ∀ d ∈ tables_1, d.before a0 Z = true) (ws : List Jvm.Cond) (j0 : Int64) (j1 : Int64) (h0 : Heap) (n0 : Nat) :
    MetFree l (⟨"com/example/assured_timing/assuredtiming/simulation/ConfigurationHashPinLaw", "step", "(JJ)J"⟩ : MethodName) (head1 (Jvm.Cond.code (⟨"com/example/assured_timing/assuredtiming/simulation/ConfigurationHashPinLaw", "step", "(JJ)J"⟩ : MethodName) method_2_code 4 (some .long) :: ws) ({ frames := 0, cells := 0, slots := 0, locals := 0 } : Room)) (fun a U => a = #[(.long j0), (.long j1)] ∧ Z.Warmed39 U.vm ∧ U.heap = h0) (fun _ _ _ _ _ => True) (fun _ U o U' => ∃ v L, o = .returned v ∧ Q2 Z j0 j1 h0 n0 v U'.heap L ∧ FrameEnd U o U' L ({ frames := 0, cells := 0, slots := 0, locals := 0 } : Room).cells ({ frames := 0, cells := 0, slots := 0, locals := 0 } : Room).slots) := by
  refine MetFree.of_bodySF (plainFor_of_name pn_0) hisR ?_
  intro p e s m args below meth c s₁ Bd hml0 hP hK
  obtain ⟨rfl, hZ, hh⟩ := hP
  have hx := Bd.exec
  have hby := Bd.bytes
  have hml : c.maxLocals = 4 := hml0
  have hown : s.vm.findClass "com/example/assured_timing/assuredtiming/simulation/ConfigurationHashPinLaw" = some m.cls := findClass_of_methodNamed Bd.named
  have hnm := (name_of_methodNamed Bd.named Bd.method).1
  have X0 : Stand p l e ({ frames := 0, cells := 0, slots := 0, locals := 0 } : Room) s m #[(.long j0), (.long j1)] below meth c s₁ [] 0 0 := Stand.of_body Bd
  have e0 : s₁.heap = h0 := by rw [← hh, Bd.state]; rfl
  have N0 := Fr.nil n0
  have pre0 : ∀ t, Steps p.tables e below (s₁.setTop (mkF m 0 #[.val (.long j0), .second, .val (.long j1), .second] [])) t → Steps p.tables e below (s₁.setTop (entryFrame m #[(.long j0), (.long j1)] 4)) t := fun t k => castTop (ef_2 m j0 j1) k
  obtain ⟨fs, hr, hrun, hended, hW, hsame⟩ := X0.leave (v := some (.long ((j0 ^^^ j1) * (-7046029254386353131 : Int64)))) (fun h => by rw [Bd.returns] at h; cases h)
  refine ⟨_, _, pre0 _ ?_, hrun, hended, _, _, rfl, ?_, ⟨_, rfl⟩, hW, hsame.mono (by decide) (by decide)⟩
  · show Steps p.tables e below (s₁.setTop (mkF m 0 #[.val (.long j0), .second, .val (.long j1), .second] [])) _
    refine XS.lloadN X0.here hx rfl (hb hby d2_0) rfl ?_
    show Steps p.tables e below (s₁.setTop (mkF m 1 #[.val (.long j0), .second, .val (.long j1), .second] [(.long j0)])) _
    refine XS.lloadN X0.here hx rfl (hb hby d2_1) rfl ?_
    show Steps p.tables e below (s₁.setTop (mkF m 2 #[.val (.long j0), .second, .val (.long j1), .second] [(.long j1), (.long j0)])) _
    refine XS.lxor X0.here hx rfl (hb hby d2_2) rfl ?_
    show Steps p.tables e below (s₁.setTop (mkF m 3 #[.val (.long j0), .second, .val (.long j1), .second] [(.long (j0 ^^^ j1))])) _
    refine X0.ldc2Long hx hown (mvT hZ (hw _ (List.mem_of_getElem? (i := 15) rfl))) (g := (mkF m 3 #[.val (.long j0), .second, .val (.long j1), .second] [(.long (j0 ^^^ j1))])) rfl (hb hby d2_3) _ ?_
    show Steps p.tables e below (s₁.setTop (mkF m 6 #[.val (.long j0), .second, .val (.long j1), .second] [(.long (-7046029254386353131 : Int64)), (.long (j0 ^^^ j1))])) _
    refine XS.lmul X0.here hx rfl (hb hby d2_6) rfl ?_
    show Steps p.tables e below (s₁.setTop (mkF m 7 #[.val (.long j0), .second, .val (.long j1), .second] [(.long ((j0 ^^^ j1) * (-7046029254386353131 : Int64)))])) _
    exact X0.lreturnOut hx Bd.returns (hb hby d2_7) hr
  · show Q2 Z j0 j1 h0 n0 _ s₁.heap _
    rw [e0]
    exact ⟨rfl, N0, rfl⟩
theorem d1a_0 : decode prog_101_method_19_code 0 = .ok (.lconst 0, 1) := by decide +kernel
theorem d1a_1 : decode prog_101_method_19_code 1 = .ok (.lstore_n 3, 1) := by decide +kernel
theorem d1a_2 : decode prog_101_method_19_code 2 = .ok (.iload_n 1, 1) := by decide +kernel
theorem d1a_3 : decode prog_101_method_19_code 3 = .ok (.istore 5, 2) := by decide +kernel
theorem d1a_5 : decode prog_101_method_19_code 5 = .ok (.iload 5, 2) := by decide +kernel
theorem d1a_7 : decode prog_101_method_19_code 7 = .ok (.iload_n 2, 1) := by decide +kernel
theorem d1a_8 : decode prog_101_method_19_code 8 = .ok (.if_icmp .ge 20, 3) := by decide +kernel
theorem d1a_28 : decode prog_101_method_19_code 28 = .ok (.lload_n 3, 1) := by decide +kernel
theorem d1a_29 : decode prog_101_method_19_code 29 = .ok (.lload_n 3, 1) := by decide +kernel
theorem d1a_30 : decode prog_101_method_19_code 30 = .ok (.bipush 32, 2) := by decide +kernel
theorem d1a_32 : decode prog_101_method_19_code 32 = .ok (.lushr, 1) := by decide +kernel
theorem d1a_33 : decode prog_101_method_19_code 33 = .ok (.lxor, 1) := by decide +kernel
theorem d1a_34 : decode prog_101_method_19_code 34 = .ok (.ldc2_w 118, 3) := by decide +kernel
theorem d1a_37 : decode prog_101_method_19_code 37 = .ok (.lmul, 1) := by decide +kernel
theorem d1a_38 : decode prog_101_method_19_code 38 = .ok (.lstore_n 3, 1) := by decide +kernel
theorem d1a_39 : decode prog_101_method_19_code 39 = .ok (.lload_n 3, 1) := by decide +kernel
theorem d1a_40 : decode prog_101_method_19_code 40 = .ok (.lload_n 3, 1) := by decide +kernel
theorem d1a_41 : decode prog_101_method_19_code 41 = .ok (.bipush 32, 2) := by decide +kernel
theorem d1a_43 : decode prog_101_method_19_code 43 = .ok (.lushr, 1) := by decide +kernel
theorem d1a_44 : decode prog_101_method_19_code 44 = .ok (.lxor, 1) := by decide +kernel
theorem d1a_45 : decode prog_101_method_19_code 45 = .ok (.l2i, 1) := by decide +kernel
theorem d1a_46 : decode prog_101_method_19_code 46 = .ok (.ireturn, 1) := by decide +kernel
theorem pn_1 : plainName "com/example/assured_timing/assuredtiming/simulation/Configuration" = true := by first | (simp [plainName, overriddenIn]; done) | decide +kernel
theorem ef_1a (m : MethodId) (x0 : Addr) (x1 : Int32) (x2 : Int32) : entryFrame m #[(.ref x0), (.int x1), (.int x2)] 6 = mkF m 0 #[.val (.ref x0), .val (.int x1), .val (.int x2), .unset, .unset, .unset] [] := by first | (simp [entryFrame, mkF, argsToLocals, Value.category]; done) | rfl
def Q1a (Z : State) (o0 : Addr) (i1 : Int32) (i2 : Int32) (cl : Cell) (h0 : Heap) (n0 : Nat) (v : Option Value) (h : Heap) (L : List Loc) : Prop := v = some (.int (((((0 : Int64) ^^^ (((0 : Int64).toUInt64 >>> ((32 : Int32) &&& 0x3f).toInt64.toUInt64).toInt64)) * (-2960836687051489901 : Int64)) ^^^ (((((0 : Int64) ^^^ (((0 : Int64).toUInt64 >>> ((32 : Int32) &&& 0x3f).toInt64.toUInt64).toInt64)) * (-2960836687051489901 : Int64)).toUInt64 >>> ((32 : Int32) &&& 0x3f).toInt64.toUInt64).toInt64)).toInt32)) ∧ Fr n0 L ∧ h = h0
set_option maxRecDepth 65536 in
set_option maxHeartbeats 40000000 in
theorem rm1a (l : Launch) (Z : State) (a0 : Array Value) (hw : ∀ d ∈ tables_1, d.before a0 Z = true) (ws : List Jvm.Cond) (o0 : Addr) (i1 : Int32) (i2 : Int32) (cl : Cell) (h0 : Heap) (n0 : Nat) (Ar : Arr Z h0 o0 cl .long) (hz : ¬ i1 < i2) :
    MetFree l (⟨"com/example/assured_timing/assuredtiming/simulation/Configuration", "hash", "([JII)I"⟩ : MethodName) (head1 (Jvm.Cond.code (⟨"com/example/assured_timing/assuredtiming/simulation/Configuration", "hash", "([JII)I"⟩ : MethodName) prog_101_method_19_code 6 (some .int) :: ws) ({ frames := 0, cells := 0, slots := 0, locals := 0 } : Room)) (fun a U => a = #[(.ref o0), (.int i1), (.int i2)] ∧ Z.Warmed39 U.vm ∧ U.heap = h0) (fun _ _ _ _ _ => True) (fun _ U o U' => ∃ v L, o = .returned v ∧ Q1a Z o0 i1 i2 cl h0 n0 v U'.heap L ∧ FrameEnd U o U' L ({ frames := 0, cells := 0, slots := 0, locals := 0 } : Room).cells ({ frames := 0, cells := 0, slots := 0, locals := 0 } : Room).slots) := by
  refine MetFree.of_bodySF (plainFor_of_name pn_1) hisR ?_
  intro p e s m args below meth c s₁ Bd hml0 hP hK
  obtain ⟨rfl, hZ, hh⟩ := hP
  have hx := Bd.exec
  have hby := Bd.bytes
  have hml : c.maxLocals = 6 := hml0
  have hown : s.vm.findClass "com/example/assured_timing/assuredtiming/simulation/Configuration" = some m.cls := findClass_of_methodNamed Bd.named
  have hnm := (name_of_methodNamed Bd.named Bd.method).1
  have X0 : Stand p l e ({ frames := 0, cells := 0, slots := 0, locals := 0 } : Room) s m #[(.ref o0), (.int i1), (.int i2)] below meth c s₁ [] 0 0 := Stand.of_body Bd
  have e0 : s₁.heap = h0 := by rw [← hh, Bd.state]; rfl
  have N0 := Fr.nil n0
  have pre0 : ∀ t, Steps p.tables e below (s₁.setTop (mkF m 0 #[.val (.ref o0), .val (.int i1), .val (.int i2), .unset, .unset, .unset] [])) t → Steps p.tables e below (s₁.setTop (entryFrame m #[(.ref o0), (.int i1), (.int i2)] 6)) t := fun t k => castTop (ef_1a m o0 i1 i2) k
  obtain ⟨fs, hr, hrun, hended, hW, hsame⟩ := X0.leave (v := some (.int (((((0 : Int64) ^^^ (((0 : Int64).toUInt64 >>> ((32 : Int32) &&& 0x3f).toInt64.toUInt64).toInt64)) * (-2960836687051489901 : Int64)) ^^^ (((((0 : Int64) ^^^ (((0 : Int64).toUInt64 >>> ((32 : Int32) &&& 0x3f).toInt64.toUInt64).toInt64)) * (-2960836687051489901 : Int64)).toUInt64 >>> ((32 : Int32) &&& 0x3f).toInt64.toUInt64).toInt64)).toInt32))) (fun h => by rw [Bd.returns] at h; cases h)
  refine ⟨_, _, pre0 _ ?_, hrun, hended, _, _, rfl, ?_, ⟨_, rfl⟩, hW, hsame.mono (by decide) (by decide)⟩
  · show Steps p.tables e below (s₁.setTop (mkF m 0 #[.val (.ref o0), .val (.int i1), .val (.int i2), .unset, .unset, .unset] [])) _
    refine XS.lconst X0.here hx rfl (hb hby d1a_0) ?_
    show Steps p.tables e below (s₁.setTop (mkF m 1 #[.val (.ref o0), .val (.int i1), .val (.int i2), .unset, .unset, .unset] [(.long (0 : Int64))])) _
    refine XS.lstoreN X0.here hx rfl (hb hby d1a_1) rfl (l' := #[.val (.ref o0), .val (.int i1), .val (.int i2), .val (.long (0 : Int64)), .second, .unset]) rfl ?_
    show Steps p.tables e below (s₁.setTop (mkF m 2 #[.val (.ref o0), .val (.int i1), .val (.int i2), .val (.long (0 : Int64)), .second, .unset] [])) _
    refine XS.iloadN X0.here hx rfl (hb hby d1a_2) rfl ?_
    show Steps p.tables e below (s₁.setTop (mkF m 3 #[.val (.ref o0), .val (.int i1), .val (.int i2), .val (.long (0 : Int64)), .second, .unset] [(.int i1)])) _
    refine XS.istore X0.here hx rfl (hb hby d1a_3) rfl (l' := #[.val (.ref o0), .val (.int i1), .val (.int i2), .val (.long (0 : Int64)), .second, .val (.int i1)]) rfl ?_
    show Steps p.tables e below (s₁.setTop (mkF m 5 #[.val (.ref o0), .val (.int i1), .val (.int i2), .val (.long (0 : Int64)), .second, .val (.int i1)] [])) _
    refine XS.iload X0.here hx rfl (hb hby d1a_5) rfl ?_
    show Steps p.tables e below (s₁.setTop (mkF m 7 #[.val (.ref o0), .val (.int i1), .val (.int i2), .val (.long (0 : Int64)), .second, .val (.int i1)] [(.int i1)])) _
    refine XS.iloadN X0.here hx rfl (hb hby d1a_7) rfl ?_
    show Steps p.tables e below (s₁.setTop (mkF m 8 #[.val (.ref o0), .val (.int i1), .val (.int i2), .val (.long (0 : Int64)), .second, .val (.int i1)] [(.int i2), (.int i1)])) _
    refine XS.icmpYes X0.here hx rfl (pc0 := 8) (pc' := 28) rfl (hb hby d1a_8) rfl (flt hz).2.1 (by decide) (by decide) ?_
    show Steps p.tables e below (s₁.setTop (mkF m 28 #[.val (.ref o0), .val (.int i1), .val (.int i2), .val (.long (0 : Int64)), .second, .val (.int i1)] [])) _
    refine XS.lloadN X0.here hx rfl (hb hby d1a_28) rfl ?_
    show Steps p.tables e below (s₁.setTop (mkF m 29 #[.val (.ref o0), .val (.int i1), .val (.int i2), .val (.long (0 : Int64)), .second, .val (.int i1)] [(.long (0 : Int64))])) _
    refine XS.lloadN X0.here hx rfl (hb hby d1a_29) rfl ?_
    show Steps p.tables e below (s₁.setTop (mkF m 30 #[.val (.ref o0), .val (.int i1), .val (.int i2), .val (.long (0 : Int64)), .second, .val (.int i1)] [(.long (0 : Int64)), (.long (0 : Int64))])) _
    refine XS.bipush X0.here hx rfl (hb hby d1a_30) ?_
    show Steps p.tables e below (s₁.setTop (mkF m 32 #[.val (.ref o0), .val (.int i1), .val (.int i2), .val (.long (0 : Int64)), .second, .val (.int i1)] [(.int (32 : Int32)), (.long (0 : Int64)), (.long (0 : Int64))])) _
    refine XS.lushr X0.here hx rfl (hb hby d1a_32) rfl ?_
    show Steps p.tables e below (s₁.setTop (mkF m 33 #[.val (.ref o0), .val (.int i1), .val (.int i2), .val (.long (0 : Int64)), .second, .val (.int i1)] [(.long (((0 : Int64).toUInt64 >>> ((32 : Int32) &&& 0x3f).toInt64.toUInt64).toInt64)), (.long (0 : Int64))])) _
    refine XS.lxor X0.here hx rfl (hb hby d1a_33) rfl ?_
    show Steps p.tables e below (s₁.setTop (mkF m 34 #[.val (.ref o0), .val (.int i1), .val (.int i2), .val (.long (0 : Int64)), .second, .val (.int i1)] [(.long ((0 : Int64) ^^^ (((0 : Int64).toUInt64 >>> ((32 : Int32) &&& 0x3f).toInt64.toUInt64).toInt64)))])) _
    refine X0.ldc2Long hx hown (mvT hZ (hw _ (List.mem_of_getElem? (i := 7) rfl))) (g := (mkF m 34 #[.val (.ref o0), .val (.int i1), .val (.int i2), .val (.long (0 : Int64)), .second, .val (.int i1)] [(.long ((0 : Int64) ^^^ (((0 : Int64).toUInt64 >>> ((32 : Int32) &&& 0x3f).toInt64.toUInt64).toInt64)))])) rfl (hb hby d1a_34) _ ?_
    show Steps p.tables e below (s₁.setTop (mkF m 37 #[.val (.ref o0), .val (.int i1), .val (.int i2), .val (.long (0 : Int64)), .second, .val (.int i1)] [(.long (-2960836687051489901 : Int64)), (.long ((0 : Int64) ^^^ (((0 : Int64).toUInt64 >>> ((32 : Int32) &&& 0x3f).toInt64.toUInt64).toInt64)))])) _
    refine XS.lmul X0.here hx rfl (hb hby d1a_37) rfl ?_
    show Steps p.tables e below (s₁.setTop (mkF m 38 #[.val (.ref o0), .val (.int i1), .val (.int i2), .val (.long (0 : Int64)), .second, .val (.int i1)] [(.long (((0 : Int64) ^^^ (((0 : Int64).toUInt64 >>> ((32 : Int32) &&& 0x3f).toInt64.toUInt64).toInt64)) * (-2960836687051489901 : Int64)))])) _
    refine XS.lstoreN X0.here hx rfl (hb hby d1a_38) rfl (l' := #[.val (.ref o0), .val (.int i1), .val (.int i2), .val (.long (((0 : Int64) ^^^ (((0 : Int64).toUInt64 >>> ((32 : Int32) &&& 0x3f).toInt64.toUInt64).toInt64)) * (-2960836687051489901 : Int64))), .second, .val (.int i1)]) rfl ?_
    show Steps p.tables e below (s₁.setTop (mkF m 39 #[.val (.ref o0), .val (.int i1), .val (.int i2), .val (.long (((0 : Int64) ^^^ (((0 : Int64).toUInt64 >>> ((32 : Int32) &&& 0x3f).toInt64.toUInt64).toInt64)) * (-2960836687051489901 : Int64))), .second, .val (.int i1)] [])) _
    refine XS.lloadN X0.here hx rfl (hb hby d1a_39) rfl ?_
    show Steps p.tables e below (s₁.setTop (mkF m 40 #[.val (.ref o0), .val (.int i1), .val (.int i2), .val (.long (((0 : Int64) ^^^ (((0 : Int64).toUInt64 >>> ((32 : Int32) &&& 0x3f).toInt64.toUInt64).toInt64)) * (-2960836687051489901 : Int64))), .second, .val (.int i1)] [(.long (((0 : Int64) ^^^ (((0 : Int64).toUInt64 >>> ((32 : Int32) &&& 0x3f).toInt64.toUInt64).toInt64)) * (-2960836687051489901 : Int64)))])) _
    refine XS.lloadN X0.here hx rfl (hb hby d1a_40) rfl ?_
    show Steps p.tables e below (s₁.setTop (mkF m 41 #[.val (.ref o0), .val (.int i1), .val (.int i2), .val (.long (((0 : Int64) ^^^ (((0 : Int64).toUInt64 >>> ((32 : Int32) &&& 0x3f).toInt64.toUInt64).toInt64)) * (-2960836687051489901 : Int64))), .second, .val (.int i1)] [(.long (((0 : Int64) ^^^ (((0 : Int64).toUInt64 >>> ((32 : Int32) &&& 0x3f).toInt64.toUInt64).toInt64)) * (-2960836687051489901 : Int64))), (.long (((0 : Int64) ^^^ (((0 : Int64).toUInt64 >>> ((32 : Int32) &&& 0x3f).toInt64.toUInt64).toInt64)) * (-2960836687051489901 : Int64)))])) _
    refine XS.bipush X0.here hx rfl (hb hby d1a_41) ?_
    show Steps p.tables e below (s₁.setTop (mkF m 43 #[.val (.ref o0), .val (.int i1), .val (.int i2), .val (.long (((0 : Int64) ^^^ (((0 : Int64).toUInt64 >>> ((32 : Int32) &&& 0x3f).toInt64.toUInt64).toInt64)) * (-2960836687051489901 : Int64))), .second, .val (.int i1)] [(.int (32 : Int32)), (.long (((0 : Int64) ^^^ (((0 : Int64).toUInt64 >>> ((32 : Int32) &&& 0x3f).toInt64.toUInt64).toInt64)) * (-2960836687051489901 : Int64))), (.long (((0 : Int64) ^^^ (((0 : Int64).toUInt64 >>> ((32 : Int32) &&& 0x3f).toInt64.toUInt64).toInt64)) * (-2960836687051489901 : Int64)))])) _
    refine XS.lushr X0.here hx rfl (hb hby d1a_43) rfl ?_
    show Steps p.tables e below (s₁.setTop (mkF m 44 #[.val (.ref o0), .val (.int i1), .val (.int i2), .val (.long (((0 : Int64) ^^^ (((0 : Int64).toUInt64 >>> ((32 : Int32) &&& 0x3f).toInt64.toUInt64).toInt64)) * (-2960836687051489901 : Int64))), .second, .val (.int i1)] [(.long (((((0 : Int64) ^^^ (((0 : Int64).toUInt64 >>> ((32 : Int32) &&& 0x3f).toInt64.toUInt64).toInt64)) * (-2960836687051489901 : Int64)).toUInt64 >>> ((32 : Int32) &&& 0x3f).toInt64.toUInt64).toInt64)), (.long (((0 : Int64) ^^^ (((0 : Int64).toUInt64 >>> ((32 : Int32) &&& 0x3f).toInt64.toUInt64).toInt64)) * (-2960836687051489901 : Int64)))])) _
    refine XS.lxor X0.here hx rfl (hb hby d1a_44) rfl ?_
    show Steps p.tables e below (s₁.setTop (mkF m 45 #[.val (.ref o0), .val (.int i1), .val (.int i2), .val (.long (((0 : Int64) ^^^ (((0 : Int64).toUInt64 >>> ((32 : Int32) &&& 0x3f).toInt64.toUInt64).toInt64)) * (-2960836687051489901 : Int64))), .second, .val (.int i1)] [(.long ((((0 : Int64) ^^^ (((0 : Int64).toUInt64 >>> ((32 : Int32) &&& 0x3f).toInt64.toUInt64).toInt64)) * (-2960836687051489901 : Int64)) ^^^ (((((0 : Int64) ^^^ (((0 : Int64).toUInt64 >>> ((32 : Int32) &&& 0x3f).toInt64.toUInt64).toInt64)) * (-2960836687051489901 : Int64)).toUInt64 >>> ((32 : Int32) &&& 0x3f).toInt64.toUInt64).toInt64)))])) _
    refine XS.l2i X0.here hx rfl (hb hby d1a_45) rfl ?_
    show Steps p.tables e below (s₁.setTop (mkF m 46 #[.val (.ref o0), .val (.int i1), .val (.int i2), .val (.long (((0 : Int64) ^^^ (((0 : Int64).toUInt64 >>> ((32 : Int32) &&& 0x3f).toInt64.toUInt64).toInt64)) * (-2960836687051489901 : Int64))), .second, .val (.int i1)] [(.int (((((0 : Int64) ^^^ (((0 : Int64).toUInt64 >>> ((32 : Int32) &&& 0x3f).toInt64.toUInt64).toInt64)) * (-2960836687051489901 : Int64)) ^^^ (((((0 : Int64) ^^^ (((0 : Int64).toUInt64 >>> ((32 : Int32) &&& 0x3f).toInt64.toUInt64).toInt64)) * (-2960836687051489901 : Int64)).toUInt64 >>> ((32 : Int32) &&& 0x3f).toInt64.toUInt64).toInt64)).toInt32))])) _
    exact retI X0 hx Bd.returns (hb hby d1a_46) hr
  · show Q1a Z o0 i1 i2 cl h0 n0 _ s₁.heap _
    rw [e0]
    exact ⟨rfl, N0, rfl⟩
theorem d3a_0 : decode method_3_code 0 = .ok (.lconst 0, 1) := by decide +kernel
theorem d3a_1 : decode method_3_code 1 = .ok (.lstore 7, 2) := by decide +kernel
theorem d3a_3 : decode method_3_code 3 = .ok (.iload 6, 2) := by decide +kernel
theorem d3a_5 : decode method_3_code 5 = .ok (.iconst 1, 1) := by decide +kernel
theorem d3a_6 : decode method_3_code 6 = .ok (.if_icmp .lt 11, 3) := by decide +kernel
theorem d3a_17 : decode method_3_code 17 = .ok (.iload 6, 2) := by decide +kernel
theorem d3a_19 : decode method_3_code 19 = .ok (.iconst 2, 1) := by decide +kernel
theorem d3a_20 : decode method_3_code 20 = .ok (.if_icmp .lt 11, 3) := by decide +kernel
theorem d3a_31 : decode method_3_code 31 = .ok (.iload 6, 2) := by decide +kernel
theorem d3a_33 : decode method_3_code 33 = .ok (.iconst 3, 1) := by decide +kernel
theorem d3a_34 : decode method_3_code 34 = .ok (.if_icmp .lt 12, 3) := by decide +kernel
theorem d3a_46 : decode method_3_code 46 = .ok (.lload 7, 2) := by decide +kernel
theorem d3a_48 : decode method_3_code 48 = .ok (.lload 7, 2) := by decide +kernel
theorem d3a_50 : decode method_3_code 50 = .ok (.bipush 32, 2) := by decide +kernel
theorem d3a_52 : decode method_3_code 52 = .ok (.lushr, 1) := by decide +kernel
theorem d3a_53 : decode method_3_code 53 = .ok (.lxor, 1) := by decide +kernel
theorem d3a_54 : decode method_3_code 54 = .ok (.ldc2_w 15, 3) := by decide +kernel
theorem d3a_57 : decode method_3_code 57 = .ok (.lmul, 1) := by decide +kernel
theorem d3a_58 : decode method_3_code 58 = .ok (.lstore 9, 2) := by decide +kernel
theorem d3a_60 : decode method_3_code 60 = .ok (.lload 9, 2) := by decide +kernel
theorem d3a_62 : decode method_3_code 62 = .ok (.lload 9, 2) := by decide +kernel
theorem d3a_64 : decode method_3_code 64 = .ok (.bipush 32, 2) := by decide +kernel
theorem d3a_66 : decode method_3_code 66 = .ok (.lushr, 1) := by decide +kernel
theorem d3a_67 : decode method_3_code 67 = .ok (.lxor, 1) := by decide +kernel
theorem d3a_68 : decode method_3_code 68 = .ok (.l2i, 1) := by decide +kernel
theorem d3a_69 : decode method_3_code 69 = .ok (.ireturn, 1) := by decide +kernel
theorem ef_3a (m : MethodId) (x0 : Int64) (x1 : Int64) (x2 : Int64) (x3 : Int32) : entryFrame m #[(.long x0), (.long x1), (.long x2), (.int x3)] 11 = mkF m 0 #[.val (.long x0), .second, .val (.long x1), .second, .val (.long x2), .second, .val (.int x3), .unset, .unset, .unset, .unset] [] := by first | (simp [entryFrame, mkF, argsToLocals, Value.category]; done) | rfl
def Q3a (Z : State) (ja : Int64) (jb : Int64) (jc : Int64) (jn : Int32) (h0 : Heap) (n0 : Nat) (v : Option Value) (h : Heap) (L : List Loc) : Prop := v = some (.int (((((0 : Int64) ^^^ (((0 : Int64).toUInt64 >>> ((32 : Int32) &&& 0x3f).toInt64.toUInt64).toInt64)) * (-2960836687051489901 : Int64)) ^^^ (((((0 : Int64) ^^^ (((0 : Int64).toUInt64 >>> ((32 : Int32) &&& 0x3f).toInt64.toUInt64).toInt64)) * (-2960836687051489901 : Int64)).toUInt64 >>> ((32 : Int32) &&& 0x3f).toInt64.toUInt64).toInt64)).toInt32)) ∧ Fr n0 L ∧ h = h0
set_option maxRecDepth 65536 in
set_option maxHeartbeats 40000000 in
theorem rm3a (l : Launch) (Z : State) (a0 : Array Value) (hw : ∀ d ∈ tables_1, d.before a0 Z = true) (ws : List Jvm.Cond) (ja : Int64) (jb : Int64) (jc : Int64) (jn : Int32) (h0 : Heap) (n0 : Nat) (hn1 : jn < (1 : Int32)) (hn2 : jn < (2 : Int32)) (hn3 : jn < (3 : Int32)) :
    MetFree l (⟨"com/example/assured_timing/assuredtiming/simulation/ConfigurationHashPinLaw", "expected", "(JJJI)I"⟩ : MethodName) (head1 (Jvm.Cond.code (⟨"com/example/assured_timing/assuredtiming/simulation/ConfigurationHashPinLaw", "expected", "(JJJI)I"⟩ : MethodName) method_3_code 11 (some .int) :: ws) ({ frames := 1, cells := 0, slots := 0, locals := 15 } : Room)) (fun a U => a = #[(.long ja), (.long jb), (.long jc), (.int jn)] ∧ Z.Warmed39 U.vm ∧ U.heap = h0) (fun _ _ _ _ _ => True) (fun _ U o U' => ∃ v L, o = .returned v ∧ Q3a Z ja jb jc jn h0 n0 v U'.heap L ∧ FrameEnd U o U' L ({ frames := 1, cells := 0, slots := 0, locals := 15 } : Room).cells ({ frames := 1, cells := 0, slots := 0, locals := 15 } : Room).slots) := by
  refine MetFree.of_bodySF (plainFor_of_name pn_0) hisR ?_
  intro p e s m args below meth c s₁ Bd hml0 hP hK
  obtain ⟨rfl, hZ, hh⟩ := hP
  have hx := Bd.exec
  have hby := Bd.bytes
  have hml : c.maxLocals = 11 := hml0
  have hown : s.vm.findClass "com/example/assured_timing/assuredtiming/simulation/ConfigurationHashPinLaw" = some m.cls := findClass_of_methodNamed Bd.named
  have hnm := (name_of_methodNamed Bd.named Bd.method).1
  have X0 : Stand p l e ({ frames := 1, cells := 0, slots := 0, locals := 15 } : Room) s m #[(.long ja), (.long jb), (.long jc), (.int jn)] below meth c s₁ [] 0 0 := Stand.of_body Bd
  have e0 : s₁.heap = h0 := by rw [← hh, Bd.state]; rfl
  have N0 := Fr.nil n0
  have pre0 : ∀ t, Steps p.tables e below (s₁.setTop (mkF m 0 #[.val (.long ja), .second, .val (.long jb), .second, .val (.long jc), .second, .val (.int jn), .unset, .unset, .unset, .unset] [])) t → Steps p.tables e below (s₁.setTop (entryFrame m #[(.long ja), (.long jb), (.long jc), (.int jn)] 11)) t := fun t k => castTop (ef_3a m ja jb jc jn) k
  obtain ⟨fs, hr, hrun, hended, hW, hsame⟩ := X0.leave (v := some (.int (((((0 : Int64) ^^^ (((0 : Int64).toUInt64 >>> ((32 : Int32) &&& 0x3f).toInt64.toUInt64).toInt64)) * (-2960836687051489901 : Int64)) ^^^ (((((0 : Int64) ^^^ (((0 : Int64).toUInt64 >>> ((32 : Int32) &&& 0x3f).toInt64.toUInt64).toInt64)) * (-2960836687051489901 : Int64)).toUInt64 >>> ((32 : Int32) &&& 0x3f).toInt64.toUInt64).toInt64)).toInt32))) (fun h => by rw [Bd.returns] at h; cases h)
  refine ⟨_, _, pre0 _ ?_, hrun, hended, _, _, rfl, ?_, ⟨_, rfl⟩, hW, hsame.mono (by decide) (by decide)⟩
  · show Steps p.tables e below (s₁.setTop (mkF m 0 #[.val (.long ja), .second, .val (.long jb), .second, .val (.long jc), .second, .val (.int jn), .unset, .unset, .unset, .unset] [])) _
    refine XS.lconst X0.here hx rfl (hb hby d3a_0) ?_
    show Steps p.tables e below (s₁.setTop (mkF m 1 #[.val (.long ja), .second, .val (.long jb), .second, .val (.long jc), .second, .val (.int jn), .unset, .unset, .unset, .unset] [(.long (0 : Int64))])) _
    refine XS.lstore X0.here hx rfl (hb hby d3a_1) rfl (l' := #[.val (.long ja), .second, .val (.long jb), .second, .val (.long jc), .second, .val (.int jn), .val (.long (0 : Int64)), .second, .unset, .unset]) rfl ?_
    show Steps p.tables e below (s₁.setTop (mkF m 3 #[.val (.long ja), .second, .val (.long jb), .second, .val (.long jc), .second, .val (.int jn), .val (.long (0 : Int64)), .second, .unset, .unset] [])) _
    refine XS.iload X0.here hx rfl (hb hby d3a_3) rfl ?_
    show Steps p.tables e below (s₁.setTop (mkF m 5 #[.val (.long ja), .second, .val (.long jb), .second, .val (.long jc), .second, .val (.int jn), .val (.long (0 : Int64)), .second, .unset, .unset] [(.int jn)])) _
    refine XS.iconst X0.here hx rfl (hb hby d3a_5) ?_
    show Steps p.tables e below (s₁.setTop (mkF m 6 #[.val (.long ja), .second, .val (.long jb), .second, .val (.long jc), .second, .val (.int jn), .val (.long (0 : Int64)), .second, .unset, .unset] [(.int (1 : Int32)), (.int jn)])) _
    refine XS.icmpYes X0.here hx rfl (pc0 := 6) (pc' := 17) rfl (hb hby d3a_6) rfl (tlt hn1).1 (by decide) (by decide) ?_
    show Steps p.tables e below (s₁.setTop (mkF m 17 #[.val (.long ja), .second, .val (.long jb), .second, .val (.long jc), .second, .val (.int jn), .val (.long (0 : Int64)), .second, .unset, .unset] [])) _
    refine XS.iload X0.here hx rfl (hb hby d3a_17) rfl ?_
    show Steps p.tables e below (s₁.setTop (mkF m 19 #[.val (.long ja), .second, .val (.long jb), .second, .val (.long jc), .second, .val (.int jn), .val (.long (0 : Int64)), .second, .unset, .unset] [(.int jn)])) _
    refine XS.iconst X0.here hx rfl (hb hby d3a_19) ?_
    show Steps p.tables e below (s₁.setTop (mkF m 20 #[.val (.long ja), .second, .val (.long jb), .second, .val (.long jc), .second, .val (.int jn), .val (.long (0 : Int64)), .second, .unset, .unset] [(.int (2 : Int32)), (.int jn)])) _
    refine XS.icmpYes X0.here hx rfl (pc0 := 20) (pc' := 31) rfl (hb hby d3a_20) rfl (tlt hn2).1 (by decide) (by decide) ?_
    show Steps p.tables e below (s₁.setTop (mkF m 31 #[.val (.long ja), .second, .val (.long jb), .second, .val (.long jc), .second, .val (.int jn), .val (.long (0 : Int64)), .second, .unset, .unset] [])) _
    refine XS.iload X0.here hx rfl (hb hby d3a_31) rfl ?_
    show Steps p.tables e below (s₁.setTop (mkF m 33 #[.val (.long ja), .second, .val (.long jb), .second, .val (.long jc), .second, .val (.int jn), .val (.long (0 : Int64)), .second, .unset, .unset] [(.int jn)])) _
    refine XS.iconst X0.here hx rfl (hb hby d3a_33) ?_
    show Steps p.tables e below (s₁.setTop (mkF m 34 #[.val (.long ja), .second, .val (.long jb), .second, .val (.long jc), .second, .val (.int jn), .val (.long (0 : Int64)), .second, .unset, .unset] [(.int (3 : Int32)), (.int jn)])) _
    refine XS.icmpYes X0.here hx rfl (pc0 := 34) (pc' := 46) rfl (hb hby d3a_34) rfl (tlt hn3).1 (by decide) (by decide) ?_
    show Steps p.tables e below (s₁.setTop (mkF m 46 #[.val (.long ja), .second, .val (.long jb), .second, .val (.long jc), .second, .val (.int jn), .val (.long (0 : Int64)), .second, .unset, .unset] [])) _
    refine XS.lload X0.here hx rfl (hb hby d3a_46) rfl ?_
    show Steps p.tables e below (s₁.setTop (mkF m 48 #[.val (.long ja), .second, .val (.long jb), .second, .val (.long jc), .second, .val (.int jn), .val (.long (0 : Int64)), .second, .unset, .unset] [(.long (0 : Int64))])) _
    refine XS.lload X0.here hx rfl (hb hby d3a_48) rfl ?_
    show Steps p.tables e below (s₁.setTop (mkF m 50 #[.val (.long ja), .second, .val (.long jb), .second, .val (.long jc), .second, .val (.int jn), .val (.long (0 : Int64)), .second, .unset, .unset] [(.long (0 : Int64)), (.long (0 : Int64))])) _
    refine XS.bipush X0.here hx rfl (hb hby d3a_50) ?_
    show Steps p.tables e below (s₁.setTop (mkF m 52 #[.val (.long ja), .second, .val (.long jb), .second, .val (.long jc), .second, .val (.int jn), .val (.long (0 : Int64)), .second, .unset, .unset] [(.int (32 : Int32)), (.long (0 : Int64)), (.long (0 : Int64))])) _
    refine XS.lushr X0.here hx rfl (hb hby d3a_52) rfl ?_
    show Steps p.tables e below (s₁.setTop (mkF m 53 #[.val (.long ja), .second, .val (.long jb), .second, .val (.long jc), .second, .val (.int jn), .val (.long (0 : Int64)), .second, .unset, .unset] [(.long (((0 : Int64).toUInt64 >>> ((32 : Int32) &&& 0x3f).toInt64.toUInt64).toInt64)), (.long (0 : Int64))])) _
    refine XS.lxor X0.here hx rfl (hb hby d3a_53) rfl ?_
    show Steps p.tables e below (s₁.setTop (mkF m 54 #[.val (.long ja), .second, .val (.long jb), .second, .val (.long jc), .second, .val (.int jn), .val (.long (0 : Int64)), .second, .unset, .unset] [(.long ((0 : Int64) ^^^ (((0 : Int64).toUInt64 >>> ((32 : Int32) &&& 0x3f).toInt64.toUInt64).toInt64)))])) _
    refine X0.ldc2Long hx hown (mvT hZ (hw _ (List.mem_of_getElem? (i := 16) rfl))) (g := (mkF m 54 #[.val (.long ja), .second, .val (.long jb), .second, .val (.long jc), .second, .val (.int jn), .val (.long (0 : Int64)), .second, .unset, .unset] [(.long ((0 : Int64) ^^^ (((0 : Int64).toUInt64 >>> ((32 : Int32) &&& 0x3f).toInt64.toUInt64).toInt64)))])) rfl (hb hby d3a_54) _ ?_
    show Steps p.tables e below (s₁.setTop (mkF m 57 #[.val (.long ja), .second, .val (.long jb), .second, .val (.long jc), .second, .val (.int jn), .val (.long (0 : Int64)), .second, .unset, .unset] [(.long (-2960836687051489901 : Int64)), (.long ((0 : Int64) ^^^ (((0 : Int64).toUInt64 >>> ((32 : Int32) &&& 0x3f).toInt64.toUInt64).toInt64)))])) _
    refine XS.lmul X0.here hx rfl (hb hby d3a_57) rfl ?_
    show Steps p.tables e below (s₁.setTop (mkF m 58 #[.val (.long ja), .second, .val (.long jb), .second, .val (.long jc), .second, .val (.int jn), .val (.long (0 : Int64)), .second, .unset, .unset] [(.long (((0 : Int64) ^^^ (((0 : Int64).toUInt64 >>> ((32 : Int32) &&& 0x3f).toInt64.toUInt64).toInt64)) * (-2960836687051489901 : Int64)))])) _
    refine XS.lstore X0.here hx rfl (hb hby d3a_58) rfl (l' := #[.val (.long ja), .second, .val (.long jb), .second, .val (.long jc), .second, .val (.int jn), .val (.long (0 : Int64)), .second, .val (.long (((0 : Int64) ^^^ (((0 : Int64).toUInt64 >>> ((32 : Int32) &&& 0x3f).toInt64.toUInt64).toInt64)) * (-2960836687051489901 : Int64))), .second]) rfl ?_
    show Steps p.tables e below (s₁.setTop (mkF m 60 #[.val (.long ja), .second, .val (.long jb), .second, .val (.long jc), .second, .val (.int jn), .val (.long (0 : Int64)), .second, .val (.long (((0 : Int64) ^^^ (((0 : Int64).toUInt64 >>> ((32 : Int32) &&& 0x3f).toInt64.toUInt64).toInt64)) * (-2960836687051489901 : Int64))), .second] [])) _
    refine XS.lload X0.here hx rfl (hb hby d3a_60) rfl ?_
    show Steps p.tables e below (s₁.setTop (mkF m 62 #[.val (.long ja), .second, .val (.long jb), .second, .val (.long jc), .second, .val (.int jn), .val (.long (0 : Int64)), .second, .val (.long (((0 : Int64) ^^^ (((0 : Int64).toUInt64 >>> ((32 : Int32) &&& 0x3f).toInt64.toUInt64).toInt64)) * (-2960836687051489901 : Int64))), .second] [(.long (((0 : Int64) ^^^ (((0 : Int64).toUInt64 >>> ((32 : Int32) &&& 0x3f).toInt64.toUInt64).toInt64)) * (-2960836687051489901 : Int64)))])) _
    refine XS.lload X0.here hx rfl (hb hby d3a_62) rfl ?_
    show Steps p.tables e below (s₁.setTop (mkF m 64 #[.val (.long ja), .second, .val (.long jb), .second, .val (.long jc), .second, .val (.int jn), .val (.long (0 : Int64)), .second, .val (.long (((0 : Int64) ^^^ (((0 : Int64).toUInt64 >>> ((32 : Int32) &&& 0x3f).toInt64.toUInt64).toInt64)) * (-2960836687051489901 : Int64))), .second] [(.long (((0 : Int64) ^^^ (((0 : Int64).toUInt64 >>> ((32 : Int32) &&& 0x3f).toInt64.toUInt64).toInt64)) * (-2960836687051489901 : Int64))), (.long (((0 : Int64) ^^^ (((0 : Int64).toUInt64 >>> ((32 : Int32) &&& 0x3f).toInt64.toUInt64).toInt64)) * (-2960836687051489901 : Int64)))])) _
    refine XS.bipush X0.here hx rfl (hb hby d3a_64) ?_
    show Steps p.tables e below (s₁.setTop (mkF m 66 #[.val (.long ja), .second, .val (.long jb), .second, .val (.long jc), .second, .val (.int jn), .val (.long (0 : Int64)), .second, .val (.long (((0 : Int64) ^^^ (((0 : Int64).toUInt64 >>> ((32 : Int32) &&& 0x3f).toInt64.toUInt64).toInt64)) * (-2960836687051489901 : Int64))), .second] [(.int (32 : Int32)), (.long (((0 : Int64) ^^^ (((0 : Int64).toUInt64 >>> ((32 : Int32) &&& 0x3f).toInt64.toUInt64).toInt64)) * (-2960836687051489901 : Int64))), (.long (((0 : Int64) ^^^ (((0 : Int64).toUInt64 >>> ((32 : Int32) &&& 0x3f).toInt64.toUInt64).toInt64)) * (-2960836687051489901 : Int64)))])) _
    refine XS.lushr X0.here hx rfl (hb hby d3a_66) rfl ?_
    show Steps p.tables e below (s₁.setTop (mkF m 67 #[.val (.long ja), .second, .val (.long jb), .second, .val (.long jc), .second, .val (.int jn), .val (.long (0 : Int64)), .second, .val (.long (((0 : Int64) ^^^ (((0 : Int64).toUInt64 >>> ((32 : Int32) &&& 0x3f).toInt64.toUInt64).toInt64)) * (-2960836687051489901 : Int64))), .second] [(.long (((((0 : Int64) ^^^ (((0 : Int64).toUInt64 >>> ((32 : Int32) &&& 0x3f).toInt64.toUInt64).toInt64)) * (-2960836687051489901 : Int64)).toUInt64 >>> ((32 : Int32) &&& 0x3f).toInt64.toUInt64).toInt64)), (.long (((0 : Int64) ^^^ (((0 : Int64).toUInt64 >>> ((32 : Int32) &&& 0x3f).toInt64.toUInt64).toInt64)) * (-2960836687051489901 : Int64)))])) _
    refine XS.lxor X0.here hx rfl (hb hby d3a_67) rfl ?_
    show Steps p.tables e below (s₁.setTop (mkF m 68 #[.val (.long ja), .second, .val (.long jb), .second, .val (.long jc), .second, .val (.int jn), .val (.long (0 : Int64)), .second, .val (.long (((0 : Int64) ^^^ (((0 : Int64).toUInt64 >>> ((32 : Int32) &&& 0x3f).toInt64.toUInt64).toInt64)) * (-2960836687051489901 : Int64))), .second] [(.long ((((0 : Int64) ^^^ (((0 : Int64).toUInt64 >>> ((32 : Int32) &&& 0x3f).toInt64.toUInt64).toInt64)) * (-2960836687051489901 : Int64)) ^^^ (((((0 : Int64) ^^^ (((0 : Int64).toUInt64 >>> ((32 : Int32) &&& 0x3f).toInt64.toUInt64).toInt64)) * (-2960836687051489901 : Int64)).toUInt64 >>> ((32 : Int32) &&& 0x3f).toInt64.toUInt64).toInt64)))])) _
    refine XS.l2i X0.here hx rfl (hb hby d3a_68) rfl ?_
    show Steps p.tables e below (s₁.setTop (mkF m 69 #[.val (.long ja), .second, .val (.long jb), .second, .val (.long jc), .second, .val (.int jn), .val (.long (0 : Int64)), .second, .val (.long (((0 : Int64) ^^^ (((0 : Int64).toUInt64 >>> ((32 : Int32) &&& 0x3f).toInt64.toUInt64).toInt64)) * (-2960836687051489901 : Int64))), .second] [(.int (((((0 : Int64) ^^^ (((0 : Int64).toUInt64 >>> ((32 : Int32) &&& 0x3f).toInt64.toUInt64).toInt64)) * (-2960836687051489901 : Int64)) ^^^ (((((0 : Int64) ^^^ (((0 : Int64).toUInt64 >>> ((32 : Int32) &&& 0x3f).toInt64.toUInt64).toInt64)) * (-2960836687051489901 : Int64)).toUInt64 >>> ((32 : Int32) &&& 0x3f).toInt64.toUInt64).toInt64)).toInt32))])) _
    exact retI X0 hx Bd.returns (hb hby d3a_69) hr
  · show Q3a Z ja jb jc jn h0 n0 _ s₁.heap _
    rw [e0]
    exact ⟨rfl, N0, rfl⟩
theorem d1b_0 : decode prog_101_method_19_code 0 = .ok (.lconst 0, 1) := by decide +kernel
theorem d1b_1 : decode prog_101_method_19_code 1 = .ok (.lstore_n 3, 1) := by decide +kernel
theorem d1b_2 : decode prog_101_method_19_code 2 = .ok (.iload_n 1, 1) := by decide +kernel
theorem d1b_3 : decode prog_101_method_19_code 3 = .ok (.istore 5, 2) := by decide +kernel
theorem d1b_5 : decode prog_101_method_19_code 5 = .ok (.iload 5, 2) := by decide +kernel
theorem d1b_7 : decode prog_101_method_19_code 7 = .ok (.iload_n 2, 1) := by decide +kernel
theorem d1b_8 : decode prog_101_method_19_code 8 = .ok (.if_icmp .ge 20, 3) := by decide +kernel
theorem d1b_11 : decode prog_101_method_19_code 11 = .ok (.lload_n 3, 1) := by decide +kernel
theorem d1b_12 : decode prog_101_method_19_code 12 = .ok (.aload_n 0, 1) := by decide +kernel
theorem d1b_13 : decode prog_101_method_19_code 13 = .ok (.iload 5, 2) := by decide +kernel
theorem d1b_15 : decode prog_101_method_19_code 15 = .ok (.laload, 1) := by decide +kernel
theorem d1b_16 : decode prog_101_method_19_code 16 = .ok (.lxor, 1) := by decide +kernel
theorem d1b_17 : decode prog_101_method_19_code 17 = .ok (.ldc2_w 116, 3) := by decide +kernel
theorem d1b_20 : decode prog_101_method_19_code 20 = .ok (.lmul, 1) := by decide +kernel
theorem d1b_21 : decode prog_101_method_19_code 21 = .ok (.lstore_n 3, 1) := by decide +kernel
theorem d1b_22 : decode prog_101_method_19_code 22 = .ok (.iinc 5 1, 3) := by decide +kernel
theorem d1b_25 : decode prog_101_method_19_code 25 = .ok (.goto (-20), 3) := by decide +kernel
theorem d1b_28 : decode prog_101_method_19_code 28 = .ok (.lload_n 3, 1) := by decide +kernel
theorem d1b_29 : decode prog_101_method_19_code 29 = .ok (.lload_n 3, 1) := by decide +kernel
theorem d1b_30 : decode prog_101_method_19_code 30 = .ok (.bipush 32, 2) := by decide +kernel
theorem d1b_32 : decode prog_101_method_19_code 32 = .ok (.lushr, 1) := by decide +kernel
theorem d1b_33 : decode prog_101_method_19_code 33 = .ok (.lxor, 1) := by decide +kernel
theorem d1b_34 : decode prog_101_method_19_code 34 = .ok (.ldc2_w 118, 3) := by decide +kernel
theorem d1b_37 : decode prog_101_method_19_code 37 = .ok (.lmul, 1) := by decide +kernel
theorem d1b_38 : decode prog_101_method_19_code 38 = .ok (.lstore_n 3, 1) := by decide +kernel
theorem d1b_39 : decode prog_101_method_19_code 39 = .ok (.lload_n 3, 1) := by decide +kernel
theorem d1b_40 : decode prog_101_method_19_code 40 = .ok (.lload_n 3, 1) := by decide +kernel
theorem d1b_41 : decode prog_101_method_19_code 41 = .ok (.bipush 32, 2) := by decide +kernel
theorem d1b_43 : decode prog_101_method_19_code 43 = .ok (.lushr, 1) := by decide +kernel
theorem d1b_44 : decode prog_101_method_19_code 44 = .ok (.lxor, 1) := by decide +kernel
theorem d1b_45 : decode prog_101_method_19_code 45 = .ok (.l2i, 1) := by decide +kernel
theorem d1b_46 : decode prog_101_method_19_code 46 = .ok (.ireturn, 1) := by decide +kernel
theorem ef_1b (m : MethodId) (x0 : Addr) (x1 : Int32) (x2 : Int32) : entryFrame m #[(.ref x0), (.int x1), (.int x2)] 6 = mkF m 0 #[.val (.ref x0), .val (.int x1), .val (.int x2), .unset, .unset, .unset] [] := by first | (simp [entryFrame, mkF, argsToLocals, Value.category]; done) | rfl
def Q1b (Z : State) (o0 : Addr) (i1 : Int32) (i2 : Int32) (cl : Cell) (w0 : Int64) (h0 : Heap) (n0 : Nat) (v : Option Value) (h : Heap) (L : List Loc) : Prop := v = some (.int (((((((0 : Int64) ^^^ w0) * (-7046029254386353131 : Int64)) ^^^ (((((0 : Int64) ^^^ w0) * (-7046029254386353131 : Int64)).toUInt64 >>> ((32 : Int32) &&& 0x3f).toInt64.toUInt64).toInt64)) * (-2960836687051489901 : Int64)) ^^^ (((((((0 : Int64) ^^^ w0) * (-7046029254386353131 : Int64)) ^^^ (((((0 : Int64) ^^^ w0) * (-7046029254386353131 : Int64)).toUInt64 >>> ((32 : Int32) &&& 0x3f).toInt64.toUInt64).toInt64)) * (-2960836687051489901 : Int64)).toUInt64 >>> ((32 : Int32) &&& 0x3f).toInt64.toUInt64).toInt64)).toInt32)) ∧ Fr n0 L ∧ h = h0
set_option maxRecDepth 65536 in
set_option maxHeartbeats 40000000 in
theorem rm1b (l : Launch) (Z : State) (a0 : Array Value) (hw : ∀ d ∈ tables_1, d.before a0 Z = true) (ws : List Jvm.Cond) (o0 : Addr) (i1 : Int32) (i2 : Int32) (cl : Cell) (w0 : Int64) (h0 : Heap) (n0 : Nat) (Ar : Arr Z h0 o0 cl .long) (hc0 : i1 < i2) (hz : ¬ (i1 + (1 : Int32)) < i2) (hin0 : ¬ (i1 < 0 ∨ cl.slots.size ≤ (i1).toNatClampNeg)) (hat0 : cl.slots[(i1).toNatClampNeg]? = some (.long w0)) :
    MetFree l (⟨"com/example/assured_timing/assuredtiming/simulation/Configuration", "hash", "([JII)I"⟩ : MethodName) (head1 (Jvm.Cond.code (⟨"com/example/assured_timing/assuredtiming/simulation/Configuration", "hash", "([JII)I"⟩ : MethodName) prog_101_method_19_code 6 (some .int) :: ws) ({ frames := 0, cells := 0, slots := 0, locals := 0 } : Room)) (fun a U => a = #[(.ref o0), (.int i1), (.int i2)] ∧ Z.Warmed39 U.vm ∧ U.heap = h0) (fun _ _ _ _ _ => True) (fun _ U o U' => ∃ v L, o = .returned v ∧ Q1b Z o0 i1 i2 cl w0 h0 n0 v U'.heap L ∧ FrameEnd U o U' L ({ frames := 0, cells := 0, slots := 0, locals := 0 } : Room).cells ({ frames := 0, cells := 0, slots := 0, locals := 0 } : Room).slots) := by
  refine MetFree.of_bodySF (plainFor_of_name pn_1) hisR ?_
  intro p e s m args below meth c s₁ Bd hml0 hP hK
  obtain ⟨rfl, hZ, hh⟩ := hP
  have hx := Bd.exec
  have hby := Bd.bytes
  have hml : c.maxLocals = 6 := hml0
  have hown : s.vm.findClass "com/example/assured_timing/assuredtiming/simulation/Configuration" = some m.cls := findClass_of_methodNamed Bd.named
  have hnm := (name_of_methodNamed Bd.named Bd.method).1
  have X0 : Stand p l e ({ frames := 0, cells := 0, slots := 0, locals := 0 } : Room) s m #[(.ref o0), (.int i1), (.int i2)] below meth c s₁ [] 0 0 := Stand.of_body Bd
  have e0 : s₁.heap = h0 := by rw [← hh, Bd.state]; rfl
  have N0 := Fr.nil n0
  have pre0 : ∀ t, Steps p.tables e below (s₁.setTop (mkF m 0 #[.val (.ref o0), .val (.int i1), .val (.int i2), .unset, .unset, .unset] [])) t → Steps p.tables e below (s₁.setTop (entryFrame m #[(.ref o0), (.int i1), (.int i2)] 6)) t := fun t k => castTop (ef_1b m o0 i1 i2) k
  obtain ⟨fs, hr, hrun, hended, hW, hsame⟩ := X0.leave (v := some (.int (((((((0 : Int64) ^^^ w0) * (-7046029254386353131 : Int64)) ^^^ (((((0 : Int64) ^^^ w0) * (-7046029254386353131 : Int64)).toUInt64 >>> ((32 : Int32) &&& 0x3f).toInt64.toUInt64).toInt64)) * (-2960836687051489901 : Int64)) ^^^ (((((((0 : Int64) ^^^ w0) * (-7046029254386353131 : Int64)) ^^^ (((((0 : Int64) ^^^ w0) * (-7046029254386353131 : Int64)).toUInt64 >>> ((32 : Int32) &&& 0x3f).toInt64.toUInt64).toInt64)) * (-2960836687051489901 : Int64)).toUInt64 >>> ((32 : Int32) &&& 0x3f).toInt64.toUInt64).toInt64)).toInt32))) (fun h => by rw [Bd.returns] at h; cases h)
  refine ⟨_, _, pre0 _ ?_, hrun, hended, _, _, rfl, ?_, ⟨_, rfl⟩, hW, hsame.mono (by decide) (by decide)⟩
  · show Steps p.tables e below (s₁.setTop (mkF m 0 #[.val (.ref o0), .val (.int i1), .val (.int i2), .unset, .unset, .unset] [])) _
    refine XS.lconst X0.here hx rfl (hb hby d1b_0) ?_
    show Steps p.tables e below (s₁.setTop (mkF m 1 #[.val (.ref o0), .val (.int i1), .val (.int i2), .unset, .unset, .unset] [(.long (0 : Int64))])) _
    refine XS.lstoreN X0.here hx rfl (hb hby d1b_1) rfl (l' := #[.val (.ref o0), .val (.int i1), .val (.int i2), .val (.long (0 : Int64)), .second, .unset]) rfl ?_
    show Steps p.tables e below (s₁.setTop (mkF m 2 #[.val (.ref o0), .val (.int i1), .val (.int i2), .val (.long (0 : Int64)), .second, .unset] [])) _
    refine XS.iloadN X0.here hx rfl (hb hby d1b_2) rfl ?_
    show Steps p.tables e below (s₁.setTop (mkF m 3 #[.val (.ref o0), .val (.int i1), .val (.int i2), .val (.long (0 : Int64)), .second, .unset] [(.int i1)])) _
    refine XS.istore X0.here hx rfl (hb hby d1b_3) rfl (l' := #[.val (.ref o0), .val (.int i1), .val (.int i2), .val (.long (0 : Int64)), .second, .val (.int i1)]) rfl ?_
    show Steps p.tables e below (s₁.setTop (mkF m 5 #[.val (.ref o0), .val (.int i1), .val (.int i2), .val (.long (0 : Int64)), .second, .val (.int i1)] [])) _
    refine XS.iload X0.here hx rfl (hb hby d1b_5) rfl ?_
    show Steps p.tables e below (s₁.setTop (mkF m 7 #[.val (.ref o0), .val (.int i1), .val (.int i2), .val (.long (0 : Int64)), .second, .val (.int i1)] [(.int i1)])) _
    refine XS.iloadN X0.here hx rfl (hb hby d1b_7) rfl ?_
    show Steps p.tables e below (s₁.setTop (mkF m 8 #[.val (.ref o0), .val (.int i1), .val (.int i2), .val (.long (0 : Int64)), .second, .val (.int i1)] [(.int i2), (.int i1)])) _
    refine XS.icmpNo X0.here hx rfl (hb hby d1b_8) rfl (tlt hc0).2.1 ?_
    show Steps p.tables e below (s₁.setTop (mkF m 11 #[.val (.ref o0), .val (.int i1), .val (.int i2), .val (.long (0 : Int64)), .second, .val (.int i1)] [])) _
    refine XS.lloadN X0.here hx rfl (hb hby d1b_11) rfl ?_
    show Steps p.tables e below (s₁.setTop (mkF m 12 #[.val (.ref o0), .val (.int i1), .val (.int i2), .val (.long (0 : Int64)), .second, .val (.int i1)] [(.long (0 : Int64))])) _
    refine XS.aloadN X0.here hx rfl (hb hby d1b_12) rfl rfl ?_
    show Steps p.tables e below (s₁.setTop (mkF m 13 #[.val (.ref o0), .val (.int i1), .val (.int i2), .val (.long (0 : Int64)), .second, .val (.int i1)] [(.ref o0), (.long (0 : Int64))])) _
    refine XS.iload X0.here hx rfl (hb hby d1b_13) rfl ?_
    show Steps p.tables e below (s₁.setTop (mkF m 15 #[.val (.ref o0), .val (.int i1), .val (.int i2), .val (.long (0 : Int64)), .second, .val (.int i1)] [(.int i1), (.ref o0), (.long (0 : Int64))])) _
    refine X0.laload hx (j := i1) (v := (.long w0)) (by rw [e0]; exact Ar.1) (State.isArrayOf_alike hZ.alike Ar.2.1) Ar.2.2 hin0 hat0 (g := (mkF m 15 #[.val (.ref o0), .val (.int i1), .val (.int i2), .val (.long (0 : Int64)), .second, .val (.int i1)] [(.int i1), (.ref o0), (.long (0 : Int64))])) rfl rfl (hb hby d1b_15) _ ?_
    show Steps p.tables e below (s₁.setTop (mkF m 16 #[.val (.ref o0), .val (.int i1), .val (.int i2), .val (.long (0 : Int64)), .second, .val (.int i1)] [(.long w0), (.long (0 : Int64))])) _
    refine XS.lxor X0.here hx rfl (hb hby d1b_16) rfl ?_
    show Steps p.tables e below (s₁.setTop (mkF m 17 #[.val (.ref o0), .val (.int i1), .val (.int i2), .val (.long (0 : Int64)), .second, .val (.int i1)] [(.long ((0 : Int64) ^^^ w0))])) _
    refine X0.ldc2Long hx hown (mvT hZ (hw _ (List.mem_of_getElem? (i := 6) rfl))) (g := (mkF m 17 #[.val (.ref o0), .val (.int i1), .val (.int i2), .val (.long (0 : Int64)), .second, .val (.int i1)] [(.long ((0 : Int64) ^^^ w0))])) rfl (hb hby d1b_17) _ ?_
    show Steps p.tables e below (s₁.setTop (mkF m 20 #[.val (.ref o0), .val (.int i1), .val (.int i2), .val (.long (0 : Int64)), .second, .val (.int i1)] [(.long (-7046029254386353131 : Int64)), (.long ((0 : Int64) ^^^ w0))])) _
    refine XS.lmul X0.here hx rfl (hb hby d1b_20) rfl ?_
    show Steps p.tables e below (s₁.setTop (mkF m 21 #[.val (.ref o0), .val (.int i1), .val (.int i2), .val (.long (0 : Int64)), .second, .val (.int i1)] [(.long (((0 : Int64) ^^^ w0) * (-7046029254386353131 : Int64)))])) _
    refine XS.lstoreN X0.here hx rfl (hb hby d1b_21) rfl (l' := #[.val (.ref o0), .val (.int i1), .val (.int i2), .val (.long (((0 : Int64) ^^^ w0) * (-7046029254386353131 : Int64))), .second, .val (.int i1)]) rfl ?_
    show Steps p.tables e below (s₁.setTop (mkF m 22 #[.val (.ref o0), .val (.int i1), .val (.int i2), .val (.long (((0 : Int64) ^^^ w0) * (-7046029254386353131 : Int64))), .second, .val (.int i1)] [])) _
    refine XS.iinc X0.here hx rfl (hb hby d1b_22) rfl (l' := #[.val (.ref o0), .val (.int i1), .val (.int i2), .val (.long (((0 : Int64) ^^^ w0) * (-7046029254386353131 : Int64))), .second, .val (.int (i1 + (1 : Int32)))]) rfl ?_
    show Steps p.tables e below (s₁.setTop (mkF m 25 #[.val (.ref o0), .val (.int i1), .val (.int i2), .val (.long (((0 : Int64) ^^^ w0) * (-7046029254386353131 : Int64))), .second, .val (.int (i1 + (1 : Int32)))] [])) _
    refine XS.goto X0.here hx rfl (pc0 := 25) (pc' := 5) rfl (hb hby d1b_25) (by decide) (by decide) ?_
    show Steps p.tables e below (s₁.setTop (mkF m 5 #[.val (.ref o0), .val (.int i1), .val (.int i2), .val (.long (((0 : Int64) ^^^ w0) * (-7046029254386353131 : Int64))), .second, .val (.int (i1 + (1 : Int32)))] [])) _
    refine XS.iload X0.here hx rfl (hb hby d1b_5) rfl ?_
    show Steps p.tables e below (s₁.setTop (mkF m 7 #[.val (.ref o0), .val (.int i1), .val (.int i2), .val (.long (((0 : Int64) ^^^ w0) * (-7046029254386353131 : Int64))), .second, .val (.int (i1 + (1 : Int32)))] [(.int (i1 + (1 : Int32)))])) _
    refine XS.iloadN X0.here hx rfl (hb hby d1b_7) rfl ?_
    show Steps p.tables e below (s₁.setTop (mkF m 8 #[.val (.ref o0), .val (.int i1), .val (.int i2), .val (.long (((0 : Int64) ^^^ w0) * (-7046029254386353131 : Int64))), .second, .val (.int (i1 + (1 : Int32)))] [(.int i2), (.int (i1 + (1 : Int32)))])) _
    refine XS.icmpYes X0.here hx rfl (pc0 := 8) (pc' := 28) rfl (hb hby d1b_8) rfl (flt hz).2.1 (by decide) (by decide) ?_
    show Steps p.tables e below (s₁.setTop (mkF m 28 #[.val (.ref o0), .val (.int i1), .val (.int i2), .val (.long (((0 : Int64) ^^^ w0) * (-7046029254386353131 : Int64))), .second, .val (.int (i1 + (1 : Int32)))] [])) _
    refine XS.lloadN X0.here hx rfl (hb hby d1b_28) rfl ?_
    show Steps p.tables e below (s₁.setTop (mkF m 29 #[.val (.ref o0), .val (.int i1), .val (.int i2), .val (.long (((0 : Int64) ^^^ w0) * (-7046029254386353131 : Int64))), .second, .val (.int (i1 + (1 : Int32)))] [(.long (((0 : Int64) ^^^ w0) * (-7046029254386353131 : Int64)))])) _
    refine XS.lloadN X0.here hx rfl (hb hby d1b_29) rfl ?_
    show Steps p.tables e below (s₁.setTop (mkF m 30 #[.val (.ref o0), .val (.int i1), .val (.int i2), .val (.long (((0 : Int64) ^^^ w0) * (-7046029254386353131 : Int64))), .second, .val (.int (i1 + (1 : Int32)))] [(.long (((0 : Int64) ^^^ w0) * (-7046029254386353131 : Int64))), (.long (((0 : Int64) ^^^ w0) * (-7046029254386353131 : Int64)))])) _
    refine XS.bipush X0.here hx rfl (hb hby d1b_30) ?_
    show Steps p.tables e below (s₁.setTop (mkF m 32 #[.val (.ref o0), .val (.int i1), .val (.int i2), .val (.long (((0 : Int64) ^^^ w0) * (-7046029254386353131 : Int64))), .second, .val (.int (i1 + (1 : Int32)))] [(.int (32 : Int32)), (.long (((0 : Int64) ^^^ w0) * (-7046029254386353131 : Int64))), (.long (((0 : Int64) ^^^ w0) * (-7046029254386353131 : Int64)))])) _
    refine XS.lushr X0.here hx rfl (hb hby d1b_32) rfl ?_
    show Steps p.tables e below (s₁.setTop (mkF m 33 #[.val (.ref o0), .val (.int i1), .val (.int i2), .val (.long (((0 : Int64) ^^^ w0) * (-7046029254386353131 : Int64))), .second, .val (.int (i1 + (1 : Int32)))] [(.long (((((0 : Int64) ^^^ w0) * (-7046029254386353131 : Int64)).toUInt64 >>> ((32 : Int32) &&& 0x3f).toInt64.toUInt64).toInt64)), (.long (((0 : Int64) ^^^ w0) * (-7046029254386353131 : Int64)))])) _
    refine XS.lxor X0.here hx rfl (hb hby d1b_33) rfl ?_
    show Steps p.tables e below (s₁.setTop (mkF m 34 #[.val (.ref o0), .val (.int i1), .val (.int i2), .val (.long (((0 : Int64) ^^^ w0) * (-7046029254386353131 : Int64))), .second, .val (.int (i1 + (1 : Int32)))] [(.long ((((0 : Int64) ^^^ w0) * (-7046029254386353131 : Int64)) ^^^ (((((0 : Int64) ^^^ w0) * (-7046029254386353131 : Int64)).toUInt64 >>> ((32 : Int32) &&& 0x3f).toInt64.toUInt64).toInt64)))])) _
    refine X0.ldc2Long hx hown (mvT hZ (hw _ (List.mem_of_getElem? (i := 7) rfl))) (g := (mkF m 34 #[.val (.ref o0), .val (.int i1), .val (.int i2), .val (.long (((0 : Int64) ^^^ w0) * (-7046029254386353131 : Int64))), .second, .val (.int (i1 + (1 : Int32)))] [(.long ((((0 : Int64) ^^^ w0) * (-7046029254386353131 : Int64)) ^^^ (((((0 : Int64) ^^^ w0) * (-7046029254386353131 : Int64)).toUInt64 >>> ((32 : Int32) &&& 0x3f).toInt64.toUInt64).toInt64)))])) rfl (hb hby d1b_34) _ ?_
    show Steps p.tables e below (s₁.setTop (mkF m 37 #[.val (.ref o0), .val (.int i1), .val (.int i2), .val (.long (((0 : Int64) ^^^ w0) * (-7046029254386353131 : Int64))), .second, .val (.int (i1 + (1 : Int32)))] [(.long (-2960836687051489901 : Int64)), (.long ((((0 : Int64) ^^^ w0) * (-7046029254386353131 : Int64)) ^^^ (((((0 : Int64) ^^^ w0) * (-7046029254386353131 : Int64)).toUInt64 >>> ((32 : Int32) &&& 0x3f).toInt64.toUInt64).toInt64)))])) _
    refine XS.lmul X0.here hx rfl (hb hby d1b_37) rfl ?_
    show Steps p.tables e below (s₁.setTop (mkF m 38 #[.val (.ref o0), .val (.int i1), .val (.int i2), .val (.long (((0 : Int64) ^^^ w0) * (-7046029254386353131 : Int64))), .second, .val (.int (i1 + (1 : Int32)))] [(.long (((((0 : Int64) ^^^ w0) * (-7046029254386353131 : Int64)) ^^^ (((((0 : Int64) ^^^ w0) * (-7046029254386353131 : Int64)).toUInt64 >>> ((32 : Int32) &&& 0x3f).toInt64.toUInt64).toInt64)) * (-2960836687051489901 : Int64)))])) _
    refine XS.lstoreN X0.here hx rfl (hb hby d1b_38) rfl (l' := #[.val (.ref o0), .val (.int i1), .val (.int i2), .val (.long (((((0 : Int64) ^^^ w0) * (-7046029254386353131 : Int64)) ^^^ (((((0 : Int64) ^^^ w0) * (-7046029254386353131 : Int64)).toUInt64 >>> ((32 : Int32) &&& 0x3f).toInt64.toUInt64).toInt64)) * (-2960836687051489901 : Int64))), .second, .val (.int (i1 + (1 : Int32)))]) rfl ?_
    show Steps p.tables e below (s₁.setTop (mkF m 39 #[.val (.ref o0), .val (.int i1), .val (.int i2), .val (.long (((((0 : Int64) ^^^ w0) * (-7046029254386353131 : Int64)) ^^^ (((((0 : Int64) ^^^ w0) * (-7046029254386353131 : Int64)).toUInt64 >>> ((32 : Int32) &&& 0x3f).toInt64.toUInt64).toInt64)) * (-2960836687051489901 : Int64))), .second, .val (.int (i1 + (1 : Int32)))] [])) _
    refine XS.lloadN X0.here hx rfl (hb hby d1b_39) rfl ?_
    show Steps p.tables e below (s₁.setTop (mkF m 40 #[.val (.ref o0), .val (.int i1), .val (.int i2), .val (.long (((((0 : Int64) ^^^ w0) * (-7046029254386353131 : Int64)) ^^^ (((((0 : Int64) ^^^ w0) * (-7046029254386353131 : Int64)).toUInt64 >>> ((32 : Int32) &&& 0x3f).toInt64.toUInt64).toInt64)) * (-2960836687051489901 : Int64))), .second, .val (.int (i1 + (1 : Int32)))] [(.long (((((0 : Int64) ^^^ w0) * (-7046029254386353131 : Int64)) ^^^ (((((0 : Int64) ^^^ w0) * (-7046029254386353131 : Int64)).toUInt64 >>> ((32 : Int32) &&& 0x3f).toInt64.toUInt64).toInt64)) * (-2960836687051489901 : Int64)))])) _
    refine XS.lloadN X0.here hx rfl (hb hby d1b_40) rfl ?_
    show Steps p.tables e below (s₁.setTop (mkF m 41 #[.val (.ref o0), .val (.int i1), .val (.int i2), .val (.long (((((0 : Int64) ^^^ w0) * (-7046029254386353131 : Int64)) ^^^ (((((0 : Int64) ^^^ w0) * (-7046029254386353131 : Int64)).toUInt64 >>> ((32 : Int32) &&& 0x3f).toInt64.toUInt64).toInt64)) * (-2960836687051489901 : Int64))), .second, .val (.int (i1 + (1 : Int32)))] [(.long (((((0 : Int64) ^^^ w0) * (-7046029254386353131 : Int64)) ^^^ (((((0 : Int64) ^^^ w0) * (-7046029254386353131 : Int64)).toUInt64 >>> ((32 : Int32) &&& 0x3f).toInt64.toUInt64).toInt64)) * (-2960836687051489901 : Int64))), (.long (((((0 : Int64) ^^^ w0) * (-7046029254386353131 : Int64)) ^^^ (((((0 : Int64) ^^^ w0) * (-7046029254386353131 : Int64)).toUInt64 >>> ((32 : Int32) &&& 0x3f).toInt64.toUInt64).toInt64)) * (-2960836687051489901 : Int64)))])) _
    refine XS.bipush X0.here hx rfl (hb hby d1b_41) ?_
    show Steps p.tables e below (s₁.setTop (mkF m 43 #[.val (.ref o0), .val (.int i1), .val (.int i2), .val (.long (((((0 : Int64) ^^^ w0) * (-7046029254386353131 : Int64)) ^^^ (((((0 : Int64) ^^^ w0) * (-7046029254386353131 : Int64)).toUInt64 >>> ((32 : Int32) &&& 0x3f).toInt64.toUInt64).toInt64)) * (-2960836687051489901 : Int64))), .second, .val (.int (i1 + (1 : Int32)))] [(.int (32 : Int32)), (.long (((((0 : Int64) ^^^ w0) * (-7046029254386353131 : Int64)) ^^^ (((((0 : Int64) ^^^ w0) * (-7046029254386353131 : Int64)).toUInt64 >>> ((32 : Int32) &&& 0x3f).toInt64.toUInt64).toInt64)) * (-2960836687051489901 : Int64))), (.long (((((0 : Int64) ^^^ w0) * (-7046029254386353131 : Int64)) ^^^ (((((0 : Int64) ^^^ w0) * (-7046029254386353131 : Int64)).toUInt64 >>> ((32 : Int32) &&& 0x3f).toInt64.toUInt64).toInt64)) * (-2960836687051489901 : Int64)))])) _
    refine XS.lushr X0.here hx rfl (hb hby d1b_43) rfl ?_
    show Steps p.tables e below (s₁.setTop (mkF m 44 #[.val (.ref o0), .val (.int i1), .val (.int i2), .val (.long (((((0 : Int64) ^^^ w0) * (-7046029254386353131 : Int64)) ^^^ (((((0 : Int64) ^^^ w0) * (-7046029254386353131 : Int64)).toUInt64 >>> ((32 : Int32) &&& 0x3f).toInt64.toUInt64).toInt64)) * (-2960836687051489901 : Int64))), .second, .val (.int (i1 + (1 : Int32)))] [(.long (((((((0 : Int64) ^^^ w0) * (-7046029254386353131 : Int64)) ^^^ (((((0 : Int64) ^^^ w0) * (-7046029254386353131 : Int64)).toUInt64 >>> ((32 : Int32) &&& 0x3f).toInt64.toUInt64).toInt64)) * (-2960836687051489901 : Int64)).toUInt64 >>> ((32 : Int32) &&& 0x3f).toInt64.toUInt64).toInt64)), (.long (((((0 : Int64) ^^^ w0) * (-7046029254386353131 : Int64)) ^^^ (((((0 : Int64) ^^^ w0) * (-7046029254386353131 : Int64)).toUInt64 >>> ((32 : Int32) &&& 0x3f).toInt64.toUInt64).toInt64)) * (-2960836687051489901 : Int64)))])) _
    refine XS.lxor X0.here hx rfl (hb hby d1b_44) rfl ?_
    show Steps p.tables e below (s₁.setTop (mkF m 45 #[.val (.ref o0), .val (.int i1), .val (.int i2), .val (.long (((((0 : Int64) ^^^ w0) * (-7046029254386353131 : Int64)) ^^^ (((((0 : Int64) ^^^ w0) * (-7046029254386353131 : Int64)).toUInt64 >>> ((32 : Int32) &&& 0x3f).toInt64.toUInt64).toInt64)) * (-2960836687051489901 : Int64))), .second, .val (.int (i1 + (1 : Int32)))] [(.long ((((((0 : Int64) ^^^ w0) * (-7046029254386353131 : Int64)) ^^^ (((((0 : Int64) ^^^ w0) * (-7046029254386353131 : Int64)).toUInt64 >>> ((32 : Int32) &&& 0x3f).toInt64.toUInt64).toInt64)) * (-2960836687051489901 : Int64)) ^^^ (((((((0 : Int64) ^^^ w0) * (-7046029254386353131 : Int64)) ^^^ (((((0 : Int64) ^^^ w0) * (-7046029254386353131 : Int64)).toUInt64 >>> ((32 : Int32) &&& 0x3f).toInt64.toUInt64).toInt64)) * (-2960836687051489901 : Int64)).toUInt64 >>> ((32 : Int32) &&& 0x3f).toInt64.toUInt64).toInt64)))])) _
    refine XS.l2i X0.here hx rfl (hb hby d1b_45) rfl ?_
    show Steps p.tables e below (s₁.setTop (mkF m 46 #[.val (.ref o0), .val (.int i1), .val (.int i2), .val (.long (((((0 : Int64) ^^^ w0) * (-7046029254386353131 : Int64)) ^^^ (((((0 : Int64) ^^^ w0) * (-7046029254386353131 : Int64)).toUInt64 >>> ((32 : Int32) &&& 0x3f).toInt64.toUInt64).toInt64)) * (-2960836687051489901 : Int64))), .second, .val (.int (i1 + (1 : Int32)))] [(.int (((((((0 : Int64) ^^^ w0) * (-7046029254386353131 : Int64)) ^^^ (((((0 : Int64) ^^^ w0) * (-7046029254386353131 : Int64)).toUInt64 >>> ((32 : Int32) &&& 0x3f).toInt64.toUInt64).toInt64)) * (-2960836687051489901 : Int64)) ^^^ (((((((0 : Int64) ^^^ w0) * (-7046029254386353131 : Int64)) ^^^ (((((0 : Int64) ^^^ w0) * (-7046029254386353131 : Int64)).toUInt64 >>> ((32 : Int32) &&& 0x3f).toInt64.toUInt64).toInt64)) * (-2960836687051489901 : Int64)).toUInt64 >>> ((32 : Int32) &&& 0x3f).toInt64.toUInt64).toInt64)).toInt32))])) _
    exact retI X0 hx Bd.returns (hb hby d1b_46) hr
  · show Q1b Z o0 i1 i2 cl w0 h0 n0 _ s₁.heap _
    rw [e0]
    exact ⟨rfl, N0, rfl⟩
theorem pd_0 : parseMethodDescriptor "(JJ)J" = some ⟨[.long, .long], some .long⟩ := by decide +kernel
theorem d3b_0 : decode method_3_code 0 = .ok (.lconst 0, 1) := by decide +kernel
theorem d3b_1 : decode method_3_code 1 = .ok (.lstore 7, 2) := by decide +kernel
theorem d3b_3 : decode method_3_code 3 = .ok (.iload 6, 2) := by decide +kernel
theorem d3b_5 : decode method_3_code 5 = .ok (.iconst 1, 1) := by decide +kernel
theorem d3b_6 : decode method_3_code 6 = .ok (.if_icmp .lt 11, 3) := by decide +kernel
theorem d3b_9 : decode method_3_code 9 = .ok (.lload 7, 2) := by decide +kernel
theorem d3b_11 : decode method_3_code 11 = .ok (.lload_n 0, 1) := by decide +kernel
theorem d3b_12 : decode method_3_code 12 = .ok (.invokestatic 11, 3) := by decide +kernel
theorem d3b_15 : decode method_3_code 15 = .ok (.lstore 7, 2) := by decide +kernel
theorem d3b_17 : decode method_3_code 17 = .ok (.iload 6, 2) := by decide +kernel
theorem d3b_19 : decode method_3_code 19 = .ok (.iconst 2, 1) := by decide +kernel
theorem d3b_20 : decode method_3_code 20 = .ok (.if_icmp .lt 11, 3) := by decide +kernel
theorem d3b_31 : decode method_3_code 31 = .ok (.iload 6, 2) := by decide +kernel
theorem d3b_33 : decode method_3_code 33 = .ok (.iconst 3, 1) := by decide +kernel
theorem d3b_34 : decode method_3_code 34 = .ok (.if_icmp .lt 12, 3) := by decide +kernel
theorem d3b_46 : decode method_3_code 46 = .ok (.lload 7, 2) := by decide +kernel
theorem d3b_48 : decode method_3_code 48 = .ok (.lload 7, 2) := by decide +kernel
theorem d3b_50 : decode method_3_code 50 = .ok (.bipush 32, 2) := by decide +kernel
theorem d3b_52 : decode method_3_code 52 = .ok (.lushr, 1) := by decide +kernel
theorem d3b_53 : decode method_3_code 53 = .ok (.lxor, 1) := by decide +kernel
theorem d3b_54 : decode method_3_code 54 = .ok (.ldc2_w 15, 3) := by decide +kernel
theorem d3b_57 : decode method_3_code 57 = .ok (.lmul, 1) := by decide +kernel
theorem d3b_58 : decode method_3_code 58 = .ok (.lstore 9, 2) := by decide +kernel
theorem d3b_60 : decode method_3_code 60 = .ok (.lload 9, 2) := by decide +kernel
theorem d3b_62 : decode method_3_code 62 = .ok (.lload 9, 2) := by decide +kernel
theorem d3b_64 : decode method_3_code 64 = .ok (.bipush 32, 2) := by decide +kernel
theorem d3b_66 : decode method_3_code 66 = .ok (.lushr, 1) := by decide +kernel
theorem d3b_67 : decode method_3_code 67 = .ok (.lxor, 1) := by decide +kernel
theorem d3b_68 : decode method_3_code 68 = .ok (.l2i, 1) := by decide +kernel
theorem d3b_69 : decode method_3_code 69 = .ok (.ireturn, 1) := by decide +kernel
theorem ef_3b (m : MethodId) (x0 : Int64) (x1 : Int64) (x2 : Int64) (x3 : Int32) : entryFrame m #[(.long x0), (.long x1), (.long x2), (.int x3)] 11 = mkF m 0 #[.val (.long x0), .second, .val (.long x1), .second, .val (.long x2), .second, .val (.int x3), .unset, .unset, .unset, .unset] [] := by first | (simp [entryFrame, mkF, argsToLocals, Value.category]; done) | rfl
def Q3b (Z : State) (ja : Int64) (jb : Int64) (jc : Int64) (jn : Int32) (h0 : Heap) (n0 : Nat) (v : Option Value) (h : Heap) (L : List Loc) : Prop := v = some (.int (((((((0 : Int64) ^^^ ja) * (-7046029254386353131 : Int64)) ^^^ (((((0 : Int64) ^^^ ja) * (-7046029254386353131 : Int64)).toUInt64 >>> ((32 : Int32) &&& 0x3f).toInt64.toUInt64).toInt64)) * (-2960836687051489901 : Int64)) ^^^ (((((((0 : Int64) ^^^ ja) * (-7046029254386353131 : Int64)) ^^^ (((((0 : Int64) ^^^ ja) * (-7046029254386353131 : Int64)).toUInt64 >>> ((32 : Int32) &&& 0x3f).toInt64.toUInt64).toInt64)) * (-2960836687051489901 : Int64)).toUInt64 >>> ((32 : Int32) &&& 0x3f).toInt64.toUInt64).toInt64)).toInt32)) ∧ Fr n0 L ∧ h = h0
set_option maxRecDepth 65536 in
set_option maxHeartbeats 40000000 in
theorem rm3b (l : Launch) (Z : State) (a0 : Array Value) (hw : ∀ d ∈ tables_1, d.before a0 Z = true) (ws : List Jvm.Cond) (ja : Int64) (jb : Int64) (jc : Int64) (jn : Int32) (h0 : Heap) (n0 : Nat) (hn1 : ¬ jn < (1 : Int32)) (hn2 : jn < (2 : Int32)) (hn3 : jn < (3 : Int32)) :
    MetFree l (⟨"com/example/assured_timing/assuredtiming/simulation/ConfigurationHashPinLaw", "expected", "(JJJI)I"⟩ : MethodName) (head1 (Jvm.Cond.code (⟨"com/example/assured_timing/assuredtiming/simulation/ConfigurationHashPinLaw", "expected", "(JJJI)I"⟩ : MethodName) method_3_code 11 (some .int) :: ws) ({ frames := 1, cells := 0, slots := 0, locals := 15 } : Room)) (fun a U => a = #[(.long ja), (.long jb), (.long jc), (.int jn)] ∧ Z.Warmed39 U.vm ∧ U.heap = h0) (fun _ _ _ _ _ => True) (fun _ U o U' => ∃ v L, o = .returned v ∧ Q3b Z ja jb jc jn h0 n0 v U'.heap L ∧ FrameEnd U o U' L ({ frames := 1, cells := 0, slots := 0, locals := 15 } : Room).cells ({ frames := 1, cells := 0, slots := 0, locals := 15 } : Room).slots) := by
  refine MetFree.of_bodySF (plainFor_of_name pn_0) hisR ?_
  intro p e s m args below meth c s₁ Bd hml0 hP hK
  obtain ⟨rfl, hZ, hh⟩ := hP
  have hx := Bd.exec
  have hby := Bd.bytes
  have hml : c.maxLocals = 11 := hml0
  have hown : s.vm.findClass "com/example/assured_timing/assuredtiming/simulation/ConfigurationHashPinLaw" = some m.cls := findClass_of_methodNamed Bd.named
  have hnm := (name_of_methodNamed Bd.named Bd.method).1
  have X0 : Stand p l e ({ frames := 1, cells := 0, slots := 0, locals := 15 } : Room) s m #[(.long ja), (.long jb), (.long jc), (.int jn)] below meth c s₁ [] 0 0 := Stand.of_body Bd
  have e0 : s₁.heap = h0 := by rw [← hh, Bd.state]; rfl
  have N0 := Fr.nil n0
  have pre0 : ∀ t, Steps p.tables e below (s₁.setTop (mkF m 0 #[.val (.long ja), .second, .val (.long jb), .second, .val (.long jc), .second, .val (.int jn), .unset, .unset, .unset, .unset] [])) t → Steps p.tables e below (s₁.setTop (entryFrame m #[(.long ja), (.long jb), (.long jc), (.int jn)] 11)) t := fun t k => castTop (ef_3b m ja jb jc jn) k
  obtain ⟨_, _, ⟨T1, L1, k1, n1⟩, -, X1, ⟨Lc1, hQ1, l1, y1, z1⟩, st1⟩ := Jvm.LawKit.callS X0 hx (y := (⟨"com/example/assured_timing/assuredtiming/simulation/ConfigurationHashPinLaw", "step", "(JJ)J"⟩ : MethodName)) hown (mvT hZ (hw _ (List.mem_of_getElem? (i := 12) rfl))) (mvT hZ (hw _ (List.mem_of_getElem? (i := 13) rfl))) (mvT hZ (hw _ (List.mem_of_getElem? (i := 10) rfl))) (mvT hZ (hw _ (List.mem_of_getElem? (i := 14) rfl))) (by decide) (backOf (W := 0) (rm2 l Z a0 hw [] (0 : Int64) ja h0 n0) hZ (hw _ (List.mem_of_getElem? (i := 14) rfl)) (hw _ (List.mem_of_getElem? (i := 10) rfl)) (by decide) (by decide)) (g := (mkF m 12 #[.val (.long ja), .second, .val (.long jb), .second, .val (.long jc), .second, .val (.int jn), .val (.long (0 : Int64)), .second, .unset, .unset] [(.long ja), (.long (0 : Int64))])) rfl (by rw [hml]; rfl) (argsL := [(.long (0 : Int64)), (.long ja)]) (rest := []) (lenOf pd_0 rfl) rfl (by show 2 * 0 + _ ≤ _; exact Nat.le_of_eq rfl) (hb hby d3b_12) (fun _ _ => ⟨rfl, e0, (by decide : 0 + 0 ≤ _), (by decide : 0 + 0 ≤ _)⟩)
  dsimp only [Pt.U, Pt.locs, Pt.cells, Pt.slots] at X1 l1 y1 z1 st1 hQ1
  subst l1 y1 z1
  obtain ⟨rfl, N1q, e1q⟩ := hQ1
  have N1 := Fr.app N0 N1q
  obtain ⟨fs, hr, hrun, hended, hW, hsame⟩ := X1.leave (v := some (.int (((((((0 : Int64) ^^^ ja) * (-7046029254386353131 : Int64)) ^^^ (((((0 : Int64) ^^^ ja) * (-7046029254386353131 : Int64)).toUInt64 >>> ((32 : Int32) &&& 0x3f).toInt64.toUInt64).toInt64)) * (-2960836687051489901 : Int64)) ^^^ (((((((0 : Int64) ^^^ ja) * (-7046029254386353131 : Int64)) ^^^ (((((0 : Int64) ^^^ ja) * (-7046029254386353131 : Int64)).toUInt64 >>> ((32 : Int32) &&& 0x3f).toInt64.toUInt64).toInt64)) * (-2960836687051489901 : Int64)).toUInt64 >>> ((32 : Int32) &&& 0x3f).toInt64.toUInt64).toInt64)).toInt32))) (fun h => by rw [Bd.returns] at h; cases h)
  refine ⟨_, _, pre0 _ ?_, hrun, hended, _, _, rfl, ?_, ⟨_, rfl⟩, hW, hsame.mono (by decide) (by decide)⟩
  · show Steps p.tables e below (s₁.setTop (mkF m 0 #[.val (.long ja), .second, .val (.long jb), .second, .val (.long jc), .second, .val (.int jn), .unset, .unset, .unset, .unset] [])) _
    refine XS.lconst X0.here hx rfl (hb hby d3b_0) ?_
    show Steps p.tables e below (s₁.setTop (mkF m 1 #[.val (.long ja), .second, .val (.long jb), .second, .val (.long jc), .second, .val (.int jn), .unset, .unset, .unset, .unset] [(.long (0 : Int64))])) _
    refine XS.lstore X0.here hx rfl (hb hby d3b_1) rfl (l' := #[.val (.long ja), .second, .val (.long jb), .second, .val (.long jc), .second, .val (.int jn), .val (.long (0 : Int64)), .second, .unset, .unset]) rfl ?_
    show Steps p.tables e below (s₁.setTop (mkF m 3 #[.val (.long ja), .second, .val (.long jb), .second, .val (.long jc), .second, .val (.int jn), .val (.long (0 : Int64)), .second, .unset, .unset] [])) _
    refine XS.iload X0.here hx rfl (hb hby d3b_3) rfl ?_
    show Steps p.tables e below (s₁.setTop (mkF m 5 #[.val (.long ja), .second, .val (.long jb), .second, .val (.long jc), .second, .val (.int jn), .val (.long (0 : Int64)), .second, .unset, .unset] [(.int jn)])) _
    refine XS.iconst X0.here hx rfl (hb hby d3b_5) ?_
    show Steps p.tables e below (s₁.setTop (mkF m 6 #[.val (.long ja), .second, .val (.long jb), .second, .val (.long jc), .second, .val (.int jn), .val (.long (0 : Int64)), .second, .unset, .unset] [(.int (1 : Int32)), (.int jn)])) _
    refine XS.icmpNo X0.here hx rfl (hb hby d3b_6) rfl (flt hn1).1 ?_
    show Steps p.tables e below (s₁.setTop (mkF m 9 #[.val (.long ja), .second, .val (.long jb), .second, .val (.long jc), .second, .val (.int jn), .val (.long (0 : Int64)), .second, .unset, .unset] [])) _
    refine XS.lload X0.here hx rfl (hb hby d3b_9) rfl ?_
    show Steps p.tables e below (s₁.setTop (mkF m 11 #[.val (.long ja), .second, .val (.long jb), .second, .val (.long jc), .second, .val (.int jn), .val (.long (0 : Int64)), .second, .unset, .unset] [(.long (0 : Int64))])) _
    refine XS.lloadN X0.here hx rfl (hb hby d3b_11) rfl ?_
    show Steps p.tables e below (s₁.setTop (mkF m 12 #[.val (.long ja), .second, .val (.long jb), .second, .val (.long jc), .second, .val (.int jn), .val (.long (0 : Int64)), .second, .unset, .unset] [(.long ja), (.long (0 : Int64))])) _
    refine st1 _ ?_
    show Steps p.tables e below (T1.setTop (mkF m 15 #[.val (.long ja), .second, .val (.long jb), .second, .val (.long jc), .second, .val (.int jn), .val (.long (0 : Int64)), .second, .unset, .unset] [(.long (((0 : Int64) ^^^ ja) * (-7046029254386353131 : Int64)))])) _
    refine XS.lstore X1.here hx rfl (hb hby d3b_15) rfl (l' := #[.val (.long ja), .second, .val (.long jb), .second, .val (.long jc), .second, .val (.int jn), .val (.long (((0 : Int64) ^^^ ja) * (-7046029254386353131 : Int64))), .second, .unset, .unset]) rfl ?_
    show Steps p.tables e below (T1.setTop (mkF m 17 #[.val (.long ja), .second, .val (.long jb), .second, .val (.long jc), .second, .val (.int jn), .val (.long (((0 : Int64) ^^^ ja) * (-7046029254386353131 : Int64))), .second, .unset, .unset] [])) _
    refine XS.iload X1.here hx rfl (hb hby d3b_17) rfl ?_
    show Steps p.tables e below (T1.setTop (mkF m 19 #[.val (.long ja), .second, .val (.long jb), .second, .val (.long jc), .second, .val (.int jn), .val (.long (((0 : Int64) ^^^ ja) * (-7046029254386353131 : Int64))), .second, .unset, .unset] [(.int jn)])) _
    refine XS.iconst X1.here hx rfl (hb hby d3b_19) ?_
    show Steps p.tables e below (T1.setTop (mkF m 20 #[.val (.long ja), .second, .val (.long jb), .second, .val (.long jc), .second, .val (.int jn), .val (.long (((0 : Int64) ^^^ ja) * (-7046029254386353131 : Int64))), .second, .unset, .unset] [(.int (2 : Int32)), (.int jn)])) _
    refine XS.icmpYes X1.here hx rfl (pc0 := 20) (pc' := 31) rfl (hb hby d3b_20) rfl (tlt hn2).1 (by decide) (by decide) ?_
    show Steps p.tables e below (T1.setTop (mkF m 31 #[.val (.long ja), .second, .val (.long jb), .second, .val (.long jc), .second, .val (.int jn), .val (.long (((0 : Int64) ^^^ ja) * (-7046029254386353131 : Int64))), .second, .unset, .unset] [])) _
    refine XS.iload X1.here hx rfl (hb hby d3b_31) rfl ?_
    show Steps p.tables e below (T1.setTop (mkF m 33 #[.val (.long ja), .second, .val (.long jb), .second, .val (.long jc), .second, .val (.int jn), .val (.long (((0 : Int64) ^^^ ja) * (-7046029254386353131 : Int64))), .second, .unset, .unset] [(.int jn)])) _
    refine XS.iconst X1.here hx rfl (hb hby d3b_33) ?_
    show Steps p.tables e below (T1.setTop (mkF m 34 #[.val (.long ja), .second, .val (.long jb), .second, .val (.long jc), .second, .val (.int jn), .val (.long (((0 : Int64) ^^^ ja) * (-7046029254386353131 : Int64))), .second, .unset, .unset] [(.int (3 : Int32)), (.int jn)])) _
    refine XS.icmpYes X1.here hx rfl (pc0 := 34) (pc' := 46) rfl (hb hby d3b_34) rfl (tlt hn3).1 (by decide) (by decide) ?_
    show Steps p.tables e below (T1.setTop (mkF m 46 #[.val (.long ja), .second, .val (.long jb), .second, .val (.long jc), .second, .val (.int jn), .val (.long (((0 : Int64) ^^^ ja) * (-7046029254386353131 : Int64))), .second, .unset, .unset] [])) _
    refine XS.lload X1.here hx rfl (hb hby d3b_46) rfl ?_
    show Steps p.tables e below (T1.setTop (mkF m 48 #[.val (.long ja), .second, .val (.long jb), .second, .val (.long jc), .second, .val (.int jn), .val (.long (((0 : Int64) ^^^ ja) * (-7046029254386353131 : Int64))), .second, .unset, .unset] [(.long (((0 : Int64) ^^^ ja) * (-7046029254386353131 : Int64)))])) _
    refine XS.lload X1.here hx rfl (hb hby d3b_48) rfl ?_
    show Steps p.tables e below (T1.setTop (mkF m 50 #[.val (.long ja), .second, .val (.long jb), .second, .val (.long jc), .second, .val (.int jn), .val (.long (((0 : Int64) ^^^ ja) * (-7046029254386353131 : Int64))), .second, .unset, .unset] [(.long (((0 : Int64) ^^^ ja) * (-7046029254386353131 : Int64))), (.long (((0 : Int64) ^^^ ja) * (-7046029254386353131 : Int64)))])) _
    refine XS.bipush X1.here hx rfl (hb hby d3b_50) ?_
    show Steps p.tables e below (T1.setTop (mkF m 52 #[.val (.long ja), .second, .val (.long jb), .second, .val (.long jc), .second, .val (.int jn), .val (.long (((0 : Int64) ^^^ ja) * (-7046029254386353131 : Int64))), .second, .unset, .unset] [(.int (32 : Int32)), (.long (((0 : Int64) ^^^ ja) * (-7046029254386353131 : Int64))), (.long (((0 : Int64) ^^^ ja) * (-7046029254386353131 : Int64)))])) _
    refine XS.lushr X1.here hx rfl (hb hby d3b_52) rfl ?_
    show Steps p.tables e below (T1.setTop (mkF m 53 #[.val (.long ja), .second, .val (.long jb), .second, .val (.long jc), .second, .val (.int jn), .val (.long (((0 : Int64) ^^^ ja) * (-7046029254386353131 : Int64))), .second, .unset, .unset] [(.long (((((0 : Int64) ^^^ ja) * (-7046029254386353131 : Int64)).toUInt64 >>> ((32 : Int32) &&& 0x3f).toInt64.toUInt64).toInt64)), (.long (((0 : Int64) ^^^ ja) * (-7046029254386353131 : Int64)))])) _
    refine XS.lxor X1.here hx rfl (hb hby d3b_53) rfl ?_
    show Steps p.tables e below (T1.setTop (mkF m 54 #[.val (.long ja), .second, .val (.long jb), .second, .val (.long jc), .second, .val (.int jn), .val (.long (((0 : Int64) ^^^ ja) * (-7046029254386353131 : Int64))), .second, .unset, .unset] [(.long ((((0 : Int64) ^^^ ja) * (-7046029254386353131 : Int64)) ^^^ (((((0 : Int64) ^^^ ja) * (-7046029254386353131 : Int64)).toUInt64 >>> ((32 : Int32) &&& 0x3f).toInt64.toUInt64).toInt64)))])) _
    refine X1.ldc2Long hx hown (mvT hZ (hw _ (List.mem_of_getElem? (i := 16) rfl))) (g := (mkF m 54 #[.val (.long ja), .second, .val (.long jb), .second, .val (.long jc), .second, .val (.int jn), .val (.long (((0 : Int64) ^^^ ja) * (-7046029254386353131 : Int64))), .second, .unset, .unset] [(.long ((((0 : Int64) ^^^ ja) * (-7046029254386353131 : Int64)) ^^^ (((((0 : Int64) ^^^ ja) * (-7046029254386353131 : Int64)).toUInt64 >>> ((32 : Int32) &&& 0x3f).toInt64.toUInt64).toInt64)))])) rfl (hb hby d3b_54) _ ?_
    show Steps p.tables e below (T1.setTop (mkF m 57 #[.val (.long ja), .second, .val (.long jb), .second, .val (.long jc), .second, .val (.int jn), .val (.long (((0 : Int64) ^^^ ja) * (-7046029254386353131 : Int64))), .second, .unset, .unset] [(.long (-2960836687051489901 : Int64)), (.long ((((0 : Int64) ^^^ ja) * (-7046029254386353131 : Int64)) ^^^ (((((0 : Int64) ^^^ ja) * (-7046029254386353131 : Int64)).toUInt64 >>> ((32 : Int32) &&& 0x3f).toInt64.toUInt64).toInt64)))])) _
    refine XS.lmul X1.here hx rfl (hb hby d3b_57) rfl ?_
    show Steps p.tables e below (T1.setTop (mkF m 58 #[.val (.long ja), .second, .val (.long jb), .second, .val (.long jc), .second, .val (.int jn), .val (.long (((0 : Int64) ^^^ ja) * (-7046029254386353131 : Int64))), .second, .unset, .unset] [(.long (((((0 : Int64) ^^^ ja) * (-7046029254386353131 : Int64)) ^^^ (((((0 : Int64) ^^^ ja) * (-7046029254386353131 : Int64)).toUInt64 >>> ((32 : Int32) &&& 0x3f).toInt64.toUInt64).toInt64)) * (-2960836687051489901 : Int64)))])) _
    refine XS.lstore X1.here hx rfl (hb hby d3b_58) rfl (l' := #[.val (.long ja), .second, .val (.long jb), .second, .val (.long jc), .second, .val (.int jn), .val (.long (((0 : Int64) ^^^ ja) * (-7046029254386353131 : Int64))), .second, .val (.long (((((0 : Int64) ^^^ ja) * (-7046029254386353131 : Int64)) ^^^ (((((0 : Int64) ^^^ ja) * (-7046029254386353131 : Int64)).toUInt64 >>> ((32 : Int32) &&& 0x3f).toInt64.toUInt64).toInt64)) * (-2960836687051489901 : Int64))), .second]) rfl ?_
    show Steps p.tables e below (T1.setTop (mkF m 60 #[.val (.long ja), .second, .val (.long jb), .second, .val (.long jc), .second, .val (.int jn), .val (.long (((0 : Int64) ^^^ ja) * (-7046029254386353131 : Int64))), .second, .val (.long (((((0 : Int64) ^^^ ja) * (-7046029254386353131 : Int64)) ^^^ (((((0 : Int64) ^^^ ja) * (-7046029254386353131 : Int64)).toUInt64 >>> ((32 : Int32) &&& 0x3f).toInt64.toUInt64).toInt64)) * (-2960836687051489901 : Int64))), .second] [])) _
    refine XS.lload X1.here hx rfl (hb hby d3b_60) rfl ?_
    show Steps p.tables e below (T1.setTop (mkF m 62 #[.val (.long ja), .second, .val (.long jb), .second, .val (.long jc), .second, .val (.int jn), .val (.long (((0 : Int64) ^^^ ja) * (-7046029254386353131 : Int64))), .second, .val (.long (((((0 : Int64) ^^^ ja) * (-7046029254386353131 : Int64)) ^^^ (((((0 : Int64) ^^^ ja) * (-7046029254386353131 : Int64)).toUInt64 >>> ((32 : Int32) &&& 0x3f).toInt64.toUInt64).toInt64)) * (-2960836687051489901 : Int64))), .second] [(.long (((((0 : Int64) ^^^ ja) * (-7046029254386353131 : Int64)) ^^^ (((((0 : Int64) ^^^ ja) * (-7046029254386353131 : Int64)).toUInt64 >>> ((32 : Int32) &&& 0x3f).toInt64.toUInt64).toInt64)) * (-2960836687051489901 : Int64)))])) _
    refine XS.lload X1.here hx rfl (hb hby d3b_62) rfl ?_
    show Steps p.tables e below (T1.setTop (mkF m 64 #[.val (.long ja), .second, .val (.long jb), .second, .val (.long jc), .second, .val (.int jn), .val (.long (((0 : Int64) ^^^ ja) * (-7046029254386353131 : Int64))), .second, .val (.long (((((0 : Int64) ^^^ ja) * (-7046029254386353131 : Int64)) ^^^ (((((0 : Int64) ^^^ ja) * (-7046029254386353131 : Int64)).toUInt64 >>> ((32 : Int32) &&& 0x3f).toInt64.toUInt64).toInt64)) * (-2960836687051489901 : Int64))), .second] [(.long (((((0 : Int64) ^^^ ja) * (-7046029254386353131 : Int64)) ^^^ (((((0 : Int64) ^^^ ja) * (-7046029254386353131 : Int64)).toUInt64 >>> ((32 : Int32) &&& 0x3f).toInt64.toUInt64).toInt64)) * (-2960836687051489901 : Int64))), (.long (((((0 : Int64) ^^^ ja) * (-7046029254386353131 : Int64)) ^^^ (((((0 : Int64) ^^^ ja) * (-7046029254386353131 : Int64)).toUInt64 >>> ((32 : Int32) &&& 0x3f).toInt64.toUInt64).toInt64)) * (-2960836687051489901 : Int64)))])) _
    refine XS.bipush X1.here hx rfl (hb hby d3b_64) ?_
    show Steps p.tables e below (T1.setTop (mkF m 66 #[.val (.long ja), .second, .val (.long jb), .second, .val (.long jc), .second, .val (.int jn), .val (.long (((0 : Int64) ^^^ ja) * (-7046029254386353131 : Int64))), .second, .val (.long (((((0 : Int64) ^^^ ja) * (-7046029254386353131 : Int64)) ^^^ (((((0 : Int64) ^^^ ja) * (-7046029254386353131 : Int64)).toUInt64 >>> ((32 : Int32) &&& 0x3f).toInt64.toUInt64).toInt64)) * (-2960836687051489901 : Int64))), .second] [(.int (32 : Int32)), (.long (((((0 : Int64) ^^^ ja) * (-7046029254386353131 : Int64)) ^^^ (((((0 : Int64) ^^^ ja) * (-7046029254386353131 : Int64)).toUInt64 >>> ((32 : Int32) &&& 0x3f).toInt64.toUInt64).toInt64)) * (-2960836687051489901 : Int64))), (.long (((((0 : Int64) ^^^ ja) * (-7046029254386353131 : Int64)) ^^^ (((((0 : Int64) ^^^ ja) * (-7046029254386353131 : Int64)).toUInt64 >>> ((32 : Int32) &&& 0x3f).toInt64.toUInt64).toInt64)) * (-2960836687051489901 : Int64)))])) _
    refine XS.lushr X1.here hx rfl (hb hby d3b_66) rfl ?_
    show Steps p.tables e below (T1.setTop (mkF m 67 #[.val (.long ja), .second, .val (.long jb), .second, .val (.long jc), .second, .val (.int jn), .val (.long (((0 : Int64) ^^^ ja) * (-7046029254386353131 : Int64))), .second, .val (.long (((((0 : Int64) ^^^ ja) * (-7046029254386353131 : Int64)) ^^^ (((((0 : Int64) ^^^ ja) * (-7046029254386353131 : Int64)).toUInt64 >>> ((32 : Int32) &&& 0x3f).toInt64.toUInt64).toInt64)) * (-2960836687051489901 : Int64))), .second] [(.long (((((((0 : Int64) ^^^ ja) * (-7046029254386353131 : Int64)) ^^^ (((((0 : Int64) ^^^ ja) * (-7046029254386353131 : Int64)).toUInt64 >>> ((32 : Int32) &&& 0x3f).toInt64.toUInt64).toInt64)) * (-2960836687051489901 : Int64)).toUInt64 >>> ((32 : Int32) &&& 0x3f).toInt64.toUInt64).toInt64)), (.long (((((0 : Int64) ^^^ ja) * (-7046029254386353131 : Int64)) ^^^ (((((0 : Int64) ^^^ ja) * (-7046029254386353131 : Int64)).toUInt64 >>> ((32 : Int32) &&& 0x3f).toInt64.toUInt64).toInt64)) * (-2960836687051489901 : Int64)))])) _
    refine XS.lxor X1.here hx rfl (hb hby d3b_67) rfl ?_
    show Steps p.tables e below (T1.setTop (mkF m 68 #[.val (.long ja), .second, .val (.long jb), .second, .val (.long jc), .second, .val (.int jn), .val (.long (((0 : Int64) ^^^ ja) * (-7046029254386353131 : Int64))), .second, .val (.long (((((0 : Int64) ^^^ ja) * (-7046029254386353131 : Int64)) ^^^ (((((0 : Int64) ^^^ ja) * (-7046029254386353131 : Int64)).toUInt64 >>> ((32 : Int32) &&& 0x3f).toInt64.toUInt64).toInt64)) * (-2960836687051489901 : Int64))), .second] [(.long ((((((0 : Int64) ^^^ ja) * (-7046029254386353131 : Int64)) ^^^ (((((0 : Int64) ^^^ ja) * (-7046029254386353131 : Int64)).toUInt64 >>> ((32 : Int32) &&& 0x3f).toInt64.toUInt64).toInt64)) * (-2960836687051489901 : Int64)) ^^^ (((((((0 : Int64) ^^^ ja) * (-7046029254386353131 : Int64)) ^^^ (((((0 : Int64) ^^^ ja) * (-7046029254386353131 : Int64)).toUInt64 >>> ((32 : Int32) &&& 0x3f).toInt64.toUInt64).toInt64)) * (-2960836687051489901 : Int64)).toUInt64 >>> ((32 : Int32) &&& 0x3f).toInt64.toUInt64).toInt64)))])) _
    refine XS.l2i X1.here hx rfl (hb hby d3b_68) rfl ?_
    show Steps p.tables e below (T1.setTop (mkF m 69 #[.val (.long ja), .second, .val (.long jb), .second, .val (.long jc), .second, .val (.int jn), .val (.long (((0 : Int64) ^^^ ja) * (-7046029254386353131 : Int64))), .second, .val (.long (((((0 : Int64) ^^^ ja) * (-7046029254386353131 : Int64)) ^^^ (((((0 : Int64) ^^^ ja) * (-7046029254386353131 : Int64)).toUInt64 >>> ((32 : Int32) &&& 0x3f).toInt64.toUInt64).toInt64)) * (-2960836687051489901 : Int64))), .second] [(.int (((((((0 : Int64) ^^^ ja) * (-7046029254386353131 : Int64)) ^^^ (((((0 : Int64) ^^^ ja) * (-7046029254386353131 : Int64)).toUInt64 >>> ((32 : Int32) &&& 0x3f).toInt64.toUInt64).toInt64)) * (-2960836687051489901 : Int64)) ^^^ (((((((0 : Int64) ^^^ ja) * (-7046029254386353131 : Int64)) ^^^ (((((0 : Int64) ^^^ ja) * (-7046029254386353131 : Int64)).toUInt64 >>> ((32 : Int32) &&& 0x3f).toInt64.toUInt64).toInt64)) * (-2960836687051489901 : Int64)).toUInt64 >>> ((32 : Int32) &&& 0x3f).toInt64.toUInt64).toInt64)).toInt32))])) _
    exact retI X1 hx Bd.returns (hb hby d3b_69) hr
  · show Q3b Z ja jb jc jn h0 n0 _ T1.heap _
    rw [e1q]
    exact ⟨rfl, N1, rfl⟩
theorem d1c_0 : decode prog_101_method_19_code 0 = .ok (.lconst 0, 1) := by decide +kernel
theorem d1c_1 : decode prog_101_method_19_code 1 = .ok (.lstore_n 3, 1) := by decide +kernel
theorem d1c_2 : decode prog_101_method_19_code 2 = .ok (.iload_n 1, 1) := by decide +kernel
theorem d1c_3 : decode prog_101_method_19_code 3 = .ok (.istore 5, 2) := by decide +kernel
theorem d1c_5 : decode prog_101_method_19_code 5 = .ok (.iload 5, 2) := by decide +kernel
theorem d1c_7 : decode prog_101_method_19_code 7 = .ok (.iload_n 2, 1) := by decide +kernel
theorem d1c_8 : decode prog_101_method_19_code 8 = .ok (.if_icmp .ge 20, 3) := by decide +kernel
theorem d1c_11 : decode prog_101_method_19_code 11 = .ok (.lload_n 3, 1) := by decide +kernel
theorem d1c_12 : decode prog_101_method_19_code 12 = .ok (.aload_n 0, 1) := by decide +kernel
theorem d1c_13 : decode prog_101_method_19_code 13 = .ok (.iload 5, 2) := by decide +kernel
theorem d1c_15 : decode prog_101_method_19_code 15 = .ok (.laload, 1) := by decide +kernel
theorem d1c_16 : decode prog_101_method_19_code 16 = .ok (.lxor, 1) := by decide +kernel
theorem d1c_17 : decode prog_101_method_19_code 17 = .ok (.ldc2_w 116, 3) := by decide +kernel
theorem d1c_20 : decode prog_101_method_19_code 20 = .ok (.lmul, 1) := by decide +kernel
theorem d1c_21 : decode prog_101_method_19_code 21 = .ok (.lstore_n 3, 1) := by decide +kernel
theorem d1c_22 : decode prog_101_method_19_code 22 = .ok (.iinc 5 1, 3) := by decide +kernel
theorem d1c_25 : decode prog_101_method_19_code 25 = .ok (.goto (-20), 3) := by decide +kernel
theorem d1c_28 : decode prog_101_method_19_code 28 = .ok (.lload_n 3, 1) := by decide +kernel
theorem d1c_29 : decode prog_101_method_19_code 29 = .ok (.lload_n 3, 1) := by decide +kernel
theorem d1c_30 : decode prog_101_method_19_code 30 = .ok (.bipush 32, 2) := by decide +kernel
theorem d1c_32 : decode prog_101_method_19_code 32 = .ok (.lushr, 1) := by decide +kernel
theorem d1c_33 : decode prog_101_method_19_code 33 = .ok (.lxor, 1) := by decide +kernel
theorem d1c_34 : decode prog_101_method_19_code 34 = .ok (.ldc2_w 118, 3) := by decide +kernel
theorem d1c_37 : decode prog_101_method_19_code 37 = .ok (.lmul, 1) := by decide +kernel
theorem d1c_38 : decode prog_101_method_19_code 38 = .ok (.lstore_n 3, 1) := by decide +kernel
theorem d1c_39 : decode prog_101_method_19_code 39 = .ok (.lload_n 3, 1) := by decide +kernel
theorem d1c_40 : decode prog_101_method_19_code 40 = .ok (.lload_n 3, 1) := by decide +kernel
theorem d1c_41 : decode prog_101_method_19_code 41 = .ok (.bipush 32, 2) := by decide +kernel
theorem d1c_43 : decode prog_101_method_19_code 43 = .ok (.lushr, 1) := by decide +kernel
theorem d1c_44 : decode prog_101_method_19_code 44 = .ok (.lxor, 1) := by decide +kernel
theorem d1c_45 : decode prog_101_method_19_code 45 = .ok (.l2i, 1) := by decide +kernel
theorem d1c_46 : decode prog_101_method_19_code 46 = .ok (.ireturn, 1) := by decide +kernel
theorem ef_1c (m : MethodId) (x0 : Addr) (x1 : Int32) (x2 : Int32) : entryFrame m #[(.ref x0), (.int x1), (.int x2)] 6 = mkF m 0 #[.val (.ref x0), .val (.int x1), .val (.int x2), .unset, .unset, .unset] [] := by first | (simp [entryFrame, mkF, argsToLocals, Value.category]; done) | rfl
def Q1c (Z : State) (o0 : Addr) (i1 : Int32) (i2 : Int32) (cl : Cell) (w0 : Int64) (w1 : Int64) (h0 : Heap) (n0 : Nat) (v : Option Value) (h : Heap) (L : List Loc) : Prop := v = some (.int (((((((((0 : Int64) ^^^ w0) * (-7046029254386353131 : Int64)) ^^^ w1) * (-7046029254386353131 : Int64)) ^^^ (((((((0 : Int64) ^^^ w0) * (-7046029254386353131 : Int64)) ^^^ w1) * (-7046029254386353131 : Int64)).toUInt64 >>> ((32 : Int32) &&& 0x3f).toInt64.toUInt64).toInt64)) * (-2960836687051489901 : Int64)) ^^^ (((((((((0 : Int64) ^^^ w0) * (-7046029254386353131 : Int64)) ^^^ w1) * (-7046029254386353131 : Int64)) ^^^ (((((((0 : Int64) ^^^ w0) * (-7046029254386353131 : Int64)) ^^^ w1) * (-7046029254386353131 : Int64)).toUInt64 >>> ((32 : Int32) &&& 0x3f).toInt64.toUInt64).toInt64)) * (-2960836687051489901 : Int64)).toUInt64 >>> ((32 : Int32) &&& 0x3f).toInt64.toUInt64).toInt64)).toInt32)) ∧ Fr n0 L ∧ h = h0
set_option maxRecDepth 65536 in
set_option maxHeartbeats 40000000 in
theorem rm1c (l : Launch) (Z : State) (a0 : Array Value) (hw : ∀ d ∈ tables_1, d.before a0 Z = true) (ws : List Jvm.Cond) (o0 : Addr) (i1 : Int32) (i2 : Int32) (cl : Cell) (w0 : Int64) (w1 : Int64) (h0 : Heap) (n0 : Nat) (Ar : Arr Z h0 o0 cl .long) (hc0 : i1 < i2) (hc1 : (i1 + (1 : Int32)) < i2) (hz : ¬ ((i1 + (1 : Int32)) + (1 : Int32)) < i2) (hin0 : ¬ (i1 < 0 ∨ cl.slots.size ≤ (i1).toNatClampNeg)) (hin1 : ¬ ((i1 + (1 : Int32)) < 0 ∨ cl.slots.size ≤ ((i1 + (1 : Int32))).toNatClampNeg)) (hat0 : cl.slots[(i1).toNatClampNeg]? = some (.long w0)) (hat1 : cl.slots[((i1 + (1 : Int32))).toNatClampNeg]? = some (.long w1)) :
    MetFree l (⟨"com/example/assured_timing/assuredtiming/simulation/Configuration", "hash", "([JII)I"⟩ : MethodName) (head1 (Jvm.Cond.code (⟨"com/example/assured_timing/assuredtiming/simulation/Configuration", "hash", "([JII)I"⟩ : MethodName) prog_101_method_19_code 6 (some .int) :: ws) ({ frames := 0, cells := 0, slots := 0, locals := 0 } : Room)) (fun a U => a = #[(.ref o0), (.int i1), (.int i2)] ∧ Z.Warmed39 U.vm ∧ U.heap = h0) (fun _ _ _ _ _ => True) (fun _ U o U' => ∃ v L, o = .returned v ∧ Q1c Z o0 i1 i2 cl w0 w1 h0 n0 v U'.heap L ∧ FrameEnd U o U' L ({ frames := 0, cells := 0, slots := 0, locals := 0 } : Room).cells ({ frames := 0, cells := 0, slots := 0, locals := 0 } : Room).slots) := by
  refine MetFree.of_bodySF (plainFor_of_name pn_1) hisR ?_
  intro p e s m args below meth c s₁ Bd hml0 hP hK
  obtain ⟨rfl, hZ, hh⟩ := hP
  have hx := Bd.exec
  have hby := Bd.bytes
  have hml : c.maxLocals = 6 := hml0
  have hown : s.vm.findClass "com/example/assured_timing/assuredtiming/simulation/Configuration" = some m.cls := findClass_of_methodNamed Bd.named
  have hnm := (name_of_methodNamed Bd.named Bd.method).1
  have X0 : Stand p l e ({ frames := 0, cells := 0, slots := 0, locals := 0 } : Room) s m #[(.ref o0), (.int i1), (.int i2)] below meth c s₁ [] 0 0 := Stand.of_body Bd
  have e0 : s₁.heap = h0 := by rw [← hh, Bd.state]; rfl
  have N0 := Fr.nil n0
  have pre0 : ∀ t, Steps p.tables e below (s₁.setTop (mkF m 0 #[.val (.ref o0), .val (.int i1), .val (.int i2), .unset, .unset, .unset] [])) t → Steps p.tables e below (s₁.setTop (entryFrame m #[(.ref o0), (.int i1), (.int i2)] 6)) t := fun t k => castTop (ef_1c m o0 i1 i2) k
  obtain ⟨fs, hr, hrun, hended, hW, hsame⟩ := X0.leave (v := some (.int (((((((((0 : Int64) ^^^ w0) * (-7046029254386353131 : Int64)) ^^^ w1) * (-7046029254386353131 : Int64)) ^^^ (((((((0 : Int64) ^^^ w0) * (-7046029254386353131 : Int64)) ^^^ w1) * (-7046029254386353131 : Int64)).toUInt64 >>> ((32 : Int32) &&& 0x3f).toInt64.toUInt64).toInt64)) * (-2960836687051489901 : Int64)) ^^^ (((((((((0 : Int64) ^^^ w0) * (-7046029254386353131 : Int64)) ^^^ w1) * (-7046029254386353131 : Int64)) ^^^ (((((((0 : Int64) ^^^ w0) * (-7046029254386353131 : Int64)) ^^^ w1) * (-7046029254386353131 : Int64)).toUInt64 >>> ((32 : Int32) &&& 0x3f).toInt64.toUInt64).toInt64)) * (-2960836687051489901 : Int64)).toUInt64 >>> ((32 : Int32) &&& 0x3f).toInt64.toUInt64).toInt64)).toInt32))) (fun h => by rw [Bd.returns] at h; cases h)
  refine ⟨_, _, pre0 _ ?_, hrun, hended, _, _, rfl, ?_, ⟨_, rfl⟩, hW, hsame.mono (by decide) (by decide)⟩
  · show Steps p.tables e below (s₁.setTop (mkF m 0 #[.val (.ref o0), .val (.int i1), .val (.int i2), .unset, .unset, .unset] [])) _
    refine XS.lconst X0.here hx rfl (hb hby d1c_0) ?_
    show Steps p.tables e below (s₁.setTop (mkF m 1 #[.val (.ref o0), .val (.int i1), .val (.int i2), .unset, .unset, .unset] [(.long (0 : Int64))])) _
    refine XS.lstoreN X0.here hx rfl (hb hby d1c_1) rfl (l' := #[.val (.ref o0), .val (.int i1), .val (.int i2), .val (.long (0 : Int64)), .second, .unset]) rfl ?_
    show Steps p.tables e below (s₁.setTop (mkF m 2 #[.val (.ref o0), .val (.int i1), .val (.int i2), .val (.long (0 : Int64)), .second, .unset] [])) _
    refine XS.iloadN X0.here hx rfl (hb hby d1c_2) rfl ?_
    show Steps p.tables e below (s₁.setTop (mkF m 3 #[.val (.ref o0), .val (.int i1), .val (.int i2), .val (.long (0 : Int64)), .second, .unset] [(.int i1)])) _
    refine XS.istore X0.here hx rfl (hb hby d1c_3) rfl (l' := #[.val (.ref o0), .val (.int i1), .val (.int i2), .val (.long (0 : Int64)), .second, .val (.int i1)]) rfl ?_
    show Steps p.tables e below (s₁.setTop (mkF m 5 #[.val (.ref o0), .val (.int i1), .val (.int i2), .val (.long (0 : Int64)), .second, .val (.int i1)] [])) _
    refine XS.iload X0.here hx rfl (hb hby d1c_5) rfl ?_
    show Steps p.tables e below (s₁.setTop (mkF m 7 #[.val (.ref o0), .val (.int i1), .val (.int i2), .val (.long (0 : Int64)), .second, .val (.int i1)] [(.int i1)])) _
    refine XS.iloadN X0.here hx rfl (hb hby d1c_7) rfl ?_
    show Steps p.tables e below (s₁.setTop (mkF m 8 #[.val (.ref o0), .val (.int i1), .val (.int i2), .val (.long (0 : Int64)), .second, .val (.int i1)] [(.int i2), (.int i1)])) _
    refine XS.icmpNo X0.here hx rfl (hb hby d1c_8) rfl (tlt hc0).2.1 ?_
    show Steps p.tables e below (s₁.setTop (mkF m 11 #[.val (.ref o0), .val (.int i1), .val (.int i2), .val (.long (0 : Int64)), .second, .val (.int i1)] [])) _
    refine XS.lloadN X0.here hx rfl (hb hby d1c_11) rfl ?_
    show Steps p.tables e below (s₁.setTop (mkF m 12 #[.val (.ref o0), .val (.int i1), .val (.int i2), .val (.long (0 : Int64)), .second, .val (.int i1)] [(.long (0 : Int64))])) _
    refine XS.aloadN X0.here hx rfl (hb hby d1c_12) rfl rfl ?_
    show Steps p.tables e below (s₁.setTop (mkF m 13 #[.val (.ref o0), .val (.int i1), .val (.int i2), .val (.long (0 : Int64)), .second, .val (.int i1)] [(.ref o0), (.long (0 : Int64))])) _
    refine XS.iload X0.here hx rfl (hb hby d1c_13) rfl ?_
    show Steps p.tables e below (s₁.setTop (mkF m 15 #[.val (.ref o0), .val (.int i1), .val (.int i2), .val (.long (0 : Int64)), .second, .val (.int i1)] [(.int i1), (.ref o0), (.long (0 : Int64))])) _
    refine X0.laload hx (j := i1) (v := (.long w0)) (by rw [e0]; exact Ar.1) (State.isArrayOf_alike hZ.alike Ar.2.1) Ar.2.2 hin0 hat0 (g := (mkF m 15 #[.val (.ref o0), .val (.int i1), .val (.int i2), .val (.long (0 : Int64)), .second, .val (.int i1)] [(.int i1), (.ref o0), (.long (0 : Int64))])) rfl rfl (hb hby d1c_15) _ ?_
    show Steps p.tables e below (s₁.setTop (mkF m 16 #[.val (.ref o0), .val (.int i1), .val (.int i2), .val (.long (0 : Int64)), .second, .val (.int i1)] [(.long w0), (.long (0 : Int64))])) _
    refine XS.lxor X0.here hx rfl (hb hby d1c_16) rfl ?_
    show Steps p.tables e below (s₁.setTop (mkF m 17 #[.val (.ref o0), .val (.int i1), .val (.int i2), .val (.long (0 : Int64)), .second, .val (.int i1)] [(.long ((0 : Int64) ^^^ w0))])) _
    refine X0.ldc2Long hx hown (mvT hZ (hw _ (List.mem_of_getElem? (i := 6) rfl))) (g := (mkF m 17 #[.val (.ref o0), .val (.int i1), .val (.int i2), .val (.long (0 : Int64)), .second, .val (.int i1)] [(.long ((0 : Int64) ^^^ w0))])) rfl (hb hby d1c_17) _ ?_
    show Steps p.tables e below (s₁.setTop (mkF m 20 #[.val (.ref o0), .val (.int i1), .val (.int i2), .val (.long (0 : Int64)), .second, .val (.int i1)] [(.long (-7046029254386353131 : Int64)), (.long ((0 : Int64) ^^^ w0))])) _
    refine XS.lmul X0.here hx rfl (hb hby d1c_20) rfl ?_
    show Steps p.tables e below (s₁.setTop (mkF m 21 #[.val (.ref o0), .val (.int i1), .val (.int i2), .val (.long (0 : Int64)), .second, .val (.int i1)] [(.long (((0 : Int64) ^^^ w0) * (-7046029254386353131 : Int64)))])) _
    refine XS.lstoreN X0.here hx rfl (hb hby d1c_21) rfl (l' := #[.val (.ref o0), .val (.int i1), .val (.int i2), .val (.long (((0 : Int64) ^^^ w0) * (-7046029254386353131 : Int64))), .second, .val (.int i1)]) rfl ?_
    show Steps p.tables e below (s₁.setTop (mkF m 22 #[.val (.ref o0), .val (.int i1), .val (.int i2), .val (.long (((0 : Int64) ^^^ w0) * (-7046029254386353131 : Int64))), .second, .val (.int i1)] [])) _
    refine XS.iinc X0.here hx rfl (hb hby d1c_22) rfl (l' := #[.val (.ref o0), .val (.int i1), .val (.int i2), .val (.long (((0 : Int64) ^^^ w0) * (-7046029254386353131 : Int64))), .second, .val (.int (i1 + (1 : Int32)))]) rfl ?_
    show Steps p.tables e below (s₁.setTop (mkF m 25 #[.val (.ref o0), .val (.int i1), .val (.int i2), .val (.long (((0 : Int64) ^^^ w0) * (-7046029254386353131 : Int64))), .second, .val (.int (i1 + (1 : Int32)))] [])) _
    refine XS.goto X0.here hx rfl (pc0 := 25) (pc' := 5) rfl (hb hby d1c_25) (by decide) (by decide) ?_
    show Steps p.tables e below (s₁.setTop (mkF m 5 #[.val (.ref o0), .val (.int i1), .val (.int i2), .val (.long (((0 : Int64) ^^^ w0) * (-7046029254386353131 : Int64))), .second, .val (.int (i1 + (1 : Int32)))] [])) _
    refine XS.iload X0.here hx rfl (hb hby d1c_5) rfl ?_
    show Steps p.tables e below (s₁.setTop (mkF m 7 #[.val (.ref o0), .val (.int i1), .val (.int i2), .val (.long (((0 : Int64) ^^^ w0) * (-7046029254386353131 : Int64))), .second, .val (.int (i1 + (1 : Int32)))] [(.int (i1 + (1 : Int32)))])) _
    refine XS.iloadN X0.here hx rfl (hb hby d1c_7) rfl ?_
    show Steps p.tables e below (s₁.setTop (mkF m 8 #[.val (.ref o0), .val (.int i1), .val (.int i2), .val (.long (((0 : Int64) ^^^ w0) * (-7046029254386353131 : Int64))), .second, .val (.int (i1 + (1 : Int32)))] [(.int i2), (.int (i1 + (1 : Int32)))])) _
    refine XS.icmpNo X0.here hx rfl (hb hby d1c_8) rfl (tlt hc1).2.1 ?_
    show Steps p.tables e below (s₁.setTop (mkF m 11 #[.val (.ref o0), .val (.int i1), .val (.int i2), .val (.long (((0 : Int64) ^^^ w0) * (-7046029254386353131 : Int64))), .second, .val (.int (i1 + (1 : Int32)))] [])) _
    refine XS.lloadN X0.here hx rfl (hb hby d1c_11) rfl ?_
    show Steps p.tables e below (s₁.setTop (mkF m 12 #[.val (.ref o0), .val (.int i1), .val (.int i2), .val (.long (((0 : Int64) ^^^ w0) * (-7046029254386353131 : Int64))), .second, .val (.int (i1 + (1 : Int32)))] [(.long (((0 : Int64) ^^^ w0) * (-7046029254386353131 : Int64)))])) _
    refine XS.aloadN X0.here hx rfl (hb hby d1c_12) rfl rfl ?_
    show Steps p.tables e below (s₁.setTop (mkF m 13 #[.val (.ref o0), .val (.int i1), .val (.int i2), .val (.long (((0 : Int64) ^^^ w0) * (-7046029254386353131 : Int64))), .second, .val (.int (i1 + (1 : Int32)))] [(.ref o0), (.long (((0 : Int64) ^^^ w0) * (-7046029254386353131 : Int64)))])) _
    refine XS.iload X0.here hx rfl (hb hby d1c_13) rfl ?_
    show Steps p.tables e below (s₁.setTop (mkF m 15 #[.val (.ref o0), .val (.int i1), .val (.int i2), .val (.long (((0 : Int64) ^^^ w0) * (-7046029254386353131 : Int64))), .second, .val (.int (i1 + (1 : Int32)))] [(.int (i1 + (1 : Int32))), (.ref o0), (.long (((0 : Int64) ^^^ w0) * (-7046029254386353131 : Int64)))])) _
    refine X0.laload hx (j := (i1 + (1 : Int32))) (v := (.long w1)) (by rw [e0]; exact Ar.1) (State.isArrayOf_alike hZ.alike Ar.2.1) Ar.2.2 hin1 hat1 (g := (mkF m 15 #[.val (.ref o0), .val (.int i1), .val (.int i2), .val (.long (((0 : Int64) ^^^ w0) * (-7046029254386353131 : Int64))), .second, .val (.int (i1 + (1 : Int32)))] [(.int (i1 + (1 : Int32))), (.ref o0), (.long (((0 : Int64) ^^^ w0) * (-7046029254386353131 : Int64)))])) rfl rfl (hb hby d1c_15) _ ?_
    show Steps p.tables e below (s₁.setTop (mkF m 16 #[.val (.ref o0), .val (.int i1), .val (.int i2), .val (.long (((0 : Int64) ^^^ w0) * (-7046029254386353131 : Int64))), .second, .val (.int (i1 + (1 : Int32)))] [(.long w1), (.long (((0 : Int64) ^^^ w0) * (-7046029254386353131 : Int64)))])) _
    refine XS.lxor X0.here hx rfl (hb hby d1c_16) rfl ?_
    show Steps p.tables e below (s₁.setTop (mkF m 17 #[.val (.ref o0), .val (.int i1), .val (.int i2), .val (.long (((0 : Int64) ^^^ w0) * (-7046029254386353131 : Int64))), .second, .val (.int (i1 + (1 : Int32)))] [(.long ((((0 : Int64) ^^^ w0) * (-7046029254386353131 : Int64)) ^^^ w1))])) _
    refine X0.ldc2Long hx hown (mvT hZ (hw _ (List.mem_of_getElem? (i := 6) rfl))) (g := (mkF m 17 #[.val (.ref o0), .val (.int i1), .val (.int i2), .val (.long (((0 : Int64) ^^^ w0) * (-7046029254386353131 : Int64))), .second, .val (.int (i1 + (1 : Int32)))] [(.long ((((0 : Int64) ^^^ w0) * (-7046029254386353131 : Int64)) ^^^ w1))])) rfl (hb hby d1c_17) _ ?_
    show Steps p.tables e below (s₁.setTop (mkF m 20 #[.val (.ref o0), .val (.int i1), .val (.int i2), .val (.long (((0 : Int64) ^^^ w0) * (-7046029254386353131 : Int64))), .second, .val (.int (i1 + (1 : Int32)))] [(.long (-7046029254386353131 : Int64)), (.long ((((0 : Int64) ^^^ w0) * (-7046029254386353131 : Int64)) ^^^ w1))])) _
    refine XS.lmul X0.here hx rfl (hb hby d1c_20) rfl ?_
    show Steps p.tables e below (s₁.setTop (mkF m 21 #[.val (.ref o0), .val (.int i1), .val (.int i2), .val (.long (((0 : Int64) ^^^ w0) * (-7046029254386353131 : Int64))), .second, .val (.int (i1 + (1 : Int32)))] [(.long (((((0 : Int64) ^^^ w0) * (-7046029254386353131 : Int64)) ^^^ w1) * (-7046029254386353131 : Int64)))])) _
    refine XS.lstoreN X0.here hx rfl (hb hby d1c_21) rfl (l' := #[.val (.ref o0), .val (.int i1), .val (.int i2), .val (.long (((((0 : Int64) ^^^ w0) * (-7046029254386353131 : Int64)) ^^^ w1) * (-7046029254386353131 : Int64))), .second, .val (.int (i1 + (1 : Int32)))]) rfl ?_
    show Steps p.tables e below (s₁.setTop (mkF m 22 #[.val (.ref o0), .val (.int i1), .val (.int i2), .val (.long (((((0 : Int64) ^^^ w0) * (-7046029254386353131 : Int64)) ^^^ w1) * (-7046029254386353131 : Int64))), .second, .val (.int (i1 + (1 : Int32)))] [])) _
    refine XS.iinc X0.here hx rfl (hb hby d1c_22) rfl (l' := #[.val (.ref o0), .val (.int i1), .val (.int i2), .val (.long (((((0 : Int64) ^^^ w0) * (-7046029254386353131 : Int64)) ^^^ w1) * (-7046029254386353131 : Int64))), .second, .val (.int ((i1 + (1 : Int32)) + (1 : Int32)))]) rfl ?_
    show Steps p.tables e below (s₁.setTop (mkF m 25 #[.val (.ref o0), .val (.int i1), .val (.int i2), .val (.long (((((0 : Int64) ^^^ w0) * (-7046029254386353131 : Int64)) ^^^ w1) * (-7046029254386353131 : Int64))), .second, .val (.int ((i1 + (1 : Int32)) + (1 : Int32)))] [])) _
    refine XS.goto X0.here hx rfl (pc0 := 25) (pc' := 5) rfl (hb hby d1c_25) (by decide) (by decide) ?_
    show Steps p.tables e below (s₁.setTop (mkF m 5 #[.val (.ref o0), .val (.int i1), .val (.int i2), .val (.long (((((0 : Int64) ^^^ w0) * (-7046029254386353131 : Int64)) ^^^ w1) * (-7046029254386353131 : Int64))), .second, .val (.int ((i1 + (1 : Int32)) + (1 : Int32)))] [])) _
    refine XS.iload X0.here hx rfl (hb hby d1c_5) rfl ?_
    show Steps p.tables e below (s₁.setTop (mkF m 7 #[.val (.ref o0), .val (.int i1), .val (.int i2), .val (.long (((((0 : Int64) ^^^ w0) * (-7046029254386353131 : Int64)) ^^^ w1) * (-7046029254386353131 : Int64))), .second, .val (.int ((i1 + (1 : Int32)) + (1 : Int32)))] [(.int ((i1 + (1 : Int32)) + (1 : Int32)))])) _
    refine XS.iloadN X0.here hx rfl (hb hby d1c_7) rfl ?_
    show Steps p.tables e below (s₁.setTop (mkF m 8 #[.val (.ref o0), .val (.int i1), .val (.int i2), .val (.long (((((0 : Int64) ^^^ w0) * (-7046029254386353131 : Int64)) ^^^ w1) * (-7046029254386353131 : Int64))), .second, .val (.int ((i1 + (1 : Int32)) + (1 : Int32)))] [(.int i2), (.int ((i1 + (1 : Int32)) + (1 : Int32)))])) _
    refine XS.icmpYes X0.here hx rfl (pc0 := 8) (pc' := 28) rfl (hb hby d1c_8) rfl (flt hz).2.1 (by decide) (by decide) ?_
    show Steps p.tables e below (s₁.setTop (mkF m 28 #[.val (.ref o0), .val (.int i1), .val (.int i2), .val (.long (((((0 : Int64) ^^^ w0) * (-7046029254386353131 : Int64)) ^^^ w1) * (-7046029254386353131 : Int64))), .second, .val (.int ((i1 + (1 : Int32)) + (1 : Int32)))] [])) _
    refine XS.lloadN X0.here hx rfl (hb hby d1c_28) rfl ?_
    show Steps p.tables e below (s₁.setTop (mkF m 29 #[.val (.ref o0), .val (.int i1), .val (.int i2), .val (.long (((((0 : Int64) ^^^ w0) * (-7046029254386353131 : Int64)) ^^^ w1) * (-7046029254386353131 : Int64))), .second, .val (.int ((i1 + (1 : Int32)) + (1 : Int32)))] [(.long (((((0 : Int64) ^^^ w0) * (-7046029254386353131 : Int64)) ^^^ w1) * (-7046029254386353131 : Int64)))])) _
    refine XS.lloadN X0.here hx rfl (hb hby d1c_29) rfl ?_
    show Steps p.tables e below (s₁.setTop (mkF m 30 #[.val (.ref o0), .val (.int i1), .val (.int i2), .val (.long (((((0 : Int64) ^^^ w0) * (-7046029254386353131 : Int64)) ^^^ w1) * (-7046029254386353131 : Int64))), .second, .val (.int ((i1 + (1 : Int32)) + (1 : Int32)))] [(.long (((((0 : Int64) ^^^ w0) * (-7046029254386353131 : Int64)) ^^^ w1) * (-7046029254386353131 : Int64))), (.long (((((0 : Int64) ^^^ w0) * (-7046029254386353131 : Int64)) ^^^ w1) * (-7046029254386353131 : Int64)))])) _
    refine XS.bipush X0.here hx rfl (hb hby d1c_30) ?_
    show Steps p.tables e below (s₁.setTop (mkF m 32 #[.val (.ref o0), .val (.int i1), .val (.int i2), .val (.long (((((0 : Int64) ^^^ w0) * (-7046029254386353131 : Int64)) ^^^ w1) * (-7046029254386353131 : Int64))), .second, .val (.int ((i1 + (1 : Int32)) + (1 : Int32)))] [(.int (32 : Int32)), (.long (((((0 : Int64) ^^^ w0) * (-7046029254386353131 : Int64)) ^^^ w1) * (-7046029254386353131 : Int64))), (.long (((((0 : Int64) ^^^ w0) * (-7046029254386353131 : Int64)) ^^^ w1) * (-7046029254386353131 : Int64)))])) _
    refine XS.lushr X0.here hx rfl (hb hby d1c_32) rfl ?_
    show Steps p.tables e below (s₁.setTop (mkF m 33 #[.val (.ref o0), .val (.int i1), .val (.int i2), .val (.long (((((0 : Int64) ^^^ w0) * (-7046029254386353131 : Int64)) ^^^ w1) * (-7046029254386353131 : Int64))), .second, .val (.int ((i1 + (1 : Int32)) + (1 : Int32)))] [(.long (((((((0 : Int64) ^^^ w0) * (-7046029254386353131 : Int64)) ^^^ w1) * (-7046029254386353131 : Int64)).toUInt64 >>> ((32 : Int32) &&& 0x3f).toInt64.toUInt64).toInt64)), (.long (((((0 : Int64) ^^^ w0) * (-7046029254386353131 : Int64)) ^^^ w1) * (-7046029254386353131 : Int64)))])) _
    refine XS.lxor X0.here hx rfl (hb hby d1c_33) rfl ?_
    show Steps p.tables e below (s₁.setTop (mkF m 34 #[.val (.ref o0), .val (.int i1), .val (.int i2), .val (.long (((((0 : Int64) ^^^ w0) * (-7046029254386353131 : Int64)) ^^^ w1) * (-7046029254386353131 : Int64))), .second, .val (.int ((i1 + (1 : Int32)) + (1 : Int32)))] [(.long ((((((0 : Int64) ^^^ w0) * (-7046029254386353131 : Int64)) ^^^ w1) * (-7046029254386353131 : Int64)) ^^^ (((((((0 : Int64) ^^^ w0) * (-7046029254386353131 : Int64)) ^^^ w1) * (-7046029254386353131 : Int64)).toUInt64 >>> ((32 : Int32) &&& 0x3f).toInt64.toUInt64).toInt64)))])) _
    refine X0.ldc2Long hx hown (mvT hZ (hw _ (List.mem_of_getElem? (i := 7) rfl))) (g := (mkF m 34 #[.val (.ref o0), .val (.int i1), .val (.int i2), .val (.long (((((0 : Int64) ^^^ w0) * (-7046029254386353131 : Int64)) ^^^ w1) * (-7046029254386353131 : Int64))), .second, .val (.int ((i1 + (1 : Int32)) + (1 : Int32)))] [(.long ((((((0 : Int64) ^^^ w0) * (-7046029254386353131 : Int64)) ^^^ w1) * (-7046029254386353131 : Int64)) ^^^ (((((((0 : Int64) ^^^ w0) * (-7046029254386353131 : Int64)) ^^^ w1) * (-7046029254386353131 : Int64)).toUInt64 >>> ((32 : Int32) &&& 0x3f).toInt64.toUInt64).toInt64)))])) rfl (hb hby d1c_34) _ ?_
    show Steps p.tables e below (s₁.setTop (mkF m 37 #[.val (.ref o0), .val (.int i1), .val (.int i2), .val (.long (((((0 : Int64) ^^^ w0) * (-7046029254386353131 : Int64)) ^^^ w1) * (-7046029254386353131 : Int64))), .second, .val (.int ((i1 + (1 : Int32)) + (1 : Int32)))] [(.long (-2960836687051489901 : Int64)), (.long ((((((0 : Int64) ^^^ w0) * (-7046029254386353131 : Int64)) ^^^ w1) * (-7046029254386353131 : Int64)) ^^^ (((((((0 : Int64) ^^^ w0) * (-7046029254386353131 : Int64)) ^^^ w1) * (-7046029254386353131 : Int64)).toUInt64 >>> ((32 : Int32) &&& 0x3f).toInt64.toUInt64).toInt64)))])) _
    refine XS.lmul X0.here hx rfl (hb hby d1c_37) rfl ?_
    show Steps p.tables e below (s₁.setTop (mkF m 38 #[.val (.ref o0), .val (.int i1), .val (.int i2), .val (.long (((((0 : Int64) ^^^ w0) * (-7046029254386353131 : Int64)) ^^^ w1) * (-7046029254386353131 : Int64))), .second, .val (.int ((i1 + (1 : Int32)) + (1 : Int32)))] [(.long (((((((0 : Int64) ^^^ w0) * (-7046029254386353131 : Int64)) ^^^ w1) * (-7046029254386353131 : Int64)) ^^^ (((((((0 : Int64) ^^^ w0) * (-7046029254386353131 : Int64)) ^^^ w1) * (-7046029254386353131 : Int64)).toUInt64 >>> ((32 : Int32) &&& 0x3f).toInt64.toUInt64).toInt64)) * (-2960836687051489901 : Int64)))])) _
    refine XS.lstoreN X0.here hx rfl (hb hby d1c_38) rfl (l' := #[.val (.ref o0), .val (.int i1), .val (.int i2), .val (.long (((((((0 : Int64) ^^^ w0) * (-7046029254386353131 : Int64)) ^^^ w1) * (-7046029254386353131 : Int64)) ^^^ (((((((0 : Int64) ^^^ w0) * (-7046029254386353131 : Int64)) ^^^ w1) * (-7046029254386353131 : Int64)).toUInt64 >>> ((32 : Int32) &&& 0x3f).toInt64.toUInt64).toInt64)) * (-2960836687051489901 : Int64))), .second, .val (.int ((i1 + (1 : Int32)) + (1 : Int32)))]) rfl ?_
    show Steps p.tables e below (s₁.setTop (mkF m 39 #[.val (.ref o0), .val (.int i1), .val (.int i2), .val (.long (((((((0 : Int64) ^^^ w0) * (-7046029254386353131 : Int64)) ^^^ w1) * (-7046029254386353131 : Int64)) ^^^ (((((((0 : Int64) ^^^ w0) * (-7046029254386353131 : Int64)) ^^^ w1) * (-7046029254386353131 : Int64)).toUInt64 >>> ((32 : Int32) &&& 0x3f).toInt64.toUInt64).toInt64)) * (-2960836687051489901 : Int64))), .second, .val (.int ((i1 + (1 : Int32)) + (1 : Int32)))] [])) _
    refine XS.lloadN X0.here hx rfl (hb hby d1c_39) rfl ?_
    show Steps p.tables e below (s₁.setTop (mkF m 40 #[.val (.ref o0), .val (.int i1), .val (.int i2), .val (.long (((((((0 : Int64) ^^^ w0) * (-7046029254386353131 : Int64)) ^^^ w1) * (-7046029254386353131 : Int64)) ^^^ (((((((0 : Int64) ^^^ w0) * (-7046029254386353131 : Int64)) ^^^ w1) * (-7046029254386353131 : Int64)).toUInt64 >>> ((32 : Int32) &&& 0x3f).toInt64.toUInt64).toInt64)) * (-2960836687051489901 : Int64))), .second, .val (.int ((i1 + (1 : Int32)) + (1 : Int32)))] [(.long (((((((0 : Int64) ^^^ w0) * (-7046029254386353131 : Int64)) ^^^ w1) * (-7046029254386353131 : Int64)) ^^^ (((((((0 : Int64) ^^^ w0) * (-7046029254386353131 : Int64)) ^^^ w1) * (-7046029254386353131 : Int64)).toUInt64 >>> ((32 : Int32) &&& 0x3f).toInt64.toUInt64).toInt64)) * (-2960836687051489901 : Int64)))])) _
    refine XS.lloadN X0.here hx rfl (hb hby d1c_40) rfl ?_
    show Steps p.tables e below (s₁.setTop (mkF m 41 #[.val (.ref o0), .val (.int i1), .val (.int i2), .val (.long (((((((0 : Int64) ^^^ w0) * (-7046029254386353131 : Int64)) ^^^ w1) * (-7046029254386353131 : Int64)) ^^^ (((((((0 : Int64) ^^^ w0) * (-7046029254386353131 : Int64)) ^^^ w1) * (-7046029254386353131 : Int64)).toUInt64 >>> ((32 : Int32) &&& 0x3f).toInt64.toUInt64).toInt64)) * (-2960836687051489901 : Int64))), .second, .val (.int ((i1 + (1 : Int32)) + (1 : Int32)))] [(.long (((((((0 : Int64) ^^^ w0) * (-7046029254386353131 : Int64)) ^^^ w1) * (-7046029254386353131 : Int64)) ^^^ (((((((0 : Int64) ^^^ w0) * (-7046029254386353131 : Int64)) ^^^ w1) * (-7046029254386353131 : Int64)).toUInt64 >>> ((32 : Int32) &&& 0x3f).toInt64.toUInt64).toInt64)) * (-2960836687051489901 : Int64))), (.long (((((((0 : Int64) ^^^ w0) * (-7046029254386353131 : Int64)) ^^^ w1) * (-7046029254386353131 : Int64)) ^^^ (((((((0 : Int64) ^^^ w0) * (-7046029254386353131 : Int64)) ^^^ w1) * (-7046029254386353131 : Int64)).toUInt64 >>> ((32 : Int32) &&& 0x3f).toInt64.toUInt64).toInt64)) * (-2960836687051489901 : Int64)))])) _
    refine XS.bipush X0.here hx rfl (hb hby d1c_41) ?_
    show Steps p.tables e below (s₁.setTop (mkF m 43 #[.val (.ref o0), .val (.int i1), .val (.int i2), .val (.long (((((((0 : Int64) ^^^ w0) * (-7046029254386353131 : Int64)) ^^^ w1) * (-7046029254386353131 : Int64)) ^^^ (((((((0 : Int64) ^^^ w0) * (-7046029254386353131 : Int64)) ^^^ w1) * (-7046029254386353131 : Int64)).toUInt64 >>> ((32 : Int32) &&& 0x3f).toInt64.toUInt64).toInt64)) * (-2960836687051489901 : Int64))), .second, .val (.int ((i1 + (1 : Int32)) + (1 : Int32)))] [(.int (32 : Int32)), (.long (((((((0 : Int64) ^^^ w0) * (-7046029254386353131 : Int64)) ^^^ w1) * (-7046029254386353131 : Int64)) ^^^ (((((((0 : Int64) ^^^ w0) * (-7046029254386353131 : Int64)) ^^^ w1) * (-7046029254386353131 : Int64)).toUInt64 >>> ((32 : Int32) &&& 0x3f).toInt64.toUInt64).toInt64)) * (-2960836687051489901 : Int64))), (.long (((((((0 : Int64) ^^^ w0) * (-7046029254386353131 : Int64)) ^^^ w1) * (-7046029254386353131 : Int64)) ^^^ (((((((0 : Int64) ^^^ w0) * (-7046029254386353131 : Int64)) ^^^ w1) * (-7046029254386353131 : Int64)).toUInt64 >>> ((32 : Int32) &&& 0x3f).toInt64.toUInt64).toInt64)) * (-2960836687051489901 : Int64)))])) _
    refine XS.lushr X0.here hx rfl (hb hby d1c_43) rfl ?_
    show Steps p.tables e below (s₁.setTop (mkF m 44 #[.val (.ref o0), .val (.int i1), .val (.int i2), .val (.long (((((((0 : Int64) ^^^ w0) * (-7046029254386353131 : Int64)) ^^^ w1) * (-7046029254386353131 : Int64)) ^^^ (((((((0 : Int64) ^^^ w0) * (-7046029254386353131 : Int64)) ^^^ w1) * (-7046029254386353131 : Int64)).toUInt64 >>> ((32 : Int32) &&& 0x3f).toInt64.toUInt64).toInt64)) * (-2960836687051489901 : Int64))), .second, .val (.int ((i1 + (1 : Int32)) + (1 : Int32)))] [(.long (((((((((0 : Int64) ^^^ w0) * (-7046029254386353131 : Int64)) ^^^ w1) * (-7046029254386353131 : Int64)) ^^^ (((((((0 : Int64) ^^^ w0) * (-7046029254386353131 : Int64)) ^^^ w1) * (-7046029254386353131 : Int64)).toUInt64 >>> ((32 : Int32) &&& 0x3f).toInt64.toUInt64).toInt64)) * (-2960836687051489901 : Int64)).toUInt64 >>> ((32 : Int32) &&& 0x3f).toInt64.toUInt64).toInt64)), (.long (((((((0 : Int64) ^^^ w0) * (-7046029254386353131 : Int64)) ^^^ w1) * (-7046029254386353131 : Int64)) ^^^ (((((((0 : Int64) ^^^ w0) * (-7046029254386353131 : Int64)) ^^^ w1) * (-7046029254386353131 : Int64)).toUInt64 >>> ((32 : Int32) &&& 0x3f).toInt64.toUInt64).toInt64)) * (-2960836687051489901 : Int64)))])) _
    refine XS.lxor X0.here hx rfl (hb hby d1c_44) rfl ?_
    show Steps p.tables e below (s₁.setTop (mkF m 45 #[.val (.ref o0), .val (.int i1), .val (.int i2), .val (.long (((((((0 : Int64) ^^^ w0) * (-7046029254386353131 : Int64)) ^^^ w1) * (-7046029254386353131 : Int64)) ^^^ (((((((0 : Int64) ^^^ w0) * (-7046029254386353131 : Int64)) ^^^ w1) * (-7046029254386353131 : Int64)).toUInt64 >>> ((32 : Int32) &&& 0x3f).toInt64.toUInt64).toInt64)) * (-2960836687051489901 : Int64))), .second, .val (.int ((i1 + (1 : Int32)) + (1 : Int32)))] [(.long ((((((((0 : Int64) ^^^ w0) * (-7046029254386353131 : Int64)) ^^^ w1) * (-7046029254386353131 : Int64)) ^^^ (((((((0 : Int64) ^^^ w0) * (-7046029254386353131 : Int64)) ^^^ w1) * (-7046029254386353131 : Int64)).toUInt64 >>> ((32 : Int32) &&& 0x3f).toInt64.toUInt64).toInt64)) * (-2960836687051489901 : Int64)) ^^^ (((((((((0 : Int64) ^^^ w0) * (-7046029254386353131 : Int64)) ^^^ w1) * (-7046029254386353131 : Int64)) ^^^ (((((((0 : Int64) ^^^ w0) * (-7046029254386353131 : Int64)) ^^^ w1) * (-7046029254386353131 : Int64)).toUInt64 >>> ((32 : Int32) &&& 0x3f).toInt64.toUInt64).toInt64)) * (-2960836687051489901 : Int64)).toUInt64 >>> ((32 : Int32) &&& 0x3f).toInt64.toUInt64).toInt64)))])) _
    refine XS.l2i X0.here hx rfl (hb hby d1c_45) rfl ?_
    show Steps p.tables e below (s₁.setTop (mkF m 46 #[.val (.ref o0), .val (.int i1), .val (.int i2), .val (.long (((((((0 : Int64) ^^^ w0) * (-7046029254386353131 : Int64)) ^^^ w1) * (-7046029254386353131 : Int64)) ^^^ (((((((0 : Int64) ^^^ w0) * (-7046029254386353131 : Int64)) ^^^ w1) * (-7046029254386353131 : Int64)).toUInt64 >>> ((32 : Int32) &&& 0x3f).toInt64.toUInt64).toInt64)) * (-2960836687051489901 : Int64))), .second, .val (.int ((i1 + (1 : Int32)) + (1 : Int32)))] [(.int (((((((((0 : Int64) ^^^ w0) * (-7046029254386353131 : Int64)) ^^^ w1) * (-7046029254386353131 : Int64)) ^^^ (((((((0 : Int64) ^^^ w0) * (-7046029254386353131 : Int64)) ^^^ w1) * (-7046029254386353131 : Int64)).toUInt64 >>> ((32 : Int32) &&& 0x3f).toInt64.toUInt64).toInt64)) * (-2960836687051489901 : Int64)) ^^^ (((((((((0 : Int64) ^^^ w0) * (-7046029254386353131 : Int64)) ^^^ w1) * (-7046029254386353131 : Int64)) ^^^ (((((((0 : Int64) ^^^ w0) * (-7046029254386353131 : Int64)) ^^^ w1) * (-7046029254386353131 : Int64)).toUInt64 >>> ((32 : Int32) &&& 0x3f).toInt64.toUInt64).toInt64)) * (-2960836687051489901 : Int64)).toUInt64 >>> ((32 : Int32) &&& 0x3f).toInt64.toUInt64).toInt64)).toInt32))])) _
    exact retI X0 hx Bd.returns (hb hby d1c_46) hr
  · show Q1c Z o0 i1 i2 cl w0 w1 h0 n0 _ s₁.heap _
    rw [e0]
    exact ⟨rfl, N0, rfl⟩
theorem d3c_0 : decode method_3_code 0 = .ok (.lconst 0, 1) := by decide +kernel
theorem d3c_1 : decode method_3_code 1 = .ok (.lstore 7, 2) := by decide +kernel
theorem d3c_3 : decode method_3_code 3 = .ok (.iload 6, 2) := by decide +kernel
theorem d3c_5 : decode method_3_code 5 = .ok (.iconst 1, 1) := by decide +kernel
theorem d3c_6 : decode method_3_code 6 = .ok (.if_icmp .lt 11, 3) := by decide +kernel
theorem d3c_9 : decode method_3_code 9 = .ok (.lload 7, 2) := by decide +kernel
theorem d3c_11 : decode method_3_code 11 = .ok (.lload_n 0, 1) := by decide +kernel
theorem d3c_12 : decode method_3_code 12 = .ok (.invokestatic 11, 3) := by decide +kernel
theorem d3c_15 : decode method_3_code 15 = .ok (.lstore 7, 2) := by decide +kernel
theorem d3c_17 : decode method_3_code 17 = .ok (.iload 6, 2) := by decide +kernel
theorem d3c_19 : decode method_3_code 19 = .ok (.iconst 2, 1) := by decide +kernel
theorem d3c_20 : decode method_3_code 20 = .ok (.if_icmp .lt 11, 3) := by decide +kernel
theorem d3c_23 : decode method_3_code 23 = .ok (.lload 7, 2) := by decide +kernel
theorem d3c_25 : decode method_3_code 25 = .ok (.lload_n 2, 1) := by decide +kernel
theorem d3c_26 : decode method_3_code 26 = .ok (.invokestatic 11, 3) := by decide +kernel
theorem d3c_29 : decode method_3_code 29 = .ok (.lstore 7, 2) := by decide +kernel
theorem d3c_31 : decode method_3_code 31 = .ok (.iload 6, 2) := by decide +kernel
theorem d3c_33 : decode method_3_code 33 = .ok (.iconst 3, 1) := by decide +kernel
theorem d3c_34 : decode method_3_code 34 = .ok (.if_icmp .lt 12, 3) := by decide +kernel
theorem d3c_46 : decode method_3_code 46 = .ok (.lload 7, 2) := by decide +kernel
theorem d3c_48 : decode method_3_code 48 = .ok (.lload 7, 2) := by decide +kernel
theorem d3c_50 : decode method_3_code 50 = .ok (.bipush 32, 2) := by decide +kernel
theorem d3c_52 : decode method_3_code 52 = .ok (.lushr, 1) := by decide +kernel
theorem d3c_53 : decode method_3_code 53 = .ok (.lxor, 1) := by decide +kernel
theorem d3c_54 : decode method_3_code 54 = .ok (.ldc2_w 15, 3) := by decide +kernel
theorem d3c_57 : decode method_3_code 57 = .ok (.lmul, 1) := by decide +kernel
theorem d3c_58 : decode method_3_code 58 = .ok (.lstore 9, 2) := by decide +kernel
theorem d3c_60 : decode method_3_code 60 = .ok (.lload 9, 2) := by decide +kernel
theorem d3c_62 : decode method_3_code 62 = .ok (.lload 9, 2) := by decide +kernel
theorem d3c_64 : decode method_3_code 64 = .ok (.bipush 32, 2) := by decide +kernel
theorem d3c_66 : decode method_3_code 66 = .ok (.lushr, 1) := by decide +kernel
theorem d3c_67 : decode method_3_code 67 = .ok (.lxor, 1) := by decide +kernel
theorem d3c_68 : decode method_3_code 68 = .ok (.l2i, 1) := by decide +kernel
theorem d3c_69 : decode method_3_code 69 = .ok (.ireturn, 1) := by decide +kernel
theorem ef_3c (m : MethodId) (x0 : Int64) (x1 : Int64) (x2 : Int64) (x3 : Int32) : entryFrame m #[(.long x0), (.long x1), (.long x2), (.int x3)] 11 = mkF m 0 #[.val (.long x0), .second, .val (.long x1), .second, .val (.long x2), .second, .val (.int x3), .unset, .unset, .unset, .unset] [] := by first | (simp [entryFrame, mkF, argsToLocals, Value.category]; done) | rfl
def Q3c (Z : State) (ja : Int64) (jb : Int64) (jc : Int64) (jn : Int32) (h0 : Heap) (n0 : Nat) (v : Option Value) (h : Heap) (L : List Loc) : Prop := v = some (.int (((((((((0 : Int64) ^^^ ja) * (-7046029254386353131 : Int64)) ^^^ jb) * (-7046029254386353131 : Int64)) ^^^ (((((((0 : Int64) ^^^ ja) * (-7046029254386353131 : Int64)) ^^^ jb) * (-7046029254386353131 : Int64)).toUInt64 >>> ((32 : Int32) &&& 0x3f).toInt64.toUInt64).toInt64)) * (-2960836687051489901 : Int64)) ^^^ (((((((((0 : Int64) ^^^ ja) * (-7046029254386353131 : Int64)) ^^^ jb) * (-7046029254386353131 : Int64)) ^^^ (((((((0 : Int64) ^^^ ja) * (-7046029254386353131 : Int64)) ^^^ jb) * (-7046029254386353131 : Int64)).toUInt64 >>> ((32 : Int32) &&& 0x3f).toInt64.toUInt64).toInt64)) * (-2960836687051489901 : Int64)).toUInt64 >>> ((32 : Int32) &&& 0x3f).toInt64.toUInt64).toInt64)).toInt32)) ∧ Fr n0 L ∧ h = h0
set_option maxRecDepth 65536 in
set_option maxHeartbeats 40000000 in
theorem rm3c (l : Launch) (Z : State) (a0 : Array Value) (hw : ∀ d ∈ tables_1, d.before a0 Z = true) (ws : List Jvm.Cond) (ja : Int64) (jb : Int64) (jc : Int64) (jn : Int32) (h0 : Heap) (n0 : Nat) (hn1 : ¬ jn < (1 : Int32)) (hn2 : ¬ jn < (2 : Int32)) (hn3 : jn < (3 : Int32)) :
    MetFree l (⟨"com/example/assured_timing/assuredtiming/simulation/ConfigurationHashPinLaw", "expected", "(JJJI)I"⟩ : MethodName) (head1 (Jvm.Cond.code (⟨"com/example/assured_timing/assuredtiming/simulation/ConfigurationHashPinLaw", "expected", "(JJJI)I"⟩ : MethodName) method_3_code 11 (some .int) :: ws) ({ frames := 1, cells := 0, slots := 0, locals := 15 } : Room)) (fun a U => a = #[(.long ja), (.long jb), (.long jc), (.int jn)] ∧ Z.Warmed39 U.vm ∧ U.heap = h0) (fun _ _ _ _ _ => True) (fun _ U o U' => ∃ v L, o = .returned v ∧ Q3c Z ja jb jc jn h0 n0 v U'.heap L ∧ FrameEnd U o U' L ({ frames := 1, cells := 0, slots := 0, locals := 15 } : Room).cells ({ frames := 1, cells := 0, slots := 0, locals := 15 } : Room).slots) := by
  refine MetFree.of_bodySF (plainFor_of_name pn_0) hisR ?_
  intro p e s m args below meth c s₁ Bd hml0 hP hK
  obtain ⟨rfl, hZ, hh⟩ := hP
  have hx := Bd.exec
  have hby := Bd.bytes
  have hml : c.maxLocals = 11 := hml0
  have hown : s.vm.findClass "com/example/assured_timing/assuredtiming/simulation/ConfigurationHashPinLaw" = some m.cls := findClass_of_methodNamed Bd.named
  have hnm := (name_of_methodNamed Bd.named Bd.method).1
  have X0 : Stand p l e ({ frames := 1, cells := 0, slots := 0, locals := 15 } : Room) s m #[(.long ja), (.long jb), (.long jc), (.int jn)] below meth c s₁ [] 0 0 := Stand.of_body Bd
  have e0 : s₁.heap = h0 := by rw [← hh, Bd.state]; rfl
  have N0 := Fr.nil n0
  have pre0 : ∀ t, Steps p.tables e below (s₁.setTop (mkF m 0 #[.val (.long ja), .second, .val (.long jb), .second, .val (.long jc), .second, .val (.int jn), .unset, .unset, .unset, .unset] [])) t → Steps p.tables e below (s₁.setTop (entryFrame m #[(.long ja), (.long jb), (.long jc), (.int jn)] 11)) t := fun t k => castTop (ef_3c m ja jb jc jn) k
  obtain ⟨_, _, ⟨T1, L1, k1, n1⟩, -, X1, ⟨Lc1, hQ1, l1, y1, z1⟩, st1⟩ := Jvm.LawKit.callS X0 hx (y := (⟨"com/example/assured_timing/assuredtiming/simulation/ConfigurationHashPinLaw", "step", "(JJ)J"⟩ : MethodName)) hown (mvT hZ (hw _ (List.mem_of_getElem? (i := 12) rfl))) (mvT hZ (hw _ (List.mem_of_getElem? (i := 13) rfl))) (mvT hZ (hw _ (List.mem_of_getElem? (i := 10) rfl))) (mvT hZ (hw _ (List.mem_of_getElem? (i := 14) rfl))) (by decide) (backOf (W := 0) (rm2 l Z a0 hw [] (0 : Int64) ja h0 n0) hZ (hw _ (List.mem_of_getElem? (i := 14) rfl)) (hw _ (List.mem_of_getElem? (i := 10) rfl)) (by decide) (by decide)) (g := (mkF m 12 #[.val (.long ja), .second, .val (.long jb), .second, .val (.long jc), .second, .val (.int jn), .val (.long (0 : Int64)), .second, .unset, .unset] [(.long ja), (.long (0 : Int64))])) rfl (by rw [hml]; rfl) (argsL := [(.long (0 : Int64)), (.long ja)]) (rest := []) (lenOf pd_0 rfl) rfl (by show 2 * 0 + _ ≤ _; exact Nat.le_of_eq rfl) (hb hby d3c_12) (fun _ _ => ⟨rfl, e0, (by decide : 0 + 0 ≤ _), (by decide : 0 + 0 ≤ _)⟩)
  dsimp only [Pt.U, Pt.locs, Pt.cells, Pt.slots] at X1 l1 y1 z1 st1 hQ1
  subst l1 y1 z1
  obtain ⟨rfl, N1q, e1q⟩ := hQ1
  have N1 := Fr.app N0 N1q
  obtain ⟨_, _, ⟨T2, L2, k2, n2⟩, -, X2, ⟨Lc2, hQ2, l2, y2, z2⟩, st2⟩ := Jvm.LawKit.callS X1 hx (y := (⟨"com/example/assured_timing/assuredtiming/simulation/ConfigurationHashPinLaw", "step", "(JJ)J"⟩ : MethodName)) hown (mvT hZ (hw _ (List.mem_of_getElem? (i := 12) rfl))) (mvT hZ (hw _ (List.mem_of_getElem? (i := 13) rfl))) (mvT hZ (hw _ (List.mem_of_getElem? (i := 10) rfl))) (mvT hZ (hw _ (List.mem_of_getElem? (i := 14) rfl))) (by decide) (backOf (W := 0) (rm2 l Z a0 hw [] (((0 : Int64) ^^^ ja) * (-7046029254386353131 : Int64)) jb h0 n0) hZ (hw _ (List.mem_of_getElem? (i := 14) rfl)) (hw _ (List.mem_of_getElem? (i := 10) rfl)) (by decide) (by decide)) (g := (mkF m 26 #[.val (.long ja), .second, .val (.long jb), .second, .val (.long jc), .second, .val (.int jn), .val (.long (((0 : Int64) ^^^ ja) * (-7046029254386353131 : Int64))), .second, .unset, .unset] [(.long jb), (.long (((0 : Int64) ^^^ ja) * (-7046029254386353131 : Int64)))])) rfl (by rw [hml]; rfl) (argsL := [(.long (((0 : Int64) ^^^ ja) * (-7046029254386353131 : Int64))), (.long jb)]) (rest := []) (lenOf pd_0 rfl) rfl (by show 2 * 0 + _ ≤ _; exact Nat.le_of_eq rfl) (hb hby d3c_26) (fun _ _ => ⟨rfl, e1q, (by decide : 0 + 0 ≤ _), (by decide : 0 + 0 ≤ _)⟩)
  dsimp only [Pt.U, Pt.locs, Pt.cells, Pt.slots] at X2 l2 y2 z2 st2 hQ2
  subst l2 y2 z2
  obtain ⟨rfl, N2q, e2q⟩ := hQ2
  have N2 := Fr.app N1 N2q
  obtain ⟨fs, hr, hrun, hended, hW, hsame⟩ := X2.leave (v := some (.int (((((((((0 : Int64) ^^^ ja) * (-7046029254386353131 : Int64)) ^^^ jb) * (-7046029254386353131 : Int64)) ^^^ (((((((0 : Int64) ^^^ ja) * (-7046029254386353131 : Int64)) ^^^ jb) * (-7046029254386353131 : Int64)).toUInt64 >>> ((32 : Int32) &&& 0x3f).toInt64.toUInt64).toInt64)) * (-2960836687051489901 : Int64)) ^^^ (((((((((0 : Int64) ^^^ ja) * (-7046029254386353131 : Int64)) ^^^ jb) * (-7046029254386353131 : Int64)) ^^^ (((((((0 : Int64) ^^^ ja) * (-7046029254386353131 : Int64)) ^^^ jb) * (-7046029254386353131 : Int64)).toUInt64 >>> ((32 : Int32) &&& 0x3f).toInt64.toUInt64).toInt64)) * (-2960836687051489901 : Int64)).toUInt64 >>> ((32 : Int32) &&& 0x3f).toInt64.toUInt64).toInt64)).toInt32))) (fun h => by rw [Bd.returns] at h; cases h)
  refine ⟨_, _, pre0 _ ?_, hrun, hended, _, _, rfl, ?_, ⟨_, rfl⟩, hW, hsame.mono (by decide) (by decide)⟩
  · show Steps p.tables e below (s₁.setTop (mkF m 0 #[.val (.long ja), .second, .val (.long jb), .second, .val (.long jc), .second, .val (.int jn), .unset, .unset, .unset, .unset] [])) _
    refine XS.lconst X0.here hx rfl (hb hby d3c_0) ?_
    show Steps p.tables e below (s₁.setTop (mkF m 1 #[.val (.long ja), .second, .val (.long jb), .second, .val (.long jc), .second, .val (.int jn), .unset, .unset, .unset, .unset] [(.long (0 : Int64))])) _
    refine XS.lstore X0.here hx rfl (hb hby d3c_1) rfl (l' := #[.val (.long ja), .second, .val (.long jb), .second, .val (.long jc), .second, .val (.int jn), .val (.long (0 : Int64)), .second, .unset, .unset]) rfl ?_
    show Steps p.tables e below (s₁.setTop (mkF m 3 #[.val (.long ja), .second, .val (.long jb), .second, .val (.long jc), .second, .val (.int jn), .val (.long (0 : Int64)), .second, .unset, .unset] [])) _
    refine XS.iload X0.here hx rfl (hb hby d3c_3) rfl ?_
    show Steps p.tables e below (s₁.setTop (mkF m 5 #[.val (.long ja), .second, .val (.long jb), .second, .val (.long jc), .second, .val (.int jn), .val (.long (0 : Int64)), .second, .unset, .unset] [(.int jn)])) _
    refine XS.iconst X0.here hx rfl (hb hby d3c_5) ?_
    show Steps p.tables e below (s₁.setTop (mkF m 6 #[.val (.long ja), .second, .val (.long jb), .second, .val (.long jc), .second, .val (.int jn), .val (.long (0 : Int64)), .second, .unset, .unset] [(.int (1 : Int32)), (.int jn)])) _
    refine XS.icmpNo X0.here hx rfl (hb hby d3c_6) rfl (flt hn1).1 ?_
    show Steps p.tables e below (s₁.setTop (mkF m 9 #[.val (.long ja), .second, .val (.long jb), .second, .val (.long jc), .second, .val (.int jn), .val (.long (0 : Int64)), .second, .unset, .unset] [])) _
    refine XS.lload X0.here hx rfl (hb hby d3c_9) rfl ?_
    show Steps p.tables e below (s₁.setTop (mkF m 11 #[.val (.long ja), .second, .val (.long jb), .second, .val (.long jc), .second, .val (.int jn), .val (.long (0 : Int64)), .second, .unset, .unset] [(.long (0 : Int64))])) _
    refine XS.lloadN X0.here hx rfl (hb hby d3c_11) rfl ?_
    show Steps p.tables e below (s₁.setTop (mkF m 12 #[.val (.long ja), .second, .val (.long jb), .second, .val (.long jc), .second, .val (.int jn), .val (.long (0 : Int64)), .second, .unset, .unset] [(.long ja), (.long (0 : Int64))])) _
    refine st1 _ ?_
    show Steps p.tables e below (T1.setTop (mkF m 15 #[.val (.long ja), .second, .val (.long jb), .second, .val (.long jc), .second, .val (.int jn), .val (.long (0 : Int64)), .second, .unset, .unset] [(.long (((0 : Int64) ^^^ ja) * (-7046029254386353131 : Int64)))])) _
    refine XS.lstore X1.here hx rfl (hb hby d3c_15) rfl (l' := #[.val (.long ja), .second, .val (.long jb), .second, .val (.long jc), .second, .val (.int jn), .val (.long (((0 : Int64) ^^^ ja) * (-7046029254386353131 : Int64))), .second, .unset, .unset]) rfl ?_
    show Steps p.tables e below (T1.setTop (mkF m 17 #[.val (.long ja), .second, .val (.long jb), .second, .val (.long jc), .second, .val (.int jn), .val (.long (((0 : Int64) ^^^ ja) * (-7046029254386353131 : Int64))), .second, .unset, .unset] [])) _
    refine XS.iload X1.here hx rfl (hb hby d3c_17) rfl ?_
    show Steps p.tables e below (T1.setTop (mkF m 19 #[.val (.long ja), .second, .val (.long jb), .second, .val (.long jc), .second, .val (.int jn), .val (.long (((0 : Int64) ^^^ ja) * (-7046029254386353131 : Int64))), .second, .unset, .unset] [(.int jn)])) _
    refine XS.iconst X1.here hx rfl (hb hby d3c_19) ?_
    show Steps p.tables e below (T1.setTop (mkF m 20 #[.val (.long ja), .second, .val (.long jb), .second, .val (.long jc), .second, .val (.int jn), .val (.long (((0 : Int64) ^^^ ja) * (-7046029254386353131 : Int64))), .second, .unset, .unset] [(.int (2 : Int32)), (.int jn)])) _
    refine XS.icmpNo X1.here hx rfl (hb hby d3c_20) rfl (flt hn2).1 ?_
    show Steps p.tables e below (T1.setTop (mkF m 23 #[.val (.long ja), .second, .val (.long jb), .second, .val (.long jc), .second, .val (.int jn), .val (.long (((0 : Int64) ^^^ ja) * (-7046029254386353131 : Int64))), .second, .unset, .unset] [])) _
    refine XS.lload X1.here hx rfl (hb hby d3c_23) rfl ?_
    show Steps p.tables e below (T1.setTop (mkF m 25 #[.val (.long ja), .second, .val (.long jb), .second, .val (.long jc), .second, .val (.int jn), .val (.long (((0 : Int64) ^^^ ja) * (-7046029254386353131 : Int64))), .second, .unset, .unset] [(.long (((0 : Int64) ^^^ ja) * (-7046029254386353131 : Int64)))])) _
    refine XS.lloadN X1.here hx rfl (hb hby d3c_25) rfl ?_
    show Steps p.tables e below (T1.setTop (mkF m 26 #[.val (.long ja), .second, .val (.long jb), .second, .val (.long jc), .second, .val (.int jn), .val (.long (((0 : Int64) ^^^ ja) * (-7046029254386353131 : Int64))), .second, .unset, .unset] [(.long jb), (.long (((0 : Int64) ^^^ ja) * (-7046029254386353131 : Int64)))])) _
    refine st2 _ ?_
    show Steps p.tables e below (T2.setTop (mkF m 29 #[.val (.long ja), .second, .val (.long jb), .second, .val (.long jc), .second, .val (.int jn), .val (.long (((0 : Int64) ^^^ ja) * (-7046029254386353131 : Int64))), .second, .unset, .unset] [(.long (((((0 : Int64) ^^^ ja) * (-7046029254386353131 : Int64)) ^^^ jb) * (-7046029254386353131 : Int64)))])) _
    refine XS.lstore X2.here hx rfl (hb hby d3c_29) rfl (l' := #[.val (.long ja), .second, .val (.long jb), .second, .val (.long jc), .second, .val (.int jn), .val (.long (((((0 : Int64) ^^^ ja) * (-7046029254386353131 : Int64)) ^^^ jb) * (-7046029254386353131 : Int64))), .second, .unset, .unset]) rfl ?_
    show Steps p.tables e below (T2.setTop (mkF m 31 #[.val (.long ja), .second, .val (.long jb), .second, .val (.long jc), .second, .val (.int jn), .val (.long (((((0 : Int64) ^^^ ja) * (-7046029254386353131 : Int64)) ^^^ jb) * (-7046029254386353131 : Int64))), .second, .unset, .unset] [])) _
    refine XS.iload X2.here hx rfl (hb hby d3c_31) rfl ?_
    show Steps p.tables e below (T2.setTop (mkF m 33 #[.val (.long ja), .second, .val (.long jb), .second, .val (.long jc), .second, .val (.int jn), .val (.long (((((0 : Int64) ^^^ ja) * (-7046029254386353131 : Int64)) ^^^ jb) * (-7046029254386353131 : Int64))), .second, .unset, .unset] [(.int jn)])) _
    refine XS.iconst X2.here hx rfl (hb hby d3c_33) ?_
    show Steps p.tables e below (T2.setTop (mkF m 34 #[.val (.long ja), .second, .val (.long jb), .second, .val (.long jc), .second, .val (.int jn), .val (.long (((((0 : Int64) ^^^ ja) * (-7046029254386353131 : Int64)) ^^^ jb) * (-7046029254386353131 : Int64))), .second, .unset, .unset] [(.int (3 : Int32)), (.int jn)])) _
    refine XS.icmpYes X2.here hx rfl (pc0 := 34) (pc' := 46) rfl (hb hby d3c_34) rfl (tlt hn3).1 (by decide) (by decide) ?_
    show Steps p.tables e below (T2.setTop (mkF m 46 #[.val (.long ja), .second, .val (.long jb), .second, .val (.long jc), .second, .val (.int jn), .val (.long (((((0 : Int64) ^^^ ja) * (-7046029254386353131 : Int64)) ^^^ jb) * (-7046029254386353131 : Int64))), .second, .unset, .unset] [])) _
    refine XS.lload X2.here hx rfl (hb hby d3c_46) rfl ?_
    show Steps p.tables e below (T2.setTop (mkF m 48 #[.val (.long ja), .second, .val (.long jb), .second, .val (.long jc), .second, .val (.int jn), .val (.long (((((0 : Int64) ^^^ ja) * (-7046029254386353131 : Int64)) ^^^ jb) * (-7046029254386353131 : Int64))), .second, .unset, .unset] [(.long (((((0 : Int64) ^^^ ja) * (-7046029254386353131 : Int64)) ^^^ jb) * (-7046029254386353131 : Int64)))])) _
    refine XS.lload X2.here hx rfl (hb hby d3c_48) rfl ?_
    show Steps p.tables e below (T2.setTop (mkF m 50 #[.val (.long ja), .second, .val (.long jb), .second, .val (.long jc), .second, .val (.int jn), .val (.long (((((0 : Int64) ^^^ ja) * (-7046029254386353131 : Int64)) ^^^ jb) * (-7046029254386353131 : Int64))), .second, .unset, .unset] [(.long (((((0 : Int64) ^^^ ja) * (-7046029254386353131 : Int64)) ^^^ jb) * (-7046029254386353131 : Int64))), (.long (((((0 : Int64) ^^^ ja) * (-7046029254386353131 : Int64)) ^^^ jb) * (-7046029254386353131 : Int64)))])) _
    refine XS.bipush X2.here hx rfl (hb hby d3c_50) ?_
    show Steps p.tables e below (T2.setTop (mkF m 52 #[.val (.long ja), .second, .val (.long jb), .second, .val (.long jc), .second, .val (.int jn), .val (.long (((((0 : Int64) ^^^ ja) * (-7046029254386353131 : Int64)) ^^^ jb) * (-7046029254386353131 : Int64))), .second, .unset, .unset] [(.int (32 : Int32)), (.long (((((0 : Int64) ^^^ ja) * (-7046029254386353131 : Int64)) ^^^ jb) * (-7046029254386353131 : Int64))), (.long (((((0 : Int64) ^^^ ja) * (-7046029254386353131 : Int64)) ^^^ jb) * (-7046029254386353131 : Int64)))])) _
    refine XS.lushr X2.here hx rfl (hb hby d3c_52) rfl ?_
    show Steps p.tables e below (T2.setTop (mkF m 53 #[.val (.long ja), .second, .val (.long jb), .second, .val (.long jc), .second, .val (.int jn), .val (.long (((((0 : Int64) ^^^ ja) * (-7046029254386353131 : Int64)) ^^^ jb) * (-7046029254386353131 : Int64))), .second, .unset, .unset] [(.long (((((((0 : Int64) ^^^ ja) * (-7046029254386353131 : Int64)) ^^^ jb) * (-7046029254386353131 : Int64)).toUInt64 >>> ((32 : Int32) &&& 0x3f).toInt64.toUInt64).toInt64)), (.long (((((0 : Int64) ^^^ ja) * (-7046029254386353131 : Int64)) ^^^ jb) * (-7046029254386353131 : Int64)))])) _
    refine XS.lxor X2.here hx rfl (hb hby d3c_53) rfl ?_
    show Steps p.tables e below (T2.setTop (mkF m 54 #[.val (.long ja), .second, .val (.long jb), .second, .val (.long jc), .second, .val (.int jn), .val (.long (((((0 : Int64) ^^^ ja) * (-7046029254386353131 : Int64)) ^^^ jb) * (-7046029254386353131 : Int64))), .second, .unset, .unset] [(.long ((((((0 : Int64) ^^^ ja) * (-7046029254386353131 : Int64)) ^^^ jb) * (-7046029254386353131 : Int64)) ^^^ (((((((0 : Int64) ^^^ ja) * (-7046029254386353131 : Int64)) ^^^ jb) * (-7046029254386353131 : Int64)).toUInt64 >>> ((32 : Int32) &&& 0x3f).toInt64.toUInt64).toInt64)))])) _
    refine X2.ldc2Long hx hown (mvT hZ (hw _ (List.mem_of_getElem? (i := 16) rfl))) (g := (mkF m 54 #[.val (.long ja), .second, .val (.long jb), .second, .val (.long jc), .second, .val (.int jn), .val (.long (((((0 : Int64) ^^^ ja) * (-7046029254386353131 : Int64)) ^^^ jb) * (-7046029254386353131 : Int64))), .second, .unset, .unset] [(.long ((((((0 : Int64) ^^^ ja) * (-7046029254386353131 : Int64)) ^^^ jb) * (-7046029254386353131 : Int64)) ^^^ (((((((0 : Int64) ^^^ ja) * (-7046029254386353131 : Int64)) ^^^ jb) * (-7046029254386353131 : Int64)).toUInt64 >>> ((32 : Int32) &&& 0x3f).toInt64.toUInt64).toInt64)))])) rfl (hb hby d3c_54) _ ?_
    show Steps p.tables e below (T2.setTop (mkF m 57 #[.val (.long ja), .second, .val (.long jb), .second, .val (.long jc), .second, .val (.int jn), .val (.long (((((0 : Int64) ^^^ ja) * (-7046029254386353131 : Int64)) ^^^ jb) * (-7046029254386353131 : Int64))), .second, .unset, .unset] [(.long (-2960836687051489901 : Int64)), (.long ((((((0 : Int64) ^^^ ja) * (-7046029254386353131 : Int64)) ^^^ jb) * (-7046029254386353131 : Int64)) ^^^ (((((((0 : Int64) ^^^ ja) * (-7046029254386353131 : Int64)) ^^^ jb) * (-7046029254386353131 : Int64)).toUInt64 >>> ((32 : Int32) &&& 0x3f).toInt64.toUInt64).toInt64)))])) _
    refine XS.lmul X2.here hx rfl (hb hby d3c_57) rfl ?_
    show Steps p.tables e below (T2.setTop (mkF m 58 #[.val (.long ja), .second, .val (.long jb), .second, .val (.long jc), .second, .val (.int jn), .val (.long (((((0 : Int64) ^^^ ja) * (-7046029254386353131 : Int64)) ^^^ jb) * (-7046029254386353131 : Int64))), .second, .unset, .unset] [(.long (((((((0 : Int64) ^^^ ja) * (-7046029254386353131 : Int64)) ^^^ jb) * (-7046029254386353131 : Int64)) ^^^ (((((((0 : Int64) ^^^ ja) * (-7046029254386353131 : Int64)) ^^^ jb) * (-7046029254386353131 : Int64)).toUInt64 >>> ((32 : Int32) &&& 0x3f).toInt64.toUInt64).toInt64)) * (-2960836687051489901 : Int64)))])) _
    refine XS.lstore X2.here hx rfl (hb hby d3c_58) rfl (l' := #[.val (.long ja), .second, .val (.long jb), .second, .val (.long jc), .second, .val (.int jn), .val (.long (((((0 : Int64) ^^^ ja) * (-7046029254386353131 : Int64)) ^^^ jb) * (-7046029254386353131 : Int64))), .second, .val (.long (((((((0 : Int64) ^^^ ja) * (-7046029254386353131 : Int64)) ^^^ jb) * (-7046029254386353131 : Int64)) ^^^ (((((((0 : Int64) ^^^ ja) * (-7046029254386353131 : Int64)) ^^^ jb) * (-7046029254386353131 : Int64)).toUInt64 >>> ((32 : Int32) &&& 0x3f).toInt64.toUInt64).toInt64)) * (-2960836687051489901 : Int64))), .second]) rfl ?_
    show Steps p.tables e below (T2.setTop (mkF m 60 #[.val (.long ja), .second, .val (.long jb), .second, .val (.long jc), .second, .val (.int jn), .val (.long (((((0 : Int64) ^^^ ja) * (-7046029254386353131 : Int64)) ^^^ jb) * (-7046029254386353131 : Int64))), .second, .val (.long (((((((0 : Int64) ^^^ ja) * (-7046029254386353131 : Int64)) ^^^ jb) * (-7046029254386353131 : Int64)) ^^^ (((((((0 : Int64) ^^^ ja) * (-7046029254386353131 : Int64)) ^^^ jb) * (-7046029254386353131 : Int64)).toUInt64 >>> ((32 : Int32) &&& 0x3f).toInt64.toUInt64).toInt64)) * (-2960836687051489901 : Int64))), .second] [])) _
    refine XS.lload X2.here hx rfl (hb hby d3c_60) rfl ?_
    show Steps p.tables e below (T2.setTop (mkF m 62 #[.val (.long ja), .second, .val (.long jb), .second, .val (.long jc), .second, .val (.int jn), .val (.long (((((0 : Int64) ^^^ ja) * (-7046029254386353131 : Int64)) ^^^ jb) * (-7046029254386353131 : Int64))), .second, .val (.long (((((((0 : Int64) ^^^ ja) * (-7046029254386353131 : Int64)) ^^^ jb) * (-7046029254386353131 : Int64)) ^^^ (((((((0 : Int64) ^^^ ja) * (-7046029254386353131 : Int64)) ^^^ jb) * (-7046029254386353131 : Int64)).toUInt64 >>> ((32 : Int32) &&& 0x3f).toInt64.toUInt64).toInt64)) * (-2960836687051489901 : Int64))), .second] [(.long (((((((0 : Int64) ^^^ ja) * (-7046029254386353131 : Int64)) ^^^ jb) * (-7046029254386353131 : Int64)) ^^^ (((((((0 : Int64) ^^^ ja) * (-7046029254386353131 : Int64)) ^^^ jb) * (-7046029254386353131 : Int64)).toUInt64 >>> ((32 : Int32) &&& 0x3f).toInt64.toUInt64).toInt64)) * (-2960836687051489901 : Int64)))])) _
    refine XS.lload X2.here hx rfl (hb hby d3c_62) rfl ?_
    show Steps p.tables e below (T2.setTop (mkF m 64 #[.val (.long ja), .second, .val (.long jb), .second, .val (.long jc), .second, .val (.int jn), .val (.long (((((0 : Int64) ^^^ ja) * (-7046029254386353131 : Int64)) ^^^ jb) * (-7046029254386353131 : Int64))), .second, .val (.long (((((((0 : Int64) ^^^ ja) * (-7046029254386353131 : Int64)) ^^^ jb) * (-7046029254386353131 : Int64)) ^^^ (((((((0 : Int64) ^^^ ja) * (-7046029254386353131 : Int64)) ^^^ jb) * (-7046029254386353131 : Int64)).toUInt64 >>> ((32 : Int32) &&& 0x3f).toInt64.toUInt64).toInt64)) * (-2960836687051489901 : Int64))), .second] [(.long (((((((0 : Int64) ^^^ ja) * (-7046029254386353131 : Int64)) ^^^ jb) * (-7046029254386353131 : Int64)) ^^^ (((((((0 : Int64) ^^^ ja) * (-7046029254386353131 : Int64)) ^^^ jb) * (-7046029254386353131 : Int64)).toUInt64 >>> ((32 : Int32) &&& 0x3f).toInt64.toUInt64).toInt64)) * (-2960836687051489901 : Int64))), (.long (((((((0 : Int64) ^^^ ja) * (-7046029254386353131 : Int64)) ^^^ jb) * (-7046029254386353131 : Int64)) ^^^ (((((((0 : Int64) ^^^ ja) * (-7046029254386353131 : Int64)) ^^^ jb) * (-7046029254386353131 : Int64)).toUInt64 >>> ((32 : Int32) &&& 0x3f).toInt64.toUInt64).toInt64)) * (-2960836687051489901 : Int64)))])) _
    refine XS.bipush X2.here hx rfl (hb hby d3c_64) ?_
    show Steps p.tables e below (T2.setTop (mkF m 66 #[.val (.long ja), .second, .val (.long jb), .second, .val (.long jc), .second, .val (.int jn), .val (.long (((((0 : Int64) ^^^ ja) * (-7046029254386353131 : Int64)) ^^^ jb) * (-7046029254386353131 : Int64))), .second, .val (.long (((((((0 : Int64) ^^^ ja) * (-7046029254386353131 : Int64)) ^^^ jb) * (-7046029254386353131 : Int64)) ^^^ (((((((0 : Int64) ^^^ ja) * (-7046029254386353131 : Int64)) ^^^ jb) * (-7046029254386353131 : Int64)).toUInt64 >>> ((32 : Int32) &&& 0x3f).toInt64.toUInt64).toInt64)) * (-2960836687051489901 : Int64))), .second] [(.int (32 : Int32)), (.long (((((((0 : Int64) ^^^ ja) * (-7046029254386353131 : Int64)) ^^^ jb) * (-7046029254386353131 : Int64)) ^^^ (((((((0 : Int64) ^^^ ja) * (-7046029254386353131 : Int64)) ^^^ jb) * (-7046029254386353131 : Int64)).toUInt64 >>> ((32 : Int32) &&& 0x3f).toInt64.toUInt64).toInt64)) * (-2960836687051489901 : Int64))), (.long (((((((0 : Int64) ^^^ ja) * (-7046029254386353131 : Int64)) ^^^ jb) * (-7046029254386353131 : Int64)) ^^^ (((((((0 : Int64) ^^^ ja) * (-7046029254386353131 : Int64)) ^^^ jb) * (-7046029254386353131 : Int64)).toUInt64 >>> ((32 : Int32) &&& 0x3f).toInt64.toUInt64).toInt64)) * (-2960836687051489901 : Int64)))])) _
    refine XS.lushr X2.here hx rfl (hb hby d3c_66) rfl ?_
    show Steps p.tables e below (T2.setTop (mkF m 67 #[.val (.long ja), .second, .val (.long jb), .second, .val (.long jc), .second, .val (.int jn), .val (.long (((((0 : Int64) ^^^ ja) * (-7046029254386353131 : Int64)) ^^^ jb) * (-7046029254386353131 : Int64))), .second, .val (.long (((((((0 : Int64) ^^^ ja) * (-7046029254386353131 : Int64)) ^^^ jb) * (-7046029254386353131 : Int64)) ^^^ (((((((0 : Int64) ^^^ ja) * (-7046029254386353131 : Int64)) ^^^ jb) * (-7046029254386353131 : Int64)).toUInt64 >>> ((32 : Int32) &&& 0x3f).toInt64.toUInt64).toInt64)) * (-2960836687051489901 : Int64))), .second] [(.long (((((((((0 : Int64) ^^^ ja) * (-7046029254386353131 : Int64)) ^^^ jb) * (-7046029254386353131 : Int64)) ^^^ (((((((0 : Int64) ^^^ ja) * (-7046029254386353131 : Int64)) ^^^ jb) * (-7046029254386353131 : Int64)).toUInt64 >>> ((32 : Int32) &&& 0x3f).toInt64.toUInt64).toInt64)) * (-2960836687051489901 : Int64)).toUInt64 >>> ((32 : Int32) &&& 0x3f).toInt64.toUInt64).toInt64)), (.long (((((((0 : Int64) ^^^ ja) * (-7046029254386353131 : Int64)) ^^^ jb) * (-7046029254386353131 : Int64)) ^^^ (((((((0 : Int64) ^^^ ja) * (-7046029254386353131 : Int64)) ^^^ jb) * (-7046029254386353131 : Int64)).toUInt64 >>> ((32 : Int32) &&& 0x3f).toInt64.toUInt64).toInt64)) * (-2960836687051489901 : Int64)))])) _
    refine XS.lxor X2.here hx rfl (hb hby d3c_67) rfl ?_
    show Steps p.tables e below (T2.setTop (mkF m 68 #[.val (.long ja), .second, .val (.long jb), .second, .val (.long jc), .second, .val (.int jn), .val (.long (((((0 : Int64) ^^^ ja) * (-7046029254386353131 : Int64)) ^^^ jb) * (-7046029254386353131 : Int64))), .second, .val (.long (((((((0 : Int64) ^^^ ja) * (-7046029254386353131 : Int64)) ^^^ jb) * (-7046029254386353131 : Int64)) ^^^ (((((((0 : Int64) ^^^ ja) * (-7046029254386353131 : Int64)) ^^^ jb) * (-7046029254386353131 : Int64)).toUInt64 >>> ((32 : Int32) &&& 0x3f).toInt64.toUInt64).toInt64)) * (-2960836687051489901 : Int64))), .second] [(.long ((((((((0 : Int64) ^^^ ja) * (-7046029254386353131 : Int64)) ^^^ jb) * (-7046029254386353131 : Int64)) ^^^ (((((((0 : Int64) ^^^ ja) * (-7046029254386353131 : Int64)) ^^^ jb) * (-7046029254386353131 : Int64)).toUInt64 >>> ((32 : Int32) &&& 0x3f).toInt64.toUInt64).toInt64)) * (-2960836687051489901 : Int64)) ^^^ (((((((((0 : Int64) ^^^ ja) * (-7046029254386353131 : Int64)) ^^^ jb) * (-7046029254386353131 : Int64)) ^^^ (((((((0 : Int64) ^^^ ja) * (-7046029254386353131 : Int64)) ^^^ jb) * (-7046029254386353131 : Int64)).toUInt64 >>> ((32 : Int32) &&& 0x3f).toInt64.toUInt64).toInt64)) * (-2960836687051489901 : Int64)).toUInt64 >>> ((32 : Int32) &&& 0x3f).toInt64.toUInt64).toInt64)))])) _
    refine XS.l2i X2.here hx rfl (hb hby d3c_68) rfl ?_
    show Steps p.tables e below (T2.setTop (mkF m 69 #[.val (.long ja), .second, .val (.long jb), .second, .val (.long jc), .second, .val (.int jn), .val (.long (((((0 : Int64) ^^^ ja) * (-7046029254386353131 : Int64)) ^^^ jb) * (-7046029254386353131 : Int64))), .second, .val (.long (((((((0 : Int64) ^^^ ja) * (-7046029254386353131 : Int64)) ^^^ jb) * (-7046029254386353131 : Int64)) ^^^ (((((((0 : Int64) ^^^ ja) * (-7046029254386353131 : Int64)) ^^^ jb) * (-7046029254386353131 : Int64)).toUInt64 >>> ((32 : Int32) &&& 0x3f).toInt64.toUInt64).toInt64)) * (-2960836687051489901 : Int64))), .second] [(.int (((((((((0 : Int64) ^^^ ja) * (-7046029254386353131 : Int64)) ^^^ jb) * (-7046029254386353131 : Int64)) ^^^ (((((((0 : Int64) ^^^ ja) * (-7046029254386353131 : Int64)) ^^^ jb) * (-7046029254386353131 : Int64)).toUInt64 >>> ((32 : Int32) &&& 0x3f).toInt64.toUInt64).toInt64)) * (-2960836687051489901 : Int64)) ^^^ (((((((((0 : Int64) ^^^ ja) * (-7046029254386353131 : Int64)) ^^^ jb) * (-7046029254386353131 : Int64)) ^^^ (((((((0 : Int64) ^^^ ja) * (-7046029254386353131 : Int64)) ^^^ jb) * (-7046029254386353131 : Int64)).toUInt64 >>> ((32 : Int32) &&& 0x3f).toInt64.toUInt64).toInt64)) * (-2960836687051489901 : Int64)).toUInt64 >>> ((32 : Int32) &&& 0x3f).toInt64.toUInt64).toInt64)).toInt32))])) _
    exact retI X2 hx Bd.returns (hb hby d3c_69) hr
  · show Q3c Z ja jb jc jn h0 n0 _ T2.heap _
    rw [e2q]
    exact ⟨rfl, N2, rfl⟩
theorem d1d_0 : decode prog_101_method_19_code 0 = .ok (.lconst 0, 1) := by decide +kernel
theorem d1d_1 : decode prog_101_method_19_code 1 = .ok (.lstore_n 3, 1) := by decide +kernel
theorem d1d_2 : decode prog_101_method_19_code 2 = .ok (.iload_n 1, 1) := by decide +kernel
theorem d1d_3 : decode prog_101_method_19_code 3 = .ok (.istore 5, 2) := by decide +kernel
theorem d1d_5 : decode prog_101_method_19_code 5 = .ok (.iload 5, 2) := by decide +kernel
theorem d1d_7 : decode prog_101_method_19_code 7 = .ok (.iload_n 2, 1) := by decide +kernel
theorem d1d_8 : decode prog_101_method_19_code 8 = .ok (.if_icmp .ge 20, 3) := by decide +kernel
theorem d1d_11 : decode prog_101_method_19_code 11 = .ok (.lload_n 3, 1) := by decide +kernel
theorem d1d_12 : decode prog_101_method_19_code 12 = .ok (.aload_n 0, 1) := by decide +kernel
theorem d1d_13 : decode prog_101_method_19_code 13 = .ok (.iload 5, 2) := by decide +kernel
theorem d1d_15 : decode prog_101_method_19_code 15 = .ok (.laload, 1) := by decide +kernel
theorem d1d_16 : decode prog_101_method_19_code 16 = .ok (.lxor, 1) := by decide +kernel
theorem d1d_17 : decode prog_101_method_19_code 17 = .ok (.ldc2_w 116, 3) := by decide +kernel
theorem d1d_20 : decode prog_101_method_19_code 20 = .ok (.lmul, 1) := by decide +kernel
theorem d1d_21 : decode prog_101_method_19_code 21 = .ok (.lstore_n 3, 1) := by decide +kernel
theorem d1d_22 : decode prog_101_method_19_code 22 = .ok (.iinc 5 1, 3) := by decide +kernel
theorem d1d_25 : decode prog_101_method_19_code 25 = .ok (.goto (-20), 3) := by decide +kernel
theorem d1d_28 : decode prog_101_method_19_code 28 = .ok (.lload_n 3, 1) := by decide +kernel
theorem d1d_29 : decode prog_101_method_19_code 29 = .ok (.lload_n 3, 1) := by decide +kernel
theorem d1d_30 : decode prog_101_method_19_code 30 = .ok (.bipush 32, 2) := by decide +kernel
theorem d1d_32 : decode prog_101_method_19_code 32 = .ok (.lushr, 1) := by decide +kernel
theorem d1d_33 : decode prog_101_method_19_code 33 = .ok (.lxor, 1) := by decide +kernel
theorem d1d_34 : decode prog_101_method_19_code 34 = .ok (.ldc2_w 118, 3) := by decide +kernel
theorem d1d_37 : decode prog_101_method_19_code 37 = .ok (.lmul, 1) := by decide +kernel
theorem d1d_38 : decode prog_101_method_19_code 38 = .ok (.lstore_n 3, 1) := by decide +kernel
theorem d1d_39 : decode prog_101_method_19_code 39 = .ok (.lload_n 3, 1) := by decide +kernel
theorem d1d_40 : decode prog_101_method_19_code 40 = .ok (.lload_n 3, 1) := by decide +kernel
theorem d1d_41 : decode prog_101_method_19_code 41 = .ok (.bipush 32, 2) := by decide +kernel
theorem d1d_43 : decode prog_101_method_19_code 43 = .ok (.lushr, 1) := by decide +kernel
theorem d1d_44 : decode prog_101_method_19_code 44 = .ok (.lxor, 1) := by decide +kernel
theorem d1d_45 : decode prog_101_method_19_code 45 = .ok (.l2i, 1) := by decide +kernel
theorem d1d_46 : decode prog_101_method_19_code 46 = .ok (.ireturn, 1) := by decide +kernel
theorem ef_1d (m : MethodId) (x0 : Addr) (x1 : Int32) (x2 : Int32) : entryFrame m #[(.ref x0), (.int x1), (.int x2)] 6 = mkF m 0 #[.val (.ref x0), .val (.int x1), .val (.int x2), .unset, .unset, .unset] [] := by first | (simp [entryFrame, mkF, argsToLocals, Value.category]; done) | rfl
def Q1d (Z : State) (o0 : Addr) (i1 : Int32) (i2 : Int32) (cl : Cell) (w0 : Int64) (w1 : Int64) (w2 : Int64) (h0 : Heap) (n0 : Nat) (v : Option Value) (h : Heap) (L : List Loc) : Prop := v = some (.int (((((((((((0 : Int64) ^^^ w0) * (-7046029254386353131 : Int64)) ^^^ w1) * (-7046029254386353131 : Int64)) ^^^ w2) * (-7046029254386353131 : Int64)) ^^^ (((((((((0 : Int64) ^^^ w0) * (-7046029254386353131 : Int64)) ^^^ w1) * (-7046029254386353131 : Int64)) ^^^ w2) * (-7046029254386353131 : Int64)).toUInt64 >>> ((32 : Int32) &&& 0x3f).toInt64.toUInt64).toInt64)) * (-2960836687051489901 : Int64)) ^^^ (((((((((((0 : Int64) ^^^ w0) * (-7046029254386353131 : Int64)) ^^^ w1) * (-7046029254386353131 : Int64)) ^^^ w2) * (-7046029254386353131 : Int64)) ^^^ (((((((((0 : Int64) ^^^ w0) * (-7046029254386353131 : Int64)) ^^^ w1) * (-7046029254386353131 : Int64)) ^^^ w2) * (-7046029254386353131 : Int64)).toUInt64 >>> ((32 : Int32) &&& 0x3f).toInt64.toUInt64).toInt64)) * (-2960836687051489901 : Int64)).toUInt64 >>> ((32 : Int32) &&& 0x3f).toInt64.toUInt64).toInt64)).toInt32)) ∧ Fr n0 L ∧ h = h0
set_option maxRecDepth 65536 in
set_option maxHeartbeats 40000000 in
theorem rm1d (l : Launch) (Z : State) (a0 : Array Value) (hw : ∀ d ∈ tables_1, d.before a0 Z = true) (ws : List Jvm.Cond) (o0 : Addr) (i1 : Int32) (i2 : Int32) (cl : Cell) (w0 : Int64) (w1 : Int64) (w2 : Int64) (h0 : Heap) (n0 : Nat) (Ar : Arr Z h0 o0 cl .long) (hc0 : i1 < i2) (hc1 : (i1 + (1 : Int32)) < i2) (hc2 : ((i1 + (1 : Int32)) + (1 : Int32)) < i2) (hz : ¬ (((i1 + (1 : Int32)) + (1 : Int32)) + (1 : Int32)) < i2) (hin0 : ¬ (i1 < 0 ∨ cl.slots.size ≤ (i1).toNatClampNeg)) (hin1 : ¬ ((i1 + (1 : Int32)) < 0 ∨ cl.slots.size ≤ ((i1 + (1 : Int32))).toNatClampNeg)) (hin2 : ¬ (((i1 + (1 : Int32)) + (1 : Int32)) < 0 ∨ cl.slots.size ≤ (((i1 + (1 : Int32)) + (1 : Int32))).toNatClampNeg)) (hat0 : cl.slots[(i1).toNatClampNeg]? = some (.long w0)) (hat1 : cl.slots[((i1 + (1 : Int32))).toNatClampNeg]? = some (.long w1)) (hat2 : cl.slots[(((i1 + (1 : Int32)) + (1 : Int32))).toNatClampNeg]? = some (.long w2)) :
    MetFree l (⟨"com/example/assured_timing/assuredtiming/simulation/Configuration", "hash", "([JII)I"⟩ : MethodName) (head1 (Jvm.Cond.code (⟨"com/example/assured_timing/assuredtiming/simulation/Configuration", "hash", "([JII)I"⟩ : MethodName) prog_101_method_19_code 6 (some .int) :: ws) ({ frames := 0, cells := 0, slots := 0, locals := 0 } : Room)) (fun a U => a = #[(.ref o0), (.int i1), (.int i2)] ∧ Z.Warmed39 U.vm ∧ U.heap = h0) (fun _ _ _ _ _ => True) (fun _ U o U' => ∃ v L, o = .returned v ∧ Q1d Z o0 i1 i2 cl w0 w1 w2 h0 n0 v U'.heap L ∧ FrameEnd U o U' L ({ frames := 0, cells := 0, slots := 0, locals := 0 } : Room).cells ({ frames := 0, cells := 0, slots := 0, locals := 0 } : Room).slots) := by
  refine MetFree.of_bodySF (plainFor_of_name pn_1) hisR ?_
  intro p e s m args below meth c s₁ Bd hml0 hP hK
  obtain ⟨rfl, hZ, hh⟩ := hP
  have hx := Bd.exec
  have hby := Bd.bytes
  have hml : c.maxLocals = 6 := hml0
  have hown : s.vm.findClass "com/example/assured_timing/assuredtiming/simulation/Configuration" = some m.cls := findClass_of_methodNamed Bd.named
  have hnm := (name_of_methodNamed Bd.named Bd.method).1
  have X0 : Stand p l e ({ frames := 0, cells := 0, slots := 0, locals := 0 } : Room) s m #[(.ref o0), (.int i1), (.int i2)] below meth c s₁ [] 0 0 := Stand.of_body Bd
  have e0 : s₁.heap = h0 := by rw [← hh, Bd.state]; rfl
  have N0 := Fr.nil n0
  have pre0 : ∀ t, Steps p.tables e below (s₁.setTop (mkF m 0 #[.val (.ref o0), .val (.int i1), .val (.int i2), .unset, .unset, .unset] [])) t → Steps p.tables e below (s₁.setTop (entryFrame m #[(.ref o0), (.int i1), (.int i2)] 6)) t := fun t k => castTop (ef_1d m o0 i1 i2) k
  obtain ⟨fs, hr, hrun, hended, hW, hsame⟩ := X0.leave (v := some (.int (((((((((((0 : Int64) ^^^ w0) * (-7046029254386353131 : Int64)) ^^^ w1) * (-7046029254386353131 : Int64)) ^^^ w2) * (-7046029254386353131 : Int64)) ^^^ (((((((((0 : Int64) ^^^ w0) * (-7046029254386353131 : Int64)) ^^^ w1) * (-7046029254386353131 : Int64)) ^^^ w2) * (-7046029254386353131 : Int64)).toUInt64 >>> ((32 : Int32) &&& 0x3f).toInt64.toUInt64).toInt64)) * (-2960836687051489901 : Int64)) ^^^ (((((((((((0 : Int64) ^^^ w0) * (-7046029254386353131 : Int64)) ^^^ w1) * (-7046029254386353131 : Int64)) ^^^ w2) * (-7046029254386353131 : Int64)) ^^^ (((((((((0 : Int64) ^^^ w0) * (-7046029254386353131 : Int64)) ^^^ w1) * (-7046029254386353131 : Int64)) ^^^ w2) * (-7046029254386353131 : Int64)).toUInt64 >>> ((32 : Int32) &&& 0x3f).toInt64.toUInt64).toInt64)) * (-2960836687051489901 : Int64)).toUInt64 >>> ((32 : Int32) &&& 0x3f).toInt64.toUInt64).toInt64)).toInt32))) (fun h => by rw [Bd.returns] at h; cases h)
  refine ⟨_, _, pre0 _ ?_, hrun, hended, _, _, rfl, ?_, ⟨_, rfl⟩, hW, hsame.mono (by decide) (by decide)⟩
  · show Steps p.tables e below (s₁.setTop (mkF m 0 #[.val (.ref o0), .val (.int i1), .val (.int i2), .unset, .unset, .unset] [])) _
    refine XS.lconst X0.here hx rfl (hb hby d1d_0) ?_
    show Steps p.tables e below (s₁.setTop (mkF m 1 #[.val (.ref o0), .val (.int i1), .val (.int i2), .unset, .unset, .unset] [(.long (0 : Int64))])) _
    refine XS.lstoreN X0.here hx rfl (hb hby d1d_1) rfl (l' := #[.val (.ref o0), .val (.int i1), .val (.int i2), .val (.long (0 : Int64)), .second, .unset]) rfl ?_
    show Steps p.tables e below (s₁.setTop (mkF m 2 #[.val (.ref o0), .val (.int i1), .val (.int i2), .val (.long (0 : Int64)), .second, .unset] [])) _
    refine XS.iloadN X0.here hx rfl (hb hby d1d_2) rfl ?_
    show Steps p.tables e below (s₁.setTop (mkF m 3 #[.val (.ref o0), .val (.int i1), .val (.int i2), .val (.long (0 : Int64)), .second, .unset] [(.int i1)])) _
    refine XS.istore X0.here hx rfl (hb hby d1d_3) rfl (l' := #[.val (.ref o0), .val (.int i1), .val (.int i2), .val (.long (0 : Int64)), .second, .val (.int i1)]) rfl ?_
    show Steps p.tables e below (s₁.setTop (mkF m 5 #[.val (.ref o0), .val (.int i1), .val (.int i2), .val (.long (0 : Int64)), .second, .val (.int i1)] [])) _
    refine XS.iload X0.here hx rfl (hb hby d1d_5) rfl ?_
    show Steps p.tables e below (s₁.setTop (mkF m 7 #[.val (.ref o0), .val (.int i1), .val (.int i2), .val (.long (0 : Int64)), .second, .val (.int i1)] [(.int i1)])) _
    refine XS.iloadN X0.here hx rfl (hb hby d1d_7) rfl ?_
    show Steps p.tables e below (s₁.setTop (mkF m 8 #[.val (.ref o0), .val (.int i1), .val (.int i2), .val (.long (0 : Int64)), .second, .val (.int i1)] [(.int i2), (.int i1)])) _
    refine XS.icmpNo X0.here hx rfl (hb hby d1d_8) rfl (tlt hc0).2.1 ?_
    show Steps p.tables e below (s₁.setTop (mkF m 11 #[.val (.ref o0), .val (.int i1), .val (.int i2), .val (.long (0 : Int64)), .second, .val (.int i1)] [])) _
    refine XS.lloadN X0.here hx rfl (hb hby d1d_11) rfl ?_
    show Steps p.tables e below (s₁.setTop (mkF m 12 #[.val (.ref o0), .val (.int i1), .val (.int i2), .val (.long (0 : Int64)), .second, .val (.int i1)] [(.long (0 : Int64))])) _
    refine XS.aloadN X0.here hx rfl (hb hby d1d_12) rfl rfl ?_
    show Steps p.tables e below (s₁.setTop (mkF m 13 #[.val (.ref o0), .val (.int i1), .val (.int i2), .val (.long (0 : Int64)), .second, .val (.int i1)] [(.ref o0), (.long (0 : Int64))])) _
    refine XS.iload X0.here hx rfl (hb hby d1d_13) rfl ?_
    show Steps p.tables e below (s₁.setTop (mkF m 15 #[.val (.ref o0), .val (.int i1), .val (.int i2), .val (.long (0 : Int64)), .second, .val (.int i1)] [(.int i1), (.ref o0), (.long (0 : Int64))])) _
    refine X0.laload hx (j := i1) (v := (.long w0)) (by rw [e0]; exact Ar.1) (State.isArrayOf_alike hZ.alike Ar.2.1) Ar.2.2 hin0 hat0 (g := (mkF m 15 #[.val (.ref o0), .val (.int i1), .val (.int i2), .val (.long (0 : Int64)), .second, .val (.int i1)] [(.int i1), (.ref o0), (.long (0 : Int64))])) rfl rfl (hb hby d1d_15) _ ?_
    show Steps p.tables e below (s₁.setTop (mkF m 16 #[.val (.ref o0), .val (.int i1), .val (.int i2), .val (.long (0 : Int64)), .second, .val (.int i1)] [(.long w0), (.long (0 : Int64))])) _
    refine XS.lxor X0.here hx rfl (hb hby d1d_16) rfl ?_
    show Steps p.tables e below (s₁.setTop (mkF m 17 #[.val (.ref o0), .val (.int i1), .val (.int i2), .val (.long (0 : Int64)), .second, .val (.int i1)] [(.long ((0 : Int64) ^^^ w0))])) _
    refine X0.ldc2Long hx hown (mvT hZ (hw _ (List.mem_of_getElem? (i := 6) rfl))) (g := (mkF m 17 #[.val (.ref o0), .val (.int i1), .val (.int i2), .val (.long (0 : Int64)), .second, .val (.int i1)] [(.long ((0 : Int64) ^^^ w0))])) rfl (hb hby d1d_17) _ ?_
    show Steps p.tables e below (s₁.setTop (mkF m 20 #[.val (.ref o0), .val (.int i1), .val (.int i2), .val (.long (0 : Int64)), .second, .val (.int i1)] [(.long (-7046029254386353131 : Int64)), (.long ((0 : Int64) ^^^ w0))])) _
    refine XS.lmul X0.here hx rfl (hb hby d1d_20) rfl ?_
    show Steps p.tables e below (s₁.setTop (mkF m 21 #[.val (.ref o0), .val (.int i1), .val (.int i2), .val (.long (0 : Int64)), .second, .val (.int i1)] [(.long (((0 : Int64) ^^^ w0) * (-7046029254386353131 : Int64)))])) _
    refine XS.lstoreN X0.here hx rfl (hb hby d1d_21) rfl (l' := #[.val (.ref o0), .val (.int i1), .val (.int i2), .val (.long (((0 : Int64) ^^^ w0) * (-7046029254386353131 : Int64))), .second, .val (.int i1)]) rfl ?_
    show Steps p.tables e below (s₁.setTop (mkF m 22 #[.val (.ref o0), .val (.int i1), .val (.int i2), .val (.long (((0 : Int64) ^^^ w0) * (-7046029254386353131 : Int64))), .second, .val (.int i1)] [])) _
    refine XS.iinc X0.here hx rfl (hb hby d1d_22) rfl (l' := #[.val (.ref o0), .val (.int i1), .val (.int i2), .val (.long (((0 : Int64) ^^^ w0) * (-7046029254386353131 : Int64))), .second, .val (.int (i1 + (1 : Int32)))]) rfl ?_
    show Steps p.tables e below (s₁.setTop (mkF m 25 #[.val (.ref o0), .val (.int i1), .val (.int i2), .val (.long (((0 : Int64) ^^^ w0) * (-7046029254386353131 : Int64))), .second, .val (.int (i1 + (1 : Int32)))] [])) _
    refine XS.goto X0.here hx rfl (pc0 := 25) (pc' := 5) rfl (hb hby d1d_25) (by decide) (by decide) ?_
    show Steps p.tables e below (s₁.setTop (mkF m 5 #[.val (.ref o0), .val (.int i1), .val (.int i2), .val (.long (((0 : Int64) ^^^ w0) * (-7046029254386353131 : Int64))), .second, .val (.int (i1 + (1 : Int32)))] [])) _
    refine XS.iload X0.here hx rfl (hb hby d1d_5) rfl ?_
    show Steps p.tables e below (s₁.setTop (mkF m 7 #[.val (.ref o0), .val (.int i1), .val (.int i2), .val (.long (((0 : Int64) ^^^ w0) * (-7046029254386353131 : Int64))), .second, .val (.int (i1 + (1 : Int32)))] [(.int (i1 + (1 : Int32)))])) _
    refine XS.iloadN X0.here hx rfl (hb hby d1d_7) rfl ?_
    show Steps p.tables e below (s₁.setTop (mkF m 8 #[.val (.ref o0), .val (.int i1), .val (.int i2), .val (.long (((0 : Int64) ^^^ w0) * (-7046029254386353131 : Int64))), .second, .val (.int (i1 + (1 : Int32)))] [(.int i2), (.int (i1 + (1 : Int32)))])) _
    refine XS.icmpNo X0.here hx rfl (hb hby d1d_8) rfl (tlt hc1).2.1 ?_
    show Steps p.tables e below (s₁.setTop (mkF m 11 #[.val (.ref o0), .val (.int i1), .val (.int i2), .val (.long (((0 : Int64) ^^^ w0) * (-7046029254386353131 : Int64))), .second, .val (.int (i1 + (1 : Int32)))] [])) _
    refine XS.lloadN X0.here hx rfl (hb hby d1d_11) rfl ?_
    show Steps p.tables e below (s₁.setTop (mkF m 12 #[.val (.ref o0), .val (.int i1), .val (.int i2), .val (.long (((0 : Int64) ^^^ w0) * (-7046029254386353131 : Int64))), .second, .val (.int (i1 + (1 : Int32)))] [(.long (((0 : Int64) ^^^ w0) * (-7046029254386353131 : Int64)))])) _
    refine XS.aloadN X0.here hx rfl (hb hby d1d_12) rfl rfl ?_
    show Steps p.tables e below (s₁.setTop (mkF m 13 #[.val (.ref o0), .val (.int i1), .val (.int i2), .val (.long (((0 : Int64) ^^^ w0) * (-7046029254386353131 : Int64))), .second, .val (.int (i1 + (1 : Int32)))] [(.ref o0), (.long (((0 : Int64) ^^^ w0) * (-7046029254386353131 : Int64)))])) _
    refine XS.iload X0.here hx rfl (hb hby d1d_13) rfl ?_
    show Steps p.tables e below (s₁.setTop (mkF m 15 #[.val (.ref o0), .val (.int i1), .val (.int i2), .val (.long (((0 : Int64) ^^^ w0) * (-7046029254386353131 : Int64))), .second, .val (.int (i1 + (1 : Int32)))] [(.int (i1 + (1 : Int32))), (.ref o0), (.long (((0 : Int64) ^^^ w0) * (-7046029254386353131 : Int64)))])) _
    refine X0.laload hx (j := (i1 + (1 : Int32))) (v := (.long w1)) (by rw [e0]; exact Ar.1) (State.isArrayOf_alike hZ.alike Ar.2.1) Ar.2.2 hin1 hat1 (g := (mkF m 15 #[.val (.ref o0), .val (.int i1), .val (.int i2), .val (.long (((0 : Int64) ^^^ w0) * (-7046029254386353131 : Int64))), .second, .val (.int (i1 + (1 : Int32)))] [(.int (i1 + (1 : Int32))), (.ref o0), (.long (((0 : Int64) ^^^ w0) * (-7046029254386353131 : Int64)))])) rfl rfl (hb hby d1d_15) _ ?_
    show Steps p.tables e below (s₁.setTop (mkF m 16 #[.val (.ref o0), .val (.int i1), .val (.int i2), .val (.long (((0 : Int64) ^^^ w0) * (-7046029254386353131 : Int64))), .second, .val (.int (i1 + (1 : Int32)))] [(.long w1), (.long (((0 : Int64) ^^^ w0) * (-7046029254386353131 : Int64)))])) _
    refine XS.lxor X0.here hx rfl (hb hby d1d_16) rfl ?_
    show Steps p.tables e below (s₁.setTop (mkF m 17 #[.val (.ref o0), .val (.int i1), .val (.int i2), .val (.long (((0 : Int64) ^^^ w0) * (-7046029254386353131 : Int64))), .second, .val (.int (i1 + (1 : Int32)))] [(.long ((((0 : Int64) ^^^ w0) * (-7046029254386353131 : Int64)) ^^^ w1))])) _
    refine X0.ldc2Long hx hown (mvT hZ (hw _ (List.mem_of_getElem? (i := 6) rfl))) (g := (mkF m 17 #[.val (.ref o0), .val (.int i1), .val (.int i2), .val (.long (((0 : Int64) ^^^ w0) * (-7046029254386353131 : Int64))), .second, .val (.int (i1 + (1 : Int32)))] [(.long ((((0 : Int64) ^^^ w0) * (-7046029254386353131 : Int64)) ^^^ w1))])) rfl (hb hby d1d_17) _ ?_
    show Steps p.tables e below (s₁.setTop (mkF m 20 #[.val (.ref o0), .val (.int i1), .val (.int i2), .val (.long (((0 : Int64) ^^^ w0) * (-7046029254386353131 : Int64))), .second, .val (.int (i1 + (1 : Int32)))] [(.long (-7046029254386353131 : Int64)), (.long ((((0 : Int64) ^^^ w0) * (-7046029254386353131 : Int64)) ^^^ w1))])) _
    refine XS.lmul X0.here hx rfl (hb hby d1d_20) rfl ?_
    show Steps p.tables e below (s₁.setTop (mkF m 21 #[.val (.ref o0), .val (.int i1), .val (.int i2), .val (.long (((0 : Int64) ^^^ w0) * (-7046029254386353131 : Int64))), .second, .val (.int (i1 + (1 : Int32)))] [(.long (((((0 : Int64) ^^^ w0) * (-7046029254386353131 : Int64)) ^^^ w1) * (-7046029254386353131 : Int64)))])) _
    refine XS.lstoreN X0.here hx rfl (hb hby d1d_21) rfl (l' := #[.val (.ref o0), .val (.int i1), .val (.int i2), .val (.long (((((0 : Int64) ^^^ w0) * (-7046029254386353131 : Int64)) ^^^ w1) * (-7046029254386353131 : Int64))), .second, .val (.int (i1 + (1 : Int32)))]) rfl ?_
    show Steps p.tables e below (s₁.setTop (mkF m 22 #[.val (.ref o0), .val (.int i1), .val (.int i2), .val (.long (((((0 : Int64) ^^^ w0) * (-7046029254386353131 : Int64)) ^^^ w1) * (-7046029254386353131 : Int64))), .second, .val (.int (i1 + (1 : Int32)))] [])) _
    refine XS.iinc X0.here hx rfl (hb hby d1d_22) rfl (l' := #[.val (.ref o0), .val (.int i1), .val (.int i2), .val (.long (((((0 : Int64) ^^^ w0) * (-7046029254386353131 : Int64)) ^^^ w1) * (-7046029254386353131 : Int64))), .second, .val (.int ((i1 + (1 : Int32)) + (1 : Int32)))]) rfl ?_
    show Steps p.tables e below (s₁.setTop (mkF m 25 #[.val (.ref o0), .val (.int i1), .val (.int i2), .val (.long (((((0 : Int64) ^^^ w0) * (-7046029254386353131 : Int64)) ^^^ w1) * (-7046029254386353131 : Int64))), .second, .val (.int ((i1 + (1 : Int32)) + (1 : Int32)))] [])) _
    refine XS.goto X0.here hx rfl (pc0 := 25) (pc' := 5) rfl (hb hby d1d_25) (by decide) (by decide) ?_
    show Steps p.tables e below (s₁.setTop (mkF m 5 #[.val (.ref o0), .val (.int i1), .val (.int i2), .val (.long (((((0 : Int64) ^^^ w0) * (-7046029254386353131 : Int64)) ^^^ w1) * (-7046029254386353131 : Int64))), .second, .val (.int ((i1 + (1 : Int32)) + (1 : Int32)))] [])) _
    refine XS.iload X0.here hx rfl (hb hby d1d_5) rfl ?_
    show Steps p.tables e below (s₁.setTop (mkF m 7 #[.val (.ref o0), .val (.int i1), .val (.int i2), .val (.long (((((0 : Int64) ^^^ w0) * (-7046029254386353131 : Int64)) ^^^ w1) * (-7046029254386353131 : Int64))), .second, .val (.int ((i1 + (1 : Int32)) + (1 : Int32)))] [(.int ((i1 + (1 : Int32)) + (1 : Int32)))])) _
    refine XS.iloadN X0.here hx rfl (hb hby d1d_7) rfl ?_
    show Steps p.tables e below (s₁.setTop (mkF m 8 #[.val (.ref o0), .val (.int i1), .val (.int i2), .val (.long (((((0 : Int64) ^^^ w0) * (-7046029254386353131 : Int64)) ^^^ w1) * (-7046029254386353131 : Int64))), .second, .val (.int ((i1 + (1 : Int32)) + (1 : Int32)))] [(.int i2), (.int ((i1 + (1 : Int32)) + (1 : Int32)))])) _
    refine XS.icmpNo X0.here hx rfl (hb hby d1d_8) rfl (tlt hc2).2.1 ?_
    show Steps p.tables e below (s₁.setTop (mkF m 11 #[.val (.ref o0), .val (.int i1), .val (.int i2), .val (.long (((((0 : Int64) ^^^ w0) * (-7046029254386353131 : Int64)) ^^^ w1) * (-7046029254386353131 : Int64))), .second, .val (.int ((i1 + (1 : Int32)) + (1 : Int32)))] [])) _
    refine XS.lloadN X0.here hx rfl (hb hby d1d_11) rfl ?_
    show Steps p.tables e below (s₁.setTop (mkF m 12 #[.val (.ref o0), .val (.int i1), .val (.int i2), .val (.long (((((0 : Int64) ^^^ w0) * (-7046029254386353131 : Int64)) ^^^ w1) * (-7046029254386353131 : Int64))), .second, .val (.int ((i1 + (1 : Int32)) + (1 : Int32)))] [(.long (((((0 : Int64) ^^^ w0) * (-7046029254386353131 : Int64)) ^^^ w1) * (-7046029254386353131 : Int64)))])) _
    refine XS.aloadN X0.here hx rfl (hb hby d1d_12) rfl rfl ?_
    show Steps p.tables e below (s₁.setTop (mkF m 13 #[.val (.ref o0), .val (.int i1), .val (.int i2), .val (.long (((((0 : Int64) ^^^ w0) * (-7046029254386353131 : Int64)) ^^^ w1) * (-7046029254386353131 : Int64))), .second, .val (.int ((i1 + (1 : Int32)) + (1 : Int32)))] [(.ref o0), (.long (((((0 : Int64) ^^^ w0) * (-7046029254386353131 : Int64)) ^^^ w1) * (-7046029254386353131 : Int64)))])) _
    refine XS.iload X0.here hx rfl (hb hby d1d_13) rfl ?_
    show Steps p.tables e below (s₁.setTop (mkF m 15 #[.val (.ref o0), .val (.int i1), .val (.int i2), .val (.long (((((0 : Int64) ^^^ w0) * (-7046029254386353131 : Int64)) ^^^ w1) * (-7046029254386353131 : Int64))), .second, .val (.int ((i1 + (1 : Int32)) + (1 : Int32)))] [(.int ((i1 + (1 : Int32)) + (1 : Int32))), (.ref o0), (.long (((((0 : Int64) ^^^ w0) * (-7046029254386353131 : Int64)) ^^^ w1) * (-7046029254386353131 : Int64)))])) _
    refine X0.laload hx (j := ((i1 + (1 : Int32)) + (1 : Int32))) (v := (.long w2)) (by rw [e0]; exact Ar.1) (State.isArrayOf_alike hZ.alike Ar.2.1) Ar.2.2 hin2 hat2 (g := (mkF m 15 #[.val (.ref o0), .val (.int i1), .val (.int i2), .val (.long (((((0 : Int64) ^^^ w0) * (-7046029254386353131 : Int64)) ^^^ w1) * (-7046029254386353131 : Int64))), .second, .val (.int ((i1 + (1 : Int32)) + (1 : Int32)))] [(.int ((i1 + (1 : Int32)) + (1 : Int32))), (.ref o0), (.long (((((0 : Int64) ^^^ w0) * (-7046029254386353131 : Int64)) ^^^ w1) * (-7046029254386353131 : Int64)))])) rfl rfl (hb hby d1d_15) _ ?_
    show Steps p.tables e below (s₁.setTop (mkF m 16 #[.val (.ref o0), .val (.int i1), .val (.int i2), .val (.long (((((0 : Int64) ^^^ w0) * (-7046029254386353131 : Int64)) ^^^ w1) * (-7046029254386353131 : Int64))), .second, .val (.int ((i1 + (1 : Int32)) + (1 : Int32)))] [(.long w2), (.long (((((0 : Int64) ^^^ w0) * (-7046029254386353131 : Int64)) ^^^ w1) * (-7046029254386353131 : Int64)))])) _
    refine XS.lxor X0.here hx rfl (hb hby d1d_16) rfl ?_
    show Steps p.tables e below (s₁.setTop (mkF m 17 #[.val (.ref o0), .val (.int i1), .val (.int i2), .val (.long (((((0 : Int64) ^^^ w0) * (-7046029254386353131 : Int64)) ^^^ w1) * (-7046029254386353131 : Int64))), .second, .val (.int ((i1 + (1 : Int32)) + (1 : Int32)))] [(.long ((((((0 : Int64) ^^^ w0) * (-7046029254386353131 : Int64)) ^^^ w1) * (-7046029254386353131 : Int64)) ^^^ w2))])) _
    refine X0.ldc2Long hx hown (mvT hZ (hw _ (List.mem_of_getElem? (i := 6) rfl))) (g := (mkF m 17 #[.val (.ref o0), .val (.int i1), .val (.int i2), .val (.long (((((0 : Int64) ^^^ w0) * (-7046029254386353131 : Int64)) ^^^ w1) * (-7046029254386353131 : Int64))), .second, .val (.int ((i1 + (1 : Int32)) + (1 : Int32)))] [(.long ((((((0 : Int64) ^^^ w0) * (-7046029254386353131 : Int64)) ^^^ w1) * (-7046029254386353131 : Int64)) ^^^ w2))])) rfl (hb hby d1d_17) _ ?_
    show Steps p.tables e below (s₁.setTop (mkF m 20 #[.val (.ref o0), .val (.int i1), .val (.int i2), .val (.long (((((0 : Int64) ^^^ w0) * (-7046029254386353131 : Int64)) ^^^ w1) * (-7046029254386353131 : Int64))), .second, .val (.int ((i1 + (1 : Int32)) + (1 : Int32)))] [(.long (-7046029254386353131 : Int64)), (.long ((((((0 : Int64) ^^^ w0) * (-7046029254386353131 : Int64)) ^^^ w1) * (-7046029254386353131 : Int64)) ^^^ w2))])) _
    refine XS.lmul X0.here hx rfl (hb hby d1d_20) rfl ?_
    show Steps p.tables e below (s₁.setTop (mkF m 21 #[.val (.ref o0), .val (.int i1), .val (.int i2), .val (.long (((((0 : Int64) ^^^ w0) * (-7046029254386353131 : Int64)) ^^^ w1) * (-7046029254386353131 : Int64))), .second, .val (.int ((i1 + (1 : Int32)) + (1 : Int32)))] [(.long (((((((0 : Int64) ^^^ w0) * (-7046029254386353131 : Int64)) ^^^ w1) * (-7046029254386353131 : Int64)) ^^^ w2) * (-7046029254386353131 : Int64)))])) _
    refine XS.lstoreN X0.here hx rfl (hb hby d1d_21) rfl (l' := #[.val (.ref o0), .val (.int i1), .val (.int i2), .val (.long (((((((0 : Int64) ^^^ w0) * (-7046029254386353131 : Int64)) ^^^ w1) * (-7046029254386353131 : Int64)) ^^^ w2) * (-7046029254386353131 : Int64))), .second, .val (.int ((i1 + (1 : Int32)) + (1 : Int32)))]) rfl ?_
    show Steps p.tables e below (s₁.setTop (mkF m 22 #[.val (.ref o0), .val (.int i1), .val (.int i2), .val (.long (((((((0 : Int64) ^^^ w0) * (-7046029254386353131 : Int64)) ^^^ w1) * (-7046029254386353131 : Int64)) ^^^ w2) * (-7046029254386353131 : Int64))), .second, .val (.int ((i1 + (1 : Int32)) + (1 : Int32)))] [])) _
    refine XS.iinc X0.here hx rfl (hb hby d1d_22) rfl (l' := #[.val (.ref o0), .val (.int i1), .val (.int i2), .val (.long (((((((0 : Int64) ^^^ w0) * (-7046029254386353131 : Int64)) ^^^ w1) * (-7046029254386353131 : Int64)) ^^^ w2) * (-7046029254386353131 : Int64))), .second, .val (.int (((i1 + (1 : Int32)) + (1 : Int32)) + (1 : Int32)))]) rfl ?_
    show Steps p.tables e below (s₁.setTop (mkF m 25 #[.val (.ref o0), .val (.int i1), .val (.int i2), .val (.long (((((((0 : Int64) ^^^ w0) * (-7046029254386353131 : Int64)) ^^^ w1) * (-7046029254386353131 : Int64)) ^^^ w2) * (-7046029254386353131 : Int64))), .second, .val (.int (((i1 + (1 : Int32)) + (1 : Int32)) + (1 : Int32)))] [])) _
    refine XS.goto X0.here hx rfl (pc0 := 25) (pc' := 5) rfl (hb hby d1d_25) (by decide) (by decide) ?_
    show Steps p.tables e below (s₁.setTop (mkF m 5 #[.val (.ref o0), .val (.int i1), .val (.int i2), .val (.long (((((((0 : Int64) ^^^ w0) * (-7046029254386353131 : Int64)) ^^^ w1) * (-7046029254386353131 : Int64)) ^^^ w2) * (-7046029254386353131 : Int64))), .second, .val (.int (((i1 + (1 : Int32)) + (1 : Int32)) + (1 : Int32)))] [])) _
    refine XS.iload X0.here hx rfl (hb hby d1d_5) rfl ?_
    show Steps p.tables e below (s₁.setTop (mkF m 7 #[.val (.ref o0), .val (.int i1), .val (.int i2), .val (.long (((((((0 : Int64) ^^^ w0) * (-7046029254386353131 : Int64)) ^^^ w1) * (-7046029254386353131 : Int64)) ^^^ w2) * (-7046029254386353131 : Int64))), .second, .val (.int (((i1 + (1 : Int32)) + (1 : Int32)) + (1 : Int32)))] [(.int (((i1 + (1 : Int32)) + (1 : Int32)) + (1 : Int32)))])) _
    refine XS.iloadN X0.here hx rfl (hb hby d1d_7) rfl ?_
    show Steps p.tables e below (s₁.setTop (mkF m 8 #[.val (.ref o0), .val (.int i1), .val (.int i2), .val (.long (((((((0 : Int64) ^^^ w0) * (-7046029254386353131 : Int64)) ^^^ w1) * (-7046029254386353131 : Int64)) ^^^ w2) * (-7046029254386353131 : Int64))), .second, .val (.int (((i1 + (1 : Int32)) + (1 : Int32)) + (1 : Int32)))] [(.int i2), (.int (((i1 + (1 : Int32)) + (1 : Int32)) + (1 : Int32)))])) _
    refine XS.icmpYes X0.here hx rfl (pc0 := 8) (pc' := 28) rfl (hb hby d1d_8) rfl (flt hz).2.1 (by decide) (by decide) ?_
    show Steps p.tables e below (s₁.setTop (mkF m 28 #[.val (.ref o0), .val (.int i1), .val (.int i2), .val (.long (((((((0 : Int64) ^^^ w0) * (-7046029254386353131 : Int64)) ^^^ w1) * (-7046029254386353131 : Int64)) ^^^ w2) * (-7046029254386353131 : Int64))), .second, .val (.int (((i1 + (1 : Int32)) + (1 : Int32)) + (1 : Int32)))] [])) _
    refine XS.lloadN X0.here hx rfl (hb hby d1d_28) rfl ?_
    show Steps p.tables e below (s₁.setTop (mkF m 29 #[.val (.ref o0), .val (.int i1), .val (.int i2), .val (.long (((((((0 : Int64) ^^^ w0) * (-7046029254386353131 : Int64)) ^^^ w1) * (-7046029254386353131 : Int64)) ^^^ w2) * (-7046029254386353131 : Int64))), .second, .val (.int (((i1 + (1 : Int32)) + (1 : Int32)) + (1 : Int32)))] [(.long (((((((0 : Int64) ^^^ w0) * (-7046029254386353131 : Int64)) ^^^ w1) * (-7046029254386353131 : Int64)) ^^^ w2) * (-7046029254386353131 : Int64)))])) _
    refine XS.lloadN X0.here hx rfl (hb hby d1d_29) rfl ?_
    show Steps p.tables e below (s₁.setTop (mkF m 30 #[.val (.ref o0), .val (.int i1), .val (.int i2), .val (.long (((((((0 : Int64) ^^^ w0) * (-7046029254386353131 : Int64)) ^^^ w1) * (-7046029254386353131 : Int64)) ^^^ w2) * (-7046029254386353131 : Int64))), .second, .val (.int (((i1 + (1 : Int32)) + (1 : Int32)) + (1 : Int32)))] [(.long (((((((0 : Int64) ^^^ w0) * (-7046029254386353131 : Int64)) ^^^ w1) * (-7046029254386353131 : Int64)) ^^^ w2) * (-7046029254386353131 : Int64))), (.long (((((((0 : Int64) ^^^ w0) * (-7046029254386353131 : Int64)) ^^^ w1) * (-7046029254386353131 : Int64)) ^^^ w2) * (-7046029254386353131 : Int64)))])) _
    refine XS.bipush X0.here hx rfl (hb hby d1d_30) ?_
    show Steps p.tables e below (s₁.setTop (mkF m 32 #[.val (.ref o0), .val (.int i1), .val (.int i2), .val (.long (((((((0 : Int64) ^^^ w0) * (-7046029254386353131 : Int64)) ^^^ w1) * (-7046029254386353131 : Int64)) ^^^ w2) * (-7046029254386353131 : Int64))), .second, .val (.int (((i1 + (1 : Int32)) + (1 : Int32)) + (1 : Int32)))] [(.int (32 : Int32)), (.long (((((((0 : Int64) ^^^ w0) * (-7046029254386353131 : Int64)) ^^^ w1) * (-7046029254386353131 : Int64)) ^^^ w2) * (-7046029254386353131 : Int64))), (.long (((((((0 : Int64) ^^^ w0) * (-7046029254386353131 : Int64)) ^^^ w1) * (-7046029254386353131 : Int64)) ^^^ w2) * (-7046029254386353131 : Int64)))])) _
    refine XS.lushr X0.here hx rfl (hb hby d1d_32) rfl ?_
    show Steps p.tables e below (s₁.setTop (mkF m 33 #[.val (.ref o0), .val (.int i1), .val (.int i2), .val (.long (((((((0 : Int64) ^^^ w0) * (-7046029254386353131 : Int64)) ^^^ w1) * (-7046029254386353131 : Int64)) ^^^ w2) * (-7046029254386353131 : Int64))), .second, .val (.int (((i1 + (1 : Int32)) + (1 : Int32)) + (1 : Int32)))] [(.long (((((((((0 : Int64) ^^^ w0) * (-7046029254386353131 : Int64)) ^^^ w1) * (-7046029254386353131 : Int64)) ^^^ w2) * (-7046029254386353131 : Int64)).toUInt64 >>> ((32 : Int32) &&& 0x3f).toInt64.toUInt64).toInt64)), (.long (((((((0 : Int64) ^^^ w0) * (-7046029254386353131 : Int64)) ^^^ w1) * (-7046029254386353131 : Int64)) ^^^ w2) * (-7046029254386353131 : Int64)))])) _
    refine XS.lxor X0.here hx rfl (hb hby d1d_33) rfl ?_
    show Steps p.tables e below (s₁.setTop (mkF m 34 #[.val (.ref o0), .val (.int i1), .val (.int i2), .val (.long (((((((0 : Int64) ^^^ w0) * (-7046029254386353131 : Int64)) ^^^ w1) * (-7046029254386353131 : Int64)) ^^^ w2) * (-7046029254386353131 : Int64))), .second, .val (.int (((i1 + (1 : Int32)) + (1 : Int32)) + (1 : Int32)))] [(.long ((((((((0 : Int64) ^^^ w0) * (-7046029254386353131 : Int64)) ^^^ w1) * (-7046029254386353131 : Int64)) ^^^ w2) * (-7046029254386353131 : Int64)) ^^^ (((((((((0 : Int64) ^^^ w0) * (-7046029254386353131 : Int64)) ^^^ w1) * (-7046029254386353131 : Int64)) ^^^ w2) * (-7046029254386353131 : Int64)).toUInt64 >>> ((32 : Int32) &&& 0x3f).toInt64.toUInt64).toInt64)))])) _
    refine X0.ldc2Long hx hown (mvT hZ (hw _ (List.mem_of_getElem? (i := 7) rfl))) (g := (mkF m 34 #[.val (.ref o0), .val (.int i1), .val (.int i2), .val (.long (((((((0 : Int64) ^^^ w0) * (-7046029254386353131 : Int64)) ^^^ w1) * (-7046029254386353131 : Int64)) ^^^ w2) * (-7046029254386353131 : Int64))), .second, .val (.int (((i1 + (1 : Int32)) + (1 : Int32)) + (1 : Int32)))] [(.long ((((((((0 : Int64) ^^^ w0) * (-7046029254386353131 : Int64)) ^^^ w1) * (-7046029254386353131 : Int64)) ^^^ w2) * (-7046029254386353131 : Int64)) ^^^ (((((((((0 : Int64) ^^^ w0) * (-7046029254386353131 : Int64)) ^^^ w1) * (-7046029254386353131 : Int64)) ^^^ w2) * (-7046029254386353131 : Int64)).toUInt64 >>> ((32 : Int32) &&& 0x3f).toInt64.toUInt64).toInt64)))])) rfl (hb hby d1d_34) _ ?_
    show Steps p.tables e below (s₁.setTop (mkF m 37 #[.val (.ref o0), .val (.int i1), .val (.int i2), .val (.long (((((((0 : Int64) ^^^ w0) * (-7046029254386353131 : Int64)) ^^^ w1) * (-7046029254386353131 : Int64)) ^^^ w2) * (-7046029254386353131 : Int64))), .second, .val (.int (((i1 + (1 : Int32)) + (1 : Int32)) + (1 : Int32)))] [(.long (-2960836687051489901 : Int64)), (.long ((((((((0 : Int64) ^^^ w0) * (-7046029254386353131 : Int64)) ^^^ w1) * (-7046029254386353131 : Int64)) ^^^ w2) * (-7046029254386353131 : Int64)) ^^^ (((((((((0 : Int64) ^^^ w0) * (-7046029254386353131 : Int64)) ^^^ w1) * (-7046029254386353131 : Int64)) ^^^ w2) * (-7046029254386353131 : Int64)).toUInt64 >>> ((32 : Int32) &&& 0x3f).toInt64.toUInt64).toInt64)))])) _
    refine XS.lmul X0.here hx rfl (hb hby d1d_37) rfl ?_
    show Steps p.tables e below (s₁.setTop (mkF m 38 #[.val (.ref o0), .val (.int i1), .val (.int i2), .val (.long (((((((0 : Int64) ^^^ w0) * (-7046029254386353131 : Int64)) ^^^ w1) * (-7046029254386353131 : Int64)) ^^^ w2) * (-7046029254386353131 : Int64))), .second, .val (.int (((i1 + (1 : Int32)) + (1 : Int32)) + (1 : Int32)))] [(.long (((((((((0 : Int64) ^^^ w0) * (-7046029254386353131 : Int64)) ^^^ w1) * (-7046029254386353131 : Int64)) ^^^ w2) * (-7046029254386353131 : Int64)) ^^^ (((((((((0 : Int64) ^^^ w0) * (-7046029254386353131 : Int64)) ^^^ w1) * (-7046029254386353131 : Int64)) ^^^ w2) * (-7046029254386353131 : Int64)).toUInt64 >>> ((32 : Int32) &&& 0x3f).toInt64.toUInt64).toInt64)) * (-2960836687051489901 : Int64)))])) _
    refine XS.lstoreN X0.here hx rfl (hb hby d1d_38) rfl (l' := #[.val (.ref o0), .val (.int i1), .val (.int i2), .val (.long (((((((((0 : Int64) ^^^ w0) * (-7046029254386353131 : Int64)) ^^^ w1) * (-7046029254386353131 : Int64)) ^^^ w2) * (-7046029254386353131 : Int64)) ^^^ (((((((((0 : Int64) ^^^ w0) * (-7046029254386353131 : Int64)) ^^^ w1) * (-7046029254386353131 : Int64)) ^^^ w2) * (-7046029254386353131 : Int64)).toUInt64 >>> ((32 : Int32) &&& 0x3f).toInt64.toUInt64).toInt64)) * (-2960836687051489901 : Int64))), .second, .val (.int (((i1 + (1 : Int32)) + (1 : Int32)) + (1 : Int32)))]) rfl ?_
    show Steps p.tables e below (s₁.setTop (mkF m 39 #[.val (.ref o0), .val (.int i1), .val (.int i2), .val (.long (((((((((0 : Int64) ^^^ w0) * (-7046029254386353131 : Int64)) ^^^ w1) * (-7046029254386353131 : Int64)) ^^^ w2) * (-7046029254386353131 : Int64)) ^^^ (((((((((0 : Int64) ^^^ w0) * (-7046029254386353131 : Int64)) ^^^ w1) * (-7046029254386353131 : Int64)) ^^^ w2) * (-7046029254386353131 : Int64)).toUInt64 >>> ((32 : Int32) &&& 0x3f).toInt64.toUInt64).toInt64)) * (-2960836687051489901 : Int64))), .second, .val (.int (((i1 + (1 : Int32)) + (1 : Int32)) + (1 : Int32)))] [])) _
    refine XS.lloadN X0.here hx rfl (hb hby d1d_39) rfl ?_
    show Steps p.tables e below (s₁.setTop (mkF m 40 #[.val (.ref o0), .val (.int i1), .val (.int i2), .val (.long (((((((((0 : Int64) ^^^ w0) * (-7046029254386353131 : Int64)) ^^^ w1) * (-7046029254386353131 : Int64)) ^^^ w2) * (-7046029254386353131 : Int64)) ^^^ (((((((((0 : Int64) ^^^ w0) * (-7046029254386353131 : Int64)) ^^^ w1) * (-7046029254386353131 : Int64)) ^^^ w2) * (-7046029254386353131 : Int64)).toUInt64 >>> ((32 : Int32) &&& 0x3f).toInt64.toUInt64).toInt64)) * (-2960836687051489901 : Int64))), .second, .val (.int (((i1 + (1 : Int32)) + (1 : Int32)) + (1 : Int32)))] [(.long (((((((((0 : Int64) ^^^ w0) * (-7046029254386353131 : Int64)) ^^^ w1) * (-7046029254386353131 : Int64)) ^^^ w2) * (-7046029254386353131 : Int64)) ^^^ (((((((((0 : Int64) ^^^ w0) * (-7046029254386353131 : Int64)) ^^^ w1) * (-7046029254386353131 : Int64)) ^^^ w2) * (-7046029254386353131 : Int64)).toUInt64 >>> ((32 : Int32) &&& 0x3f).toInt64.toUInt64).toInt64)) * (-2960836687051489901 : Int64)))])) _
    refine XS.lloadN X0.here hx rfl (hb hby d1d_40) rfl ?_
    show Steps p.tables e below (s₁.setTop (mkF m 41 #[.val (.ref o0), .val (.int i1), .val (.int i2), .val (.long (((((((((0 : Int64) ^^^ w0) * (-7046029254386353131 : Int64)) ^^^ w1) * (-7046029254386353131 : Int64)) ^^^ w2) * (-7046029254386353131 : Int64)) ^^^ (((((((((0 : Int64) ^^^ w0) * (-7046029254386353131 : Int64)) ^^^ w1) * (-7046029254386353131 : Int64)) ^^^ w2) * (-7046029254386353131 : Int64)).toUInt64 >>> ((32 : Int32) &&& 0x3f).toInt64.toUInt64).toInt64)) * (-2960836687051489901 : Int64))), .second, .val (.int (((i1 + (1 : Int32)) + (1 : Int32)) + (1 : Int32)))] [(.long (((((((((0 : Int64) ^^^ w0) * (-7046029254386353131 : Int64)) ^^^ w1) * (-7046029254386353131 : Int64)) ^^^ w2) * (-7046029254386353131 : Int64)) ^^^ (((((((((0 : Int64) ^^^ w0) * (-7046029254386353131 : Int64)) ^^^ w1) * (-7046029254386353131 : Int64)) ^^^ w2) * (-7046029254386353131 : Int64)).toUInt64 >>> ((32 : Int32) &&& 0x3f).toInt64.toUInt64).toInt64)) * (-2960836687051489901 : Int64))), (.long (((((((((0 : Int64) ^^^ w0) * (-7046029254386353131 : Int64)) ^^^ w1) * (-7046029254386353131 : Int64)) ^^^ w2) * (-7046029254386353131 : Int64)) ^^^ (((((((((0 : Int64) ^^^ w0) * (-7046029254386353131 : Int64)) ^^^ w1) * (-7046029254386353131 : Int64)) ^^^ w2) * (-7046029254386353131 : Int64)).toUInt64 >>> ((32 : Int32) &&& 0x3f).toInt64.toUInt64).toInt64)) * (-2960836687051489901 : Int64)))])) _
    refine XS.bipush X0.here hx rfl (hb hby d1d_41) ?_
    show Steps p.tables e below (s₁.setTop (mkF m 43 #[.val (.ref o0), .val (.int i1), .val (.int i2), .val (.long (((((((((0 : Int64) ^^^ w0) * (-7046029254386353131 : Int64)) ^^^ w1) * (-7046029254386353131 : Int64)) ^^^ w2) * (-7046029254386353131 : Int64)) ^^^ (((((((((0 : Int64) ^^^ w0) * (-7046029254386353131 : Int64)) ^^^ w1) * (-7046029254386353131 : Int64)) ^^^ w2) * (-7046029254386353131 : Int64)).toUInt64 >>> ((32 : Int32) &&& 0x3f).toInt64.toUInt64).toInt64)) * (-2960836687051489901 : Int64))), .second, .val (.int (((i1 + (1 : Int32)) + (1 : Int32)) + (1 : Int32)))] [(.int (32 : Int32)), (.long (((((((((0 : Int64) ^^^ w0) * (-7046029254386353131 : Int64)) ^^^ w1) * (-7046029254386353131 : Int64)) ^^^ w2) * (-7046029254386353131 : Int64)) ^^^ (((((((((0 : Int64) ^^^ w0) * (-7046029254386353131 : Int64)) ^^^ w1) * (-7046029254386353131 : Int64)) ^^^ w2) * (-7046029254386353131 : Int64)).toUInt64 >>> ((32 : Int32) &&& 0x3f).toInt64.toUInt64).toInt64)) * (-2960836687051489901 : Int64))), (.long (((((((((0 : Int64) ^^^ w0) * (-7046029254386353131 : Int64)) ^^^ w1) * (-7046029254386353131 : Int64)) ^^^ w2) * (-7046029254386353131 : Int64)) ^^^ (((((((((0 : Int64) ^^^ w0) * (-7046029254386353131 : Int64)) ^^^ w1) * (-7046029254386353131 : Int64)) ^^^ w2) * (-7046029254386353131 : Int64)).toUInt64 >>> ((32 : Int32) &&& 0x3f).toInt64.toUInt64).toInt64)) * (-2960836687051489901 : Int64)))])) _
    refine XS.lushr X0.here hx rfl (hb hby d1d_43) rfl ?_
    show Steps p.tables e below (s₁.setTop (mkF m 44 #[.val (.ref o0), .val (.int i1), .val (.int i2), .val (.long (((((((((0 : Int64) ^^^ w0) * (-7046029254386353131 : Int64)) ^^^ w1) * (-7046029254386353131 : Int64)) ^^^ w2) * (-7046029254386353131 : Int64)) ^^^ (((((((((0 : Int64) ^^^ w0) * (-7046029254386353131 : Int64)) ^^^ w1) * (-7046029254386353131 : Int64)) ^^^ w2) * (-7046029254386353131 : Int64)).toUInt64 >>> ((32 : Int32) &&& 0x3f).toInt64.toUInt64).toInt64)) * (-2960836687051489901 : Int64))), .second, .val (.int (((i1 + (1 : Int32)) + (1 : Int32)) + (1 : Int32)))] [(.long (((((((((((0 : Int64) ^^^ w0) * (-7046029254386353131 : Int64)) ^^^ w1) * (-7046029254386353131 : Int64)) ^^^ w2) * (-7046029254386353131 : Int64)) ^^^ (((((((((0 : Int64) ^^^ w0) * (-7046029254386353131 : Int64)) ^^^ w1) * (-7046029254386353131 : Int64)) ^^^ w2) * (-7046029254386353131 : Int64)).toUInt64 >>> ((32 : Int32) &&& 0x3f).toInt64.toUInt64).toInt64)) * (-2960836687051489901 : Int64)).toUInt64 >>> ((32 : Int32) &&& 0x3f).toInt64.toUInt64).toInt64)), (.long (((((((((0 : Int64) ^^^ w0) * (-7046029254386353131 : Int64)) ^^^ w1) * (-7046029254386353131 : Int64)) ^^^ w2) * (-7046029254386353131 : Int64)) ^^^ (((((((((0 : Int64) ^^^ w0) * (-7046029254386353131 : Int64)) ^^^ w1) * (-7046029254386353131 : Int64)) ^^^ w2) * (-7046029254386353131 : Int64)).toUInt64 >>> ((32 : Int32) &&& 0x3f).toInt64.toUInt64).toInt64)) * (-2960836687051489901 : Int64)))])) _
    refine XS.lxor X0.here hx rfl (hb hby d1d_44) rfl ?_
    show Steps p.tables e below (s₁.setTop (mkF m 45 #[.val (.ref o0), .val (.int i1), .val (.int i2), .val (.long (((((((((0 : Int64) ^^^ w0) * (-7046029254386353131 : Int64)) ^^^ w1) * (-7046029254386353131 : Int64)) ^^^ w2) * (-7046029254386353131 : Int64)) ^^^ (((((((((0 : Int64) ^^^ w0) * (-7046029254386353131 : Int64)) ^^^ w1) * (-7046029254386353131 : Int64)) ^^^ w2) * (-7046029254386353131 : Int64)).toUInt64 >>> ((32 : Int32) &&& 0x3f).toInt64.toUInt64).toInt64)) * (-2960836687051489901 : Int64))), .second, .val (.int (((i1 + (1 : Int32)) + (1 : Int32)) + (1 : Int32)))] [(.long ((((((((((0 : Int64) ^^^ w0) * (-7046029254386353131 : Int64)) ^^^ w1) * (-7046029254386353131 : Int64)) ^^^ w2) * (-7046029254386353131 : Int64)) ^^^ (((((((((0 : Int64) ^^^ w0) * (-7046029254386353131 : Int64)) ^^^ w1) * (-7046029254386353131 : Int64)) ^^^ w2) * (-7046029254386353131 : Int64)).toUInt64 >>> ((32 : Int32) &&& 0x3f).toInt64.toUInt64).toInt64)) * (-2960836687051489901 : Int64)) ^^^ (((((((((((0 : Int64) ^^^ w0) * (-7046029254386353131 : Int64)) ^^^ w1) * (-7046029254386353131 : Int64)) ^^^ w2) * (-7046029254386353131 : Int64)) ^^^ (((((((((0 : Int64) ^^^ w0) * (-7046029254386353131 : Int64)) ^^^ w1) * (-7046029254386353131 : Int64)) ^^^ w2) * (-7046029254386353131 : Int64)).toUInt64 >>> ((32 : Int32) &&& 0x3f).toInt64.toUInt64).toInt64)) * (-2960836687051489901 : Int64)).toUInt64 >>> ((32 : Int32) &&& 0x3f).toInt64.toUInt64).toInt64)))])) _
    refine XS.l2i X0.here hx rfl (hb hby d1d_45) rfl ?_
    show Steps p.tables e below (s₁.setTop (mkF m 46 #[.val (.ref o0), .val (.int i1), .val (.int i2), .val (.long (((((((((0 : Int64) ^^^ w0) * (-7046029254386353131 : Int64)) ^^^ w1) * (-7046029254386353131 : Int64)) ^^^ w2) * (-7046029254386353131 : Int64)) ^^^ (((((((((0 : Int64) ^^^ w0) * (-7046029254386353131 : Int64)) ^^^ w1) * (-7046029254386353131 : Int64)) ^^^ w2) * (-7046029254386353131 : Int64)).toUInt64 >>> ((32 : Int32) &&& 0x3f).toInt64.toUInt64).toInt64)) * (-2960836687051489901 : Int64))), .second, .val (.int (((i1 + (1 : Int32)) + (1 : Int32)) + (1 : Int32)))] [(.int (((((((((((0 : Int64) ^^^ w0) * (-7046029254386353131 : Int64)) ^^^ w1) * (-7046029254386353131 : Int64)) ^^^ w2) * (-7046029254386353131 : Int64)) ^^^ (((((((((0 : Int64) ^^^ w0) * (-7046029254386353131 : Int64)) ^^^ w1) * (-7046029254386353131 : Int64)) ^^^ w2) * (-7046029254386353131 : Int64)).toUInt64 >>> ((32 : Int32) &&& 0x3f).toInt64.toUInt64).toInt64)) * (-2960836687051489901 : Int64)) ^^^ (((((((((((0 : Int64) ^^^ w0) * (-7046029254386353131 : Int64)) ^^^ w1) * (-7046029254386353131 : Int64)) ^^^ w2) * (-7046029254386353131 : Int64)) ^^^ (((((((((0 : Int64) ^^^ w0) * (-7046029254386353131 : Int64)) ^^^ w1) * (-7046029254386353131 : Int64)) ^^^ w2) * (-7046029254386353131 : Int64)).toUInt64 >>> ((32 : Int32) &&& 0x3f).toInt64.toUInt64).toInt64)) * (-2960836687051489901 : Int64)).toUInt64 >>> ((32 : Int32) &&& 0x3f).toInt64.toUInt64).toInt64)).toInt32))])) _
    exact retI X0 hx Bd.returns (hb hby d1d_46) hr
  · show Q1d Z o0 i1 i2 cl w0 w1 w2 h0 n0 _ s₁.heap _
    rw [e0]
    exact ⟨rfl, N0, rfl⟩
theorem d3d_0 : decode method_3_code 0 = .ok (.lconst 0, 1) := by decide +kernel
theorem d3d_1 : decode method_3_code 1 = .ok (.lstore 7, 2) := by decide +kernel
theorem d3d_3 : decode method_3_code 3 = .ok (.iload 6, 2) := by decide +kernel
theorem d3d_5 : decode method_3_code 5 = .ok (.iconst 1, 1) := by decide +kernel
theorem d3d_6 : decode method_3_code 6 = .ok (.if_icmp .lt 11, 3) := by decide +kernel
theorem d3d_9 : decode method_3_code 9 = .ok (.lload 7, 2) := by decide +kernel
theorem d3d_11 : decode method_3_code 11 = .ok (.lload_n 0, 1) := by decide +kernel
theorem d3d_12 : decode method_3_code 12 = .ok (.invokestatic 11, 3) := by decide +kernel
theorem d3d_15 : decode method_3_code 15 = .ok (.lstore 7, 2) := by decide +kernel
theorem d3d_17 : decode method_3_code 17 = .ok (.iload 6, 2) := by decide +kernel
theorem d3d_19 : decode method_3_code 19 = .ok (.iconst 2, 1) := by decide +kernel
theorem d3d_20 : decode method_3_code 20 = .ok (.if_icmp .lt 11, 3) := by decide +kernel
theorem d3d_23 : decode method_3_code 23 = .ok (.lload 7, 2) := by decide +kernel
theorem d3d_25 : decode method_3_code 25 = .ok (.lload_n 2, 1) := by decide +kernel
theorem d3d_26 : decode method_3_code 26 = .ok (.invokestatic 11, 3) := by decide +kernel
theorem d3d_29 : decode method_3_code 29 = .ok (.lstore 7, 2) := by decide +kernel
theorem d3d_31 : decode method_3_code 31 = .ok (.iload 6, 2) := by decide +kernel
theorem d3d_33 : decode method_3_code 33 = .ok (.iconst 3, 1) := by decide +kernel
theorem d3d_34 : decode method_3_code 34 = .ok (.if_icmp .lt 12, 3) := by decide +kernel
theorem d3d_37 : decode method_3_code 37 = .ok (.lload 7, 2) := by decide +kernel
theorem d3d_39 : decode method_3_code 39 = .ok (.lload 4, 2) := by decide +kernel
theorem d3d_41 : decode method_3_code 41 = .ok (.invokestatic 11, 3) := by decide +kernel
theorem d3d_44 : decode method_3_code 44 = .ok (.lstore 7, 2) := by decide +kernel
theorem d3d_46 : decode method_3_code 46 = .ok (.lload 7, 2) := by decide +kernel
theorem d3d_48 : decode method_3_code 48 = .ok (.lload 7, 2) := by decide +kernel
theorem d3d_50 : decode method_3_code 50 = .ok (.bipush 32, 2) := by decide +kernel
theorem d3d_52 : decode method_3_code 52 = .ok (.lushr, 1) := by decide +kernel
theorem d3d_53 : decode method_3_code 53 = .ok (.lxor, 1) := by decide +kernel
theorem d3d_54 : decode method_3_code 54 = .ok (.ldc2_w 15, 3) := by decide +kernel
theorem d3d_57 : decode method_3_code 57 = .ok (.lmul, 1) := by decide +kernel
theorem d3d_58 : decode method_3_code 58 = .ok (.lstore 9, 2) := by decide +kernel
theorem d3d_60 : decode method_3_code 60 = .ok (.lload 9, 2) := by decide +kernel
theorem d3d_62 : decode method_3_code 62 = .ok (.lload 9, 2) := by decide +kernel
theorem d3d_64 : decode method_3_code 64 = .ok (.bipush 32, 2) := by decide +kernel
theorem d3d_66 : decode method_3_code 66 = .ok (.lushr, 1) := by decide +kernel
theorem d3d_67 : decode method_3_code 67 = .ok (.lxor, 1) := by decide +kernel
theorem d3d_68 : decode method_3_code 68 = .ok (.l2i, 1) := by decide +kernel
theorem d3d_69 : decode method_3_code 69 = .ok (.ireturn, 1) := by decide +kernel
theorem ef_3d (m : MethodId) (x0 : Int64) (x1 : Int64) (x2 : Int64) (x3 : Int32) : entryFrame m #[(.long x0), (.long x1), (.long x2), (.int x3)] 11 = mkF m 0 #[.val (.long x0), .second, .val (.long x1), .second, .val (.long x2), .second, .val (.int x3), .unset, .unset, .unset, .unset] [] := by first | (simp [entryFrame, mkF, argsToLocals, Value.category]; done) | rfl
def Q3d (Z : State) (ja : Int64) (jb : Int64) (jc : Int64) (jn : Int32) (h0 : Heap) (n0 : Nat) (v : Option Value) (h : Heap) (L : List Loc) : Prop := v = some (.int (((((((((((0 : Int64) ^^^ ja) * (-7046029254386353131 : Int64)) ^^^ jb) * (-7046029254386353131 : Int64)) ^^^ jc) * (-7046029254386353131 : Int64)) ^^^ (((((((((0 : Int64) ^^^ ja) * (-7046029254386353131 : Int64)) ^^^ jb) * (-7046029254386353131 : Int64)) ^^^ jc) * (-7046029254386353131 : Int64)).toUInt64 >>> ((32 : Int32) &&& 0x3f).toInt64.toUInt64).toInt64)) * (-2960836687051489901 : Int64)) ^^^ (((((((((((0 : Int64) ^^^ ja) * (-7046029254386353131 : Int64)) ^^^ jb) * (-7046029254386353131 : Int64)) ^^^ jc) * (-7046029254386353131 : Int64)) ^^^ (((((((((0 : Int64) ^^^ ja) * (-7046029254386353131 : Int64)) ^^^ jb) * (-7046029254386353131 : Int64)) ^^^ jc) * (-7046029254386353131 : Int64)).toUInt64 >>> ((32 : Int32) &&& 0x3f).toInt64.toUInt64).toInt64)) * (-2960836687051489901 : Int64)).toUInt64 >>> ((32 : Int32) &&& 0x3f).toInt64.toUInt64).toInt64)).toInt32)) ∧ Fr n0 L ∧ h = h0
set_option maxRecDepth 65536 in
set_option maxHeartbeats 40000000 in
theorem rm3d (l : Launch) (Z : State) (a0 : Array Value) (hw : ∀ d ∈ tables_1, d.before a0 Z = true) (ws : List Jvm.Cond) (ja : Int64) (jb : Int64) (jc : Int64) (jn : Int32) (h0 : Heap) (n0 : Nat) (hn1 : ¬ jn < (1 : Int32)) (hn2 : ¬ jn < (2 : Int32)) (hn3 : ¬ jn < (3 : Int32)) :
    MetFree l (⟨"com/example/assured_timing/assuredtiming/simulation/ConfigurationHashPinLaw", "expected", "(JJJI)I"⟩ : MethodName) (head1 (Jvm.Cond.code (⟨"com/example/assured_timing/assuredtiming/simulation/ConfigurationHashPinLaw", "expected", "(JJJI)I"⟩ : MethodName) method_3_code 11 (some .int) :: ws) ({ frames := 1, cells := 0, slots := 0, locals := 15 } : Room)) (fun a U => a = #[(.long ja), (.long jb), (.long jc), (.int jn)] ∧ Z.Warmed39 U.vm ∧ U.heap = h0) (fun _ _ _ _ _ => True) (fun _ U o U' => ∃ v L, o = .returned v ∧ Q3d Z ja jb jc jn h0 n0 v U'.heap L ∧ FrameEnd U o U' L ({ frames := 1, cells := 0, slots := 0, locals := 15 } : Room).cells ({ frames := 1, cells := 0, slots := 0, locals := 15 } : Room).slots) := by
  refine MetFree.of_bodySF (plainFor_of_name pn_0) hisR ?_
  intro p e s m args below meth c s₁ Bd hml0 hP hK
  obtain ⟨rfl, hZ, hh⟩ := hP
  have hx := Bd.exec
  have hby := Bd.bytes
  have hml : c.maxLocals = 11 := hml0
  have hown : s.vm.findClass "com/example/assured_timing/assuredtiming/simulation/ConfigurationHashPinLaw" = some m.cls := findClass_of_methodNamed Bd.named
  have hnm := (name_of_methodNamed Bd.named Bd.method).1
  have X0 : Stand p l e ({ frames := 1, cells := 0, slots := 0, locals := 15 } : Room) s m #[(.long ja), (.long jb), (.long jc), (.int jn)] below meth c s₁ [] 0 0 := Stand.of_body Bd
  have e0 : s₁.heap = h0 := by rw [← hh, Bd.state]; rfl
  have N0 := Fr.nil n0
  have pre0 : ∀ t, Steps p.tables e below (s₁.setTop (mkF m 0 #[.val (.long ja), .second, .val (.long jb), .second, .val (.long jc), .second, .val (.int jn), .unset, .unset, .unset, .unset] [])) t → Steps p.tables e below (s₁.setTop (entryFrame m #[(.long ja), (.long jb), (.long jc), (.int jn)] 11)) t := fun t k => castTop (ef_3d m ja jb jc jn) k
  obtain ⟨_, _, ⟨T1, L1, k1, n1⟩, -, X1, ⟨Lc1, hQ1, l1, y1, z1⟩, st1⟩ := Jvm.LawKit.callS X0 hx (y := (⟨"com/example/assured_timing/assuredtiming/simulation/ConfigurationHashPinLaw", "step", "(JJ)J"⟩ : MethodName)) hown (mvT hZ (hw _ (List.mem_of_getElem? (i := 12) rfl))) (mvT hZ (hw _ (List.mem_of_getElem? (i := 13) rfl))) (mvT hZ (hw _ (List.mem_of_getElem? (i := 10) rfl))) (mvT hZ (hw _ (List.mem_of_getElem? (i := 14) rfl))) (by decide) (backOf (W := 0) (rm2 l Z a0 hw [] (0 : Int64) ja h0 n0) hZ (hw _ (List.mem_of_getElem? (i := 14) rfl)) (hw _ (List.mem_of_getElem? (i := 10) rfl)) (by decide) (by decide)) (g := (mkF m 12 #[.val (.long ja), .second, .val (.long jb), .second, .val (.long jc), .second, .val (.int jn), .val (.long (0 : Int64)), .second, .unset, .unset] [(.long ja), (.long (0 : Int64))])) rfl (by rw [hml]; rfl) (argsL := [(.long (0 : Int64)), (.long ja)]) (rest := []) (lenOf pd_0 rfl) rfl (by show 2 * 0 + _ ≤ _; exact Nat.le_of_eq rfl) (hb hby d3d_12) (fun _ _ => ⟨rfl, e0, (by decide : 0 + 0 ≤ _), (by decide : 0 + 0 ≤ _)⟩)
  dsimp only [Pt.U, Pt.locs, Pt.cells, Pt.slots] at X1 l1 y1 z1 st1 hQ1
  subst l1 y1 z1
  obtain ⟨rfl, N1q, e1q⟩ := hQ1
  have N1 := Fr.app N0 N1q
  obtain ⟨_, _, ⟨T2, L2, k2, n2⟩, -, X2, ⟨Lc2, hQ2, l2, y2, z2⟩, st2⟩ := Jvm.LawKit.callS X1 hx (y := (⟨"com/example/assured_timing/assuredtiming/simulation/ConfigurationHashPinLaw", "step", "(JJ)J"⟩ : MethodName)) hown (mvT hZ (hw _ (List.mem_of_getElem? (i := 12) rfl))) (mvT hZ (hw _ (List.mem_of_getElem? (i := 13) rfl))) (mvT hZ (hw _ (List.mem_of_getElem? (i := 10) rfl))) (mvT hZ (hw _ (List.mem_of_getElem? (i := 14) rfl))) (by decide) (backOf (W := 0) (rm2 l Z a0 hw [] (((0 : Int64) ^^^ ja) * (-7046029254386353131 : Int64)) jb h0 n0) hZ (hw _ (List.mem_of_getElem? (i := 14) rfl)) (hw _ (List.mem_of_getElem? (i := 10) rfl)) (by decide) (by decide)) (g := (mkF m 26 #[.val (.long ja), .second, .val (.long jb), .second, .val (.long jc), .second, .val (.int jn), .val (.long (((0 : Int64) ^^^ ja) * (-7046029254386353131 : Int64))), .second, .unset, .unset] [(.long jb), (.long (((0 : Int64) ^^^ ja) * (-7046029254386353131 : Int64)))])) rfl (by rw [hml]; rfl) (argsL := [(.long (((0 : Int64) ^^^ ja) * (-7046029254386353131 : Int64))), (.long jb)]) (rest := []) (lenOf pd_0 rfl) rfl (by show 2 * 0 + _ ≤ _; exact Nat.le_of_eq rfl) (hb hby d3d_26) (fun _ _ => ⟨rfl, e1q, (by decide : 0 + 0 ≤ _), (by decide : 0 + 0 ≤ _)⟩)
  dsimp only [Pt.U, Pt.locs, Pt.cells, Pt.slots] at X2 l2 y2 z2 st2 hQ2
  subst l2 y2 z2
  obtain ⟨rfl, N2q, e2q⟩ := hQ2
  have N2 := Fr.app N1 N2q
  obtain ⟨_, _, ⟨T3, L3, k3, n3⟩, -, X3, ⟨Lc3, hQ3, l3, y3, z3⟩, st3⟩ := Jvm.LawKit.callS X2 hx (y := (⟨"com/example/assured_timing/assuredtiming/simulation/ConfigurationHashPinLaw", "step", "(JJ)J"⟩ : MethodName)) hown (mvT hZ (hw _ (List.mem_of_getElem? (i := 12) rfl))) (mvT hZ (hw _ (List.mem_of_getElem? (i := 13) rfl))) (mvT hZ (hw _ (List.mem_of_getElem? (i := 10) rfl))) (mvT hZ (hw _ (List.mem_of_getElem? (i := 14) rfl))) (by decide) (backOf (W := 0) (rm2 l Z a0 hw [] (((((0 : Int64) ^^^ ja) * (-7046029254386353131 : Int64)) ^^^ jb) * (-7046029254386353131 : Int64)) jc h0 n0) hZ (hw _ (List.mem_of_getElem? (i := 14) rfl)) (hw _ (List.mem_of_getElem? (i := 10) rfl)) (by decide) (by decide)) (g := (mkF m 41 #[.val (.long ja), .second, .val (.long jb), .second, .val (.long jc), .second, .val (.int jn), .val (.long (((((0 : Int64) ^^^ ja) * (-7046029254386353131 : Int64)) ^^^ jb) * (-7046029254386353131 : Int64))), .second, .unset, .unset] [(.long jc), (.long (((((0 : Int64) ^^^ ja) * (-7046029254386353131 : Int64)) ^^^ jb) * (-7046029254386353131 : Int64)))])) rfl (by rw [hml]; rfl) (argsL := [(.long (((((0 : Int64) ^^^ ja) * (-7046029254386353131 : Int64)) ^^^ jb) * (-7046029254386353131 : Int64))), (.long jc)]) (rest := []) (lenOf pd_0 rfl) rfl (by show 2 * 0 + _ ≤ _; exact Nat.le_of_eq rfl) (hb hby d3d_41) (fun _ _ => ⟨rfl, e2q, (by decide : 0 + 0 ≤ _), (by decide : 0 + 0 ≤ _)⟩)
  dsimp only [Pt.U, Pt.locs, Pt.cells, Pt.slots] at X3 l3 y3 z3 st3 hQ3
  subst l3 y3 z3
  obtain ⟨rfl, N3q, e3q⟩ := hQ3
  have N3 := Fr.app N2 N3q
  obtain ⟨fs, hr, hrun, hended, hW, hsame⟩ := X3.leave (v := some (.int (((((((((((0 : Int64) ^^^ ja) * (-7046029254386353131 : Int64)) ^^^ jb) * (-7046029254386353131 : Int64)) ^^^ jc) * (-7046029254386353131 : Int64)) ^^^ (((((((((0 : Int64) ^^^ ja) * (-7046029254386353131 : Int64)) ^^^ jb) * (-7046029254386353131 : Int64)) ^^^ jc) * (-7046029254386353131 : Int64)).toUInt64 >>> ((32 : Int32) &&& 0x3f).toInt64.toUInt64).toInt64)) * (-2960836687051489901 : Int64)) ^^^ (((((((((((0 : Int64) ^^^ ja) * (-7046029254386353131 : Int64)) ^^^ jb) * (-7046029254386353131 : Int64)) ^^^ jc) * (-7046029254386353131 : Int64)) ^^^ (((((((((0 : Int64) ^^^ ja) * (-7046029254386353131 : Int64)) ^^^ jb) * (-7046029254386353131 : Int64)) ^^^ jc) * (-7046029254386353131 : Int64)).toUInt64 >>> ((32 : Int32) &&& 0x3f).toInt64.toUInt64).toInt64)) * (-2960836687051489901 : Int64)).toUInt64 >>> ((32 : Int32) &&& 0x3f).toInt64.toUInt64).toInt64)).toInt32))) (fun h => by rw [Bd.returns] at h; cases h)
  refine ⟨_, _, pre0 _ ?_, hrun, hended, _, _, rfl, ?_, ⟨_, rfl⟩, hW, hsame.mono (by decide) (by decide)⟩
  · show Steps p.tables e below (s₁.setTop (mkF m 0 #[.val (.long ja), .second, .val (.long jb), .second, .val (.long jc), .second, .val (.int jn), .unset, .unset, .unset, .unset] [])) _
    refine XS.lconst X0.here hx rfl (hb hby d3d_0) ?_
    show Steps p.tables e below (s₁.setTop (mkF m 1 #[.val (.long ja), .second, .val (.long jb), .second, .val (.long jc), .second, .val (.int jn), .unset, .unset, .unset, .unset] [(.long (0 : Int64))])) _
    refine XS.lstore X0.here hx rfl (hb hby d3d_1) rfl (l' := #[.val (.long ja), .second, .val (.long jb), .second, .val (.long jc), .second, .val (.int jn), .val (.long (0 : Int64)), .second, .unset, .unset]) rfl ?_
    show Steps p.tables e below (s₁.setTop (mkF m 3 #[.val (.long ja), .second, .val (.long jb), .second, .val (.long jc), .second, .val (.int jn), .val (.long (0 : Int64)), .second, .unset, .unset] [])) _
    refine XS.iload X0.here hx rfl (hb hby d3d_3) rfl ?_
    show Steps p.tables e below (s₁.setTop (mkF m 5 #[.val (.long ja), .second, .val (.long jb), .second, .val (.long jc), .second, .val (.int jn), .val (.long (0 : Int64)), .second, .unset, .unset] [(.int jn)])) _
    refine XS.iconst X0.here hx rfl (hb hby d3d_5) ?_
    show Steps p.tables e below (s₁.setTop (mkF m 6 #[.val (.long ja), .second, .val (.long jb), .second, .val (.long jc), .second, .val (.int jn), .val (.long (0 : Int64)), .second, .unset, .unset] [(.int (1 : Int32)), (.int jn)])) _
    refine XS.icmpNo X0.here hx rfl (hb hby d3d_6) rfl (flt hn1).1 ?_
    show Steps p.tables e below (s₁.setTop (mkF m 9 #[.val (.long ja), .second, .val (.long jb), .second, .val (.long jc), .second, .val (.int jn), .val (.long (0 : Int64)), .second, .unset, .unset] [])) _
    refine XS.lload X0.here hx rfl (hb hby d3d_9) rfl ?_
    show Steps p.tables e below (s₁.setTop (mkF m 11 #[.val (.long ja), .second, .val (.long jb), .second, .val (.long jc), .second, .val (.int jn), .val (.long (0 : Int64)), .second, .unset, .unset] [(.long (0 : Int64))])) _
    refine XS.lloadN X0.here hx rfl (hb hby d3d_11) rfl ?_
    show Steps p.tables e below (s₁.setTop (mkF m 12 #[.val (.long ja), .second, .val (.long jb), .second, .val (.long jc), .second, .val (.int jn), .val (.long (0 : Int64)), .second, .unset, .unset] [(.long ja), (.long (0 : Int64))])) _
    refine st1 _ ?_
    show Steps p.tables e below (T1.setTop (mkF m 15 #[.val (.long ja), .second, .val (.long jb), .second, .val (.long jc), .second, .val (.int jn), .val (.long (0 : Int64)), .second, .unset, .unset] [(.long (((0 : Int64) ^^^ ja) * (-7046029254386353131 : Int64)))])) _
    refine XS.lstore X1.here hx rfl (hb hby d3d_15) rfl (l' := #[.val (.long ja), .second, .val (.long jb), .second, .val (.long jc), .second, .val (.int jn), .val (.long (((0 : Int64) ^^^ ja) * (-7046029254386353131 : Int64))), .second, .unset, .unset]) rfl ?_
    show Steps p.tables e below (T1.setTop (mkF m 17 #[.val (.long ja), .second, .val (.long jb), .second, .val (.long jc), .second, .val (.int jn), .val (.long (((0 : Int64) ^^^ ja) * (-7046029254386353131 : Int64))), .second, .unset, .unset] [])) _
    refine XS.iload X1.here hx rfl (hb hby d3d_17) rfl ?_
    show Steps p.tables e below (T1.setTop (mkF m 19 #[.val (.long ja), .second, .val (.long jb), .second, .val (.long jc), .second, .val (.int jn), .val (.long (((0 : Int64) ^^^ ja) * (-7046029254386353131 : Int64))), .second, .unset, .unset] [(.int jn)])) _
    refine XS.iconst X1.here hx rfl (hb hby d3d_19) ?_
    show Steps p.tables e below (T1.setTop (mkF m 20 #[.val (.long ja), .second, .val (.long jb), .second, .val (.long jc), .second, .val (.int jn), .val (.long (((0 : Int64) ^^^ ja) * (-7046029254386353131 : Int64))), .second, .unset, .unset] [(.int (2 : Int32)), (.int jn)])) _
    refine XS.icmpNo X1.here hx rfl (hb hby d3d_20) rfl (flt hn2).1 ?_
    show Steps p.tables e below (T1.setTop (mkF m 23 #[.val (.long ja), .second, .val (.long jb), .second, .val (.long jc), .second, .val (.int jn), .val (.long (((0 : Int64) ^^^ ja) * (-7046029254386353131 : Int64))), .second, .unset, .unset] [])) _
    refine XS.lload X1.here hx rfl (hb hby d3d_23) rfl ?_
    show Steps p.tables e below (T1.setTop (mkF m 25 #[.val (.long ja), .second, .val (.long jb), .second, .val (.long jc), .second, .val (.int jn), .val (.long (((0 : Int64) ^^^ ja) * (-7046029254386353131 : Int64))), .second, .unset, .unset] [(.long (((0 : Int64) ^^^ ja) * (-7046029254386353131 : Int64)))])) _
    refine XS.lloadN X1.here hx rfl (hb hby d3d_25) rfl ?_
    show Steps p.tables e below (T1.setTop (mkF m 26 #[.val (.long ja), .second, .val (.long jb), .second, .val (.long jc), .second, .val (.int jn), .val (.long (((0 : Int64) ^^^ ja) * (-7046029254386353131 : Int64))), .second, .unset, .unset] [(.long jb), (.long (((0 : Int64) ^^^ ja) * (-7046029254386353131 : Int64)))])) _
    refine st2 _ ?_
    show Steps p.tables e below (T2.setTop (mkF m 29 #[.val (.long ja), .second, .val (.long jb), .second, .val (.long jc), .second, .val (.int jn), .val (.long (((0 : Int64) ^^^ ja) * (-7046029254386353131 : Int64))), .second, .unset, .unset] [(.long (((((0 : Int64) ^^^ ja) * (-7046029254386353131 : Int64)) ^^^ jb) * (-7046029254386353131 : Int64)))])) _
    refine XS.lstore X2.here hx rfl (hb hby d3d_29) rfl (l' := #[.val (.long ja), .second, .val (.long jb), .second, .val (.long jc), .second, .val (.int jn), .val (.long (((((0 : Int64) ^^^ ja) * (-7046029254386353131 : Int64)) ^^^ jb) * (-7046029254386353131 : Int64))), .second, .unset, .unset]) rfl ?_
    show Steps p.tables e below (T2.setTop (mkF m 31 #[.val (.long ja), .second, .val (.long jb), .second, .val (.long jc), .second, .val (.int jn), .val (.long (((((0 : Int64) ^^^ ja) * (-7046029254386353131 : Int64)) ^^^ jb) * (-7046029254386353131 : Int64))), .second, .unset, .unset] [])) _
    refine XS.iload X2.here hx rfl (hb hby d3d_31) rfl ?_
    show Steps p.tables e below (T2.setTop (mkF m 33 #[.val (.long ja), .second, .val (.long jb), .second, .val (.long jc), .second, .val (.int jn), .val (.long (((((0 : Int64) ^^^ ja) * (-7046029254386353131 : Int64)) ^^^ jb) * (-7046029254386353131 : Int64))), .second, .unset, .unset] [(.int jn)])) _
    refine XS.iconst X2.here hx rfl (hb hby d3d_33) ?_
    show Steps p.tables e below (T2.setTop (mkF m 34 #[.val (.long ja), .second, .val (.long jb), .second, .val (.long jc), .second, .val (.int jn), .val (.long (((((0 : Int64) ^^^ ja) * (-7046029254386353131 : Int64)) ^^^ jb) * (-7046029254386353131 : Int64))), .second, .unset, .unset] [(.int (3 : Int32)), (.int jn)])) _
    refine XS.icmpNo X2.here hx rfl (hb hby d3d_34) rfl (flt hn3).1 ?_
    show Steps p.tables e below (T2.setTop (mkF m 37 #[.val (.long ja), .second, .val (.long jb), .second, .val (.long jc), .second, .val (.int jn), .val (.long (((((0 : Int64) ^^^ ja) * (-7046029254386353131 : Int64)) ^^^ jb) * (-7046029254386353131 : Int64))), .second, .unset, .unset] [])) _
    refine XS.lload X2.here hx rfl (hb hby d3d_37) rfl ?_
    show Steps p.tables e below (T2.setTop (mkF m 39 #[.val (.long ja), .second, .val (.long jb), .second, .val (.long jc), .second, .val (.int jn), .val (.long (((((0 : Int64) ^^^ ja) * (-7046029254386353131 : Int64)) ^^^ jb) * (-7046029254386353131 : Int64))), .second, .unset, .unset] [(.long (((((0 : Int64) ^^^ ja) * (-7046029254386353131 : Int64)) ^^^ jb) * (-7046029254386353131 : Int64)))])) _
    refine XS.lload X2.here hx rfl (hb hby d3d_39) rfl ?_
    show Steps p.tables e below (T2.setTop (mkF m 41 #[.val (.long ja), .second, .val (.long jb), .second, .val (.long jc), .second, .val (.int jn), .val (.long (((((0 : Int64) ^^^ ja) * (-7046029254386353131 : Int64)) ^^^ jb) * (-7046029254386353131 : Int64))), .second, .unset, .unset] [(.long jc), (.long (((((0 : Int64) ^^^ ja) * (-7046029254386353131 : Int64)) ^^^ jb) * (-7046029254386353131 : Int64)))])) _
    refine st3 _ ?_
    show Steps p.tables e below (T3.setTop (mkF m 44 #[.val (.long ja), .second, .val (.long jb), .second, .val (.long jc), .second, .val (.int jn), .val (.long (((((0 : Int64) ^^^ ja) * (-7046029254386353131 : Int64)) ^^^ jb) * (-7046029254386353131 : Int64))), .second, .unset, .unset] [(.long (((((((0 : Int64) ^^^ ja) * (-7046029254386353131 : Int64)) ^^^ jb) * (-7046029254386353131 : Int64)) ^^^ jc) * (-7046029254386353131 : Int64)))])) _
    refine XS.lstore X3.here hx rfl (hb hby d3d_44) rfl (l' := #[.val (.long ja), .second, .val (.long jb), .second, .val (.long jc), .second, .val (.int jn), .val (.long (((((((0 : Int64) ^^^ ja) * (-7046029254386353131 : Int64)) ^^^ jb) * (-7046029254386353131 : Int64)) ^^^ jc) * (-7046029254386353131 : Int64))), .second, .unset, .unset]) rfl ?_
    show Steps p.tables e below (T3.setTop (mkF m 46 #[.val (.long ja), .second, .val (.long jb), .second, .val (.long jc), .second, .val (.int jn), .val (.long (((((((0 : Int64) ^^^ ja) * (-7046029254386353131 : Int64)) ^^^ jb) * (-7046029254386353131 : Int64)) ^^^ jc) * (-7046029254386353131 : Int64))), .second, .unset, .unset] [])) _
    refine XS.lload X3.here hx rfl (hb hby d3d_46) rfl ?_
    show Steps p.tables e below (T3.setTop (mkF m 48 #[.val (.long ja), .second, .val (.long jb), .second, .val (.long jc), .second, .val (.int jn), .val (.long (((((((0 : Int64) ^^^ ja) * (-7046029254386353131 : Int64)) ^^^ jb) * (-7046029254386353131 : Int64)) ^^^ jc) * (-7046029254386353131 : Int64))), .second, .unset, .unset] [(.long (((((((0 : Int64) ^^^ ja) * (-7046029254386353131 : Int64)) ^^^ jb) * (-7046029254386353131 : Int64)) ^^^ jc) * (-7046029254386353131 : Int64)))])) _
    refine XS.lload X3.here hx rfl (hb hby d3d_48) rfl ?_
    show Steps p.tables e below (T3.setTop (mkF m 50 #[.val (.long ja), .second, .val (.long jb), .second, .val (.long jc), .second, .val (.int jn), .val (.long (((((((0 : Int64) ^^^ ja) * (-7046029254386353131 : Int64)) ^^^ jb) * (-7046029254386353131 : Int64)) ^^^ jc) * (-7046029254386353131 : Int64))), .second, .unset, .unset] [(.long (((((((0 : Int64) ^^^ ja) * (-7046029254386353131 : Int64)) ^^^ jb) * (-7046029254386353131 : Int64)) ^^^ jc) * (-7046029254386353131 : Int64))), (.long (((((((0 : Int64) ^^^ ja) * (-7046029254386353131 : Int64)) ^^^ jb) * (-7046029254386353131 : Int64)) ^^^ jc) * (-7046029254386353131 : Int64)))])) _
    refine XS.bipush X3.here hx rfl (hb hby d3d_50) ?_
    show Steps p.tables e below (T3.setTop (mkF m 52 #[.val (.long ja), .second, .val (.long jb), .second, .val (.long jc), .second, .val (.int jn), .val (.long (((((((0 : Int64) ^^^ ja) * (-7046029254386353131 : Int64)) ^^^ jb) * (-7046029254386353131 : Int64)) ^^^ jc) * (-7046029254386353131 : Int64))), .second, .unset, .unset] [(.int (32 : Int32)), (.long (((((((0 : Int64) ^^^ ja) * (-7046029254386353131 : Int64)) ^^^ jb) * (-7046029254386353131 : Int64)) ^^^ jc) * (-7046029254386353131 : Int64))), (.long (((((((0 : Int64) ^^^ ja) * (-7046029254386353131 : Int64)) ^^^ jb) * (-7046029254386353131 : Int64)) ^^^ jc) * (-7046029254386353131 : Int64)))])) _
    refine XS.lushr X3.here hx rfl (hb hby d3d_52) rfl ?_
    show Steps p.tables e below (T3.setTop (mkF m 53 #[.val (.long ja), .second, .val (.long jb), .second, .val (.long jc), .second, .val (.int jn), .val (.long (((((((0 : Int64) ^^^ ja) * (-7046029254386353131 : Int64)) ^^^ jb) * (-7046029254386353131 : Int64)) ^^^ jc) * (-7046029254386353131 : Int64))), .second, .unset, .unset] [(.long (((((((((0 : Int64) ^^^ ja) * (-7046029254386353131 : Int64)) ^^^ jb) * (-7046029254386353131 : Int64)) ^^^ jc) * (-7046029254386353131 : Int64)).toUInt64 >>> ((32 : Int32) &&& 0x3f).toInt64.toUInt64).toInt64)), (.long (((((((0 : Int64) ^^^ ja) * (-7046029254386353131 : Int64)) ^^^ jb) * (-7046029254386353131 : Int64)) ^^^ jc) * (-7046029254386353131 : Int64)))])) _
    refine XS.lxor X3.here hx rfl (hb hby d3d_53) rfl ?_
    show Steps p.tables e below (T3.setTop (mkF m 54 #[.val (.long ja), .second, .val (.long jb), .second, .val (.long jc), .second, .val (.int jn), .val (.long (((((((0 : Int64) ^^^ ja) * (-7046029254386353131 : Int64)) ^^^ jb) * (-7046029254386353131 : Int64)) ^^^ jc) * (-7046029254386353131 : Int64))), .second, .unset, .unset] [(.long ((((((((0 : Int64) ^^^ ja) * (-7046029254386353131 : Int64)) ^^^ jb) * (-7046029254386353131 : Int64)) ^^^ jc) * (-7046029254386353131 : Int64)) ^^^ (((((((((0 : Int64) ^^^ ja) * (-7046029254386353131 : Int64)) ^^^ jb) * (-7046029254386353131 : Int64)) ^^^ jc) * (-7046029254386353131 : Int64)).toUInt64 >>> ((32 : Int32) &&& 0x3f).toInt64.toUInt64).toInt64)))])) _
    refine X3.ldc2Long hx hown (mvT hZ (hw _ (List.mem_of_getElem? (i := 16) rfl))) (g := (mkF m 54 #[.val (.long ja), .second, .val (.long jb), .second, .val (.long jc), .second, .val (.int jn), .val (.long (((((((0 : Int64) ^^^ ja) * (-7046029254386353131 : Int64)) ^^^ jb) * (-7046029254386353131 : Int64)) ^^^ jc) * (-7046029254386353131 : Int64))), .second, .unset, .unset] [(.long ((((((((0 : Int64) ^^^ ja) * (-7046029254386353131 : Int64)) ^^^ jb) * (-7046029254386353131 : Int64)) ^^^ jc) * (-7046029254386353131 : Int64)) ^^^ (((((((((0 : Int64) ^^^ ja) * (-7046029254386353131 : Int64)) ^^^ jb) * (-7046029254386353131 : Int64)) ^^^ jc) * (-7046029254386353131 : Int64)).toUInt64 >>> ((32 : Int32) &&& 0x3f).toInt64.toUInt64).toInt64)))])) rfl (hb hby d3d_54) _ ?_
    show Steps p.tables e below (T3.setTop (mkF m 57 #[.val (.long ja), .second, .val (.long jb), .second, .val (.long jc), .second, .val (.int jn), .val (.long (((((((0 : Int64) ^^^ ja) * (-7046029254386353131 : Int64)) ^^^ jb) * (-7046029254386353131 : Int64)) ^^^ jc) * (-7046029254386353131 : Int64))), .second, .unset, .unset] [(.long (-2960836687051489901 : Int64)), (.long ((((((((0 : Int64) ^^^ ja) * (-7046029254386353131 : Int64)) ^^^ jb) * (-7046029254386353131 : Int64)) ^^^ jc) * (-7046029254386353131 : Int64)) ^^^ (((((((((0 : Int64) ^^^ ja) * (-7046029254386353131 : Int64)) ^^^ jb) * (-7046029254386353131 : Int64)) ^^^ jc) * (-7046029254386353131 : Int64)).toUInt64 >>> ((32 : Int32) &&& 0x3f).toInt64.toUInt64).toInt64)))])) _
    refine XS.lmul X3.here hx rfl (hb hby d3d_57) rfl ?_
    show Steps p.tables e below (T3.setTop (mkF m 58 #[.val (.long ja), .second, .val (.long jb), .second, .val (.long jc), .second, .val (.int jn), .val (.long (((((((0 : Int64) ^^^ ja) * (-7046029254386353131 : Int64)) ^^^ jb) * (-7046029254386353131 : Int64)) ^^^ jc) * (-7046029254386353131 : Int64))), .second, .unset, .unset] [(.long (((((((((0 : Int64) ^^^ ja) * (-7046029254386353131 : Int64)) ^^^ jb) * (-7046029254386353131 : Int64)) ^^^ jc) * (-7046029254386353131 : Int64)) ^^^ (((((((((0 : Int64) ^^^ ja) * (-7046029254386353131 : Int64)) ^^^ jb) * (-7046029254386353131 : Int64)) ^^^ jc) * (-7046029254386353131 : Int64)).toUInt64 >>> ((32 : Int32) &&& 0x3f).toInt64.toUInt64).toInt64)) * (-2960836687051489901 : Int64)))])) _
    refine XS.lstore X3.here hx rfl (hb hby d3d_58) rfl (l' := #[.val (.long ja), .second, .val (.long jb), .second, .val (.long jc), .second, .val (.int jn), .val (.long (((((((0 : Int64) ^^^ ja) * (-7046029254386353131 : Int64)) ^^^ jb) * (-7046029254386353131 : Int64)) ^^^ jc) * (-7046029254386353131 : Int64))), .second, .val (.long (((((((((0 : Int64) ^^^ ja) * (-7046029254386353131 : Int64)) ^^^ jb) * (-7046029254386353131 : Int64)) ^^^ jc) * (-7046029254386353131 : Int64)) ^^^ (((((((((0 : Int64) ^^^ ja) * (-7046029254386353131 : Int64)) ^^^ jb) * (-7046029254386353131 : Int64)) ^^^ jc) * (-7046029254386353131 : Int64)).toUInt64 >>> ((32 : Int32) &&& 0x3f).toInt64.toUInt64).toInt64)) * (-2960836687051489901 : Int64))), .second]) rfl ?_
    show Steps p.tables e below (T3.setTop (mkF m 60 #[.val (.long ja), .second, .val (.long jb), .second, .val (.long jc), .second, .val (.int jn), .val (.long (((((((0 : Int64) ^^^ ja) * (-7046029254386353131 : Int64)) ^^^ jb) * (-7046029254386353131 : Int64)) ^^^ jc) * (-7046029254386353131 : Int64))), .second, .val (.long (((((((((0 : Int64) ^^^ ja) * (-7046029254386353131 : Int64)) ^^^ jb) * (-7046029254386353131 : Int64)) ^^^ jc) * (-7046029254386353131 : Int64)) ^^^ (((((((((0 : Int64) ^^^ ja) * (-7046029254386353131 : Int64)) ^^^ jb) * (-7046029254386353131 : Int64)) ^^^ jc) * (-7046029254386353131 : Int64)).toUInt64 >>> ((32 : Int32) &&& 0x3f).toInt64.toUInt64).toInt64)) * (-2960836687051489901 : Int64))), .second] [])) _
    refine XS.lload X3.here hx rfl (hb hby d3d_60) rfl ?_
    show Steps p.tables e below (T3.setTop (mkF m 62 #[.val (.long ja), .second, .val (.long jb), .second, .val (.long jc), .second, .val (.int jn), .val (.long (((((((0 : Int64) ^^^ ja) * (-7046029254386353131 : Int64)) ^^^ jb) * (-7046029254386353131 : Int64)) ^^^ jc) * (-7046029254386353131 : Int64))), .second, .val (.long (((((((((0 : Int64) ^^^ ja) * (-7046029254386353131 : Int64)) ^^^ jb) * (-7046029254386353131 : Int64)) ^^^ jc) * (-7046029254386353131 : Int64)) ^^^ (((((((((0 : Int64) ^^^ ja) * (-7046029254386353131 : Int64)) ^^^ jb) * (-7046029254386353131 : Int64)) ^^^ jc) * (-7046029254386353131 : Int64)).toUInt64 >>> ((32 : Int32) &&& 0x3f).toInt64.toUInt64).toInt64)) * (-2960836687051489901 : Int64))), .second] [(.long (((((((((0 : Int64) ^^^ ja) * (-7046029254386353131 : Int64)) ^^^ jb) * (-7046029254386353131 : Int64)) ^^^ jc) * (-7046029254386353131 : Int64)) ^^^ (((((((((0 : Int64) ^^^ ja) * (-7046029254386353131 : Int64)) ^^^ jb) * (-7046029254386353131 : Int64)) ^^^ jc) * (-7046029254386353131 : Int64)).toUInt64 >>> ((32 : Int32) &&& 0x3f).toInt64.toUInt64).toInt64)) * (-2960836687051489901 : Int64)))])) _
    refine XS.lload X3.here hx rfl (hb hby d3d_62) rfl ?_
    show Steps p.tables e below (T3.setTop (mkF m 64 #[.val (.long ja), .second, .val (.long jb), .second, .val (.long jc), .second, .val (.int jn), .val (.long (((((((0 : Int64) ^^^ ja) * (-7046029254386353131 : Int64)) ^^^ jb) * (-7046029254386353131 : Int64)) ^^^ jc) * (-7046029254386353131 : Int64))), .second, .val (.long (((((((((0 : Int64) ^^^ ja) * (-7046029254386353131 : Int64)) ^^^ jb) * (-7046029254386353131 : Int64)) ^^^ jc) * (-7046029254386353131 : Int64)) ^^^ (((((((((0 : Int64) ^^^ ja) * (-7046029254386353131 : Int64)) ^^^ jb) * (-7046029254386353131 : Int64)) ^^^ jc) * (-7046029254386353131 : Int64)).toUInt64 >>> ((32 : Int32) &&& 0x3f).toInt64.toUInt64).toInt64)) * (-2960836687051489901 : Int64))), .second] [(.long (((((((((0 : Int64) ^^^ ja) * (-7046029254386353131 : Int64)) ^^^ jb) * (-7046029254386353131 : Int64)) ^^^ jc) * (-7046029254386353131 : Int64)) ^^^ (((((((((0 : Int64) ^^^ ja) * (-7046029254386353131 : Int64)) ^^^ jb) * (-7046029254386353131 : Int64)) ^^^ jc) * (-7046029254386353131 : Int64)).toUInt64 >>> ((32 : Int32) &&& 0x3f).toInt64.toUInt64).toInt64)) * (-2960836687051489901 : Int64))), (.long (((((((((0 : Int64) ^^^ ja) * (-7046029254386353131 : Int64)) ^^^ jb) * (-7046029254386353131 : Int64)) ^^^ jc) * (-7046029254386353131 : Int64)) ^^^ (((((((((0 : Int64) ^^^ ja) * (-7046029254386353131 : Int64)) ^^^ jb) * (-7046029254386353131 : Int64)) ^^^ jc) * (-7046029254386353131 : Int64)).toUInt64 >>> ((32 : Int32) &&& 0x3f).toInt64.toUInt64).toInt64)) * (-2960836687051489901 : Int64)))])) _
    refine XS.bipush X3.here hx rfl (hb hby d3d_64) ?_
    show Steps p.tables e below (T3.setTop (mkF m 66 #[.val (.long ja), .second, .val (.long jb), .second, .val (.long jc), .second, .val (.int jn), .val (.long (((((((0 : Int64) ^^^ ja) * (-7046029254386353131 : Int64)) ^^^ jb) * (-7046029254386353131 : Int64)) ^^^ jc) * (-7046029254386353131 : Int64))), .second, .val (.long (((((((((0 : Int64) ^^^ ja) * (-7046029254386353131 : Int64)) ^^^ jb) * (-7046029254386353131 : Int64)) ^^^ jc) * (-7046029254386353131 : Int64)) ^^^ (((((((((0 : Int64) ^^^ ja) * (-7046029254386353131 : Int64)) ^^^ jb) * (-7046029254386353131 : Int64)) ^^^ jc) * (-7046029254386353131 : Int64)).toUInt64 >>> ((32 : Int32) &&& 0x3f).toInt64.toUInt64).toInt64)) * (-2960836687051489901 : Int64))), .second] [(.int (32 : Int32)), (.long (((((((((0 : Int64) ^^^ ja) * (-7046029254386353131 : Int64)) ^^^ jb) * (-7046029254386353131 : Int64)) ^^^ jc) * (-7046029254386353131 : Int64)) ^^^ (((((((((0 : Int64) ^^^ ja) * (-7046029254386353131 : Int64)) ^^^ jb) * (-7046029254386353131 : Int64)) ^^^ jc) * (-7046029254386353131 : Int64)).toUInt64 >>> ((32 : Int32) &&& 0x3f).toInt64.toUInt64).toInt64)) * (-2960836687051489901 : Int64))), (.long (((((((((0 : Int64) ^^^ ja) * (-7046029254386353131 : Int64)) ^^^ jb) * (-7046029254386353131 : Int64)) ^^^ jc) * (-7046029254386353131 : Int64)) ^^^ (((((((((0 : Int64) ^^^ ja) * (-7046029254386353131 : Int64)) ^^^ jb) * (-7046029254386353131 : Int64)) ^^^ jc) * (-7046029254386353131 : Int64)).toUInt64 >>> ((32 : Int32) &&& 0x3f).toInt64.toUInt64).toInt64)) * (-2960836687051489901 : Int64)))])) _
    refine XS.lushr X3.here hx rfl (hb hby d3d_66) rfl ?_
    show Steps p.tables e below (T3.setTop (mkF m 67 #[.val (.long ja), .second, .val (.long jb), .second, .val (.long jc), .second, .val (.int jn), .val (.long (((((((0 : Int64) ^^^ ja) * (-7046029254386353131 : Int64)) ^^^ jb) * (-7046029254386353131 : Int64)) ^^^ jc) * (-7046029254386353131 : Int64))), .second, .val (.long (((((((((0 : Int64) ^^^ ja) * (-7046029254386353131 : Int64)) ^^^ jb) * (-7046029254386353131 : Int64)) ^^^ jc) * (-7046029254386353131 : Int64)) ^^^ (((((((((0 : Int64) ^^^ ja) * (-7046029254386353131 : Int64)) ^^^ jb) * (-7046029254386353131 : Int64)) ^^^ jc) * (-7046029254386353131 : Int64)).toUInt64 >>> ((32 : Int32) &&& 0x3f).toInt64.toUInt64).toInt64)) * (-2960836687051489901 : Int64))), .second] [(.long (((((((((((0 : Int64) ^^^ ja) * (-7046029254386353131 : Int64)) ^^^ jb) * (-7046029254386353131 : Int64)) ^^^ jc) * (-7046029254386353131 : Int64)) ^^^ (((((((((0 : Int64) ^^^ ja) * (-7046029254386353131 : Int64)) ^^^ jb) * (-7046029254386353131 : Int64)) ^^^ jc) * (-7046029254386353131 : Int64)).toUInt64 >>> ((32 : Int32) &&& 0x3f).toInt64.toUInt64).toInt64)) * (-2960836687051489901 : Int64)).toUInt64 >>> ((32 : Int32) &&& 0x3f).toInt64.toUInt64).toInt64)), (.long (((((((((0 : Int64) ^^^ ja) * (-7046029254386353131 : Int64)) ^^^ jb) * (-7046029254386353131 : Int64)) ^^^ jc) * (-7046029254386353131 : Int64)) ^^^ (((((((((0 : Int64) ^^^ ja) * (-7046029254386353131 : Int64)) ^^^ jb) * (-7046029254386353131 : Int64)) ^^^ jc) * (-7046029254386353131 : Int64)).toUInt64 >>> ((32 : Int32) &&& 0x3f).toInt64.toUInt64).toInt64)) * (-2960836687051489901 : Int64)))])) _
    refine XS.lxor X3.here hx rfl (hb hby d3d_67) rfl ?_
    show Steps p.tables e below (T3.setTop (mkF m 68 #[.val (.long ja), .second, .val (.long jb), .second, .val (.long jc), .second, .val (.int jn), .val (.long (((((((0 : Int64) ^^^ ja) * (-7046029254386353131 : Int64)) ^^^ jb) * (-7046029254386353131 : Int64)) ^^^ jc) * (-7046029254386353131 : Int64))), .second, .val (.long (((((((((0 : Int64) ^^^ ja) * (-7046029254386353131 : Int64)) ^^^ jb) * (-7046029254386353131 : Int64)) ^^^ jc) * (-7046029254386353131 : Int64)) ^^^ (((((((((0 : Int64) ^^^ ja) * (-7046029254386353131 : Int64)) ^^^ jb) * (-7046029254386353131 : Int64)) ^^^ jc) * (-7046029254386353131 : Int64)).toUInt64 >>> ((32 : Int32) &&& 0x3f).toInt64.toUInt64).toInt64)) * (-2960836687051489901 : Int64))), .second] [(.long ((((((((((0 : Int64) ^^^ ja) * (-7046029254386353131 : Int64)) ^^^ jb) * (-7046029254386353131 : Int64)) ^^^ jc) * (-7046029254386353131 : Int64)) ^^^ (((((((((0 : Int64) ^^^ ja) * (-7046029254386353131 : Int64)) ^^^ jb) * (-7046029254386353131 : Int64)) ^^^ jc) * (-7046029254386353131 : Int64)).toUInt64 >>> ((32 : Int32) &&& 0x3f).toInt64.toUInt64).toInt64)) * (-2960836687051489901 : Int64)) ^^^ (((((((((((0 : Int64) ^^^ ja) * (-7046029254386353131 : Int64)) ^^^ jb) * (-7046029254386353131 : Int64)) ^^^ jc) * (-7046029254386353131 : Int64)) ^^^ (((((((((0 : Int64) ^^^ ja) * (-7046029254386353131 : Int64)) ^^^ jb) * (-7046029254386353131 : Int64)) ^^^ jc) * (-7046029254386353131 : Int64)).toUInt64 >>> ((32 : Int32) &&& 0x3f).toInt64.toUInt64).toInt64)) * (-2960836687051489901 : Int64)).toUInt64 >>> ((32 : Int32) &&& 0x3f).toInt64.toUInt64).toInt64)))])) _
    refine XS.l2i X3.here hx rfl (hb hby d3d_68) rfl ?_
    show Steps p.tables e below (T3.setTop (mkF m 69 #[.val (.long ja), .second, .val (.long jb), .second, .val (.long jc), .second, .val (.int jn), .val (.long (((((((0 : Int64) ^^^ ja) * (-7046029254386353131 : Int64)) ^^^ jb) * (-7046029254386353131 : Int64)) ^^^ jc) * (-7046029254386353131 : Int64))), .second, .val (.long (((((((((0 : Int64) ^^^ ja) * (-7046029254386353131 : Int64)) ^^^ jb) * (-7046029254386353131 : Int64)) ^^^ jc) * (-7046029254386353131 : Int64)) ^^^ (((((((((0 : Int64) ^^^ ja) * (-7046029254386353131 : Int64)) ^^^ jb) * (-7046029254386353131 : Int64)) ^^^ jc) * (-7046029254386353131 : Int64)).toUInt64 >>> ((32 : Int32) &&& 0x3f).toInt64.toUInt64).toInt64)) * (-2960836687051489901 : Int64))), .second] [(.int (((((((((((0 : Int64) ^^^ ja) * (-7046029254386353131 : Int64)) ^^^ jb) * (-7046029254386353131 : Int64)) ^^^ jc) * (-7046029254386353131 : Int64)) ^^^ (((((((((0 : Int64) ^^^ ja) * (-7046029254386353131 : Int64)) ^^^ jb) * (-7046029254386353131 : Int64)) ^^^ jc) * (-7046029254386353131 : Int64)).toUInt64 >>> ((32 : Int32) &&& 0x3f).toInt64.toUInt64).toInt64)) * (-2960836687051489901 : Int64)) ^^^ (((((((((((0 : Int64) ^^^ ja) * (-7046029254386353131 : Int64)) ^^^ jb) * (-7046029254386353131 : Int64)) ^^^ jc) * (-7046029254386353131 : Int64)) ^^^ (((((((((0 : Int64) ^^^ ja) * (-7046029254386353131 : Int64)) ^^^ jb) * (-7046029254386353131 : Int64)) ^^^ jc) * (-7046029254386353131 : Int64)).toUInt64 >>> ((32 : Int32) &&& 0x3f).toInt64.toUInt64).toInt64)) * (-2960836687051489901 : Int64)).toUInt64 >>> ((32 : Int32) &&& 0x3f).toInt64.toUInt64).toInt64)).toInt32))])) _
    exact retI X3 hx Bd.returns (hb hby d3d_69) hr
  · show Q3d Z ja jb jc jn h0 n0 _ T3.heap _
    rw [e3q]
    exact ⟨rfl, N3, rfl⟩
theorem own_n (us : Int32) : (us &&& (3 : Int32)).toInt = 0 ∨ (us &&& (3 : Int32)).toInt = 1 ∨ (us &&& (3 : Int32)).toInt = 2 ∨ (us &&& (3 : Int32)).toInt = 3 := by
  have h1 := c_mask us 3 2 (by decide) (by decide)
  omega
theorem own_off (us : Int32) : 0 ≤ ((((us.toUInt32 >>> ((2 : Int32) &&& 31).toUInt32).toInt32) &&& (2147483647 : Int32)) % (3 : Int32)).toInt ∧ ((((us.toUInt32 >>> ((2 : Int32) &&& 31).toUInt32).toInt32) &&& (2147483647 : Int32)) % (3 : Int32)).toInt ≤ 2 := by
  have h1 := c_mask ((us.toUInt32 >>> ((2 : Int32) &&& 31).toUInt32).toInt32) 2147483647 31 (by decide) (by decide)
  have h2 := (c_irem ((us.toUInt32 >>> ((2 : Int32) &&& 31).toUInt32).toInt32 &&& 2147483647) 3 3 rfl).1
  omega
theorem own_add (a k : Int32) (h1 : 0 ≤ a.toInt) (h2 : a.toInt ≤ 10) (h3 : 0 ≤ k.toInt) (h4 : k.toInt ≤ 3) : (a + k).toInt = a.toInt + k.toInt := by
  have q := c_iadd a k
  have r := rng32 (a + k)
  omega
theorem own_nat (a : Int32) (n : Nat) (h : a.toInt = n) : a.toNatClampNeg = n := by
  simp only [Int32.toNatClampNeg]
  omega
theorem pd_1 : parseMethodDescriptor "([JII)I" = some ⟨[(.array .long), .int, .int], some .int⟩ := by decide +kernel
theorem pd_2 : parseMethodDescriptor "(JJJI)I" = some ⟨[.long, .long, .long, .int], some .int⟩ := by decide +kernel
theorem ef_0a (m : MethodId) (x0 : Int64) (x1 : Int64) (x2 : Int64) (x3 : Int64) (x4 : Int32) : entryFrame m #[(.long x0), (.long x1), (.long x2), (.long x3), (.int x4)] maxLocals = mkF m 0 #[.val (.long x0), .second, .val (.long x1), .second, .val (.long x2), .second, .val (.long x3), .second, .val (.int x4), .unset, .unset, .unset, .unset] [] := by first | (simp [entryFrame, mkF, argsToLocals, Value.category, maxLocals]; done) | rfl
def Q0a (Z : State) (uA : Int64) (uB : Int64) (uC : Int64) (uJ : Int64) (us : Int32) (h0 : Heap) (n0 : Nat) (v : Option Value) (h : Heap) (L : List Loc) : Prop := v = some (.int (1 : Int32)) ∧ Fr n0 L
set_option maxRecDepth 65536 in
set_option maxHeartbeats 40000000 in
theorem rm0a (l : Launch) (Z : State) (a0 : Array Value) (hw : ∀ d ∈ tables_1, d.before a0 Z = true) (ws : List Jvm.Cond) (uA : Int64) (uB : Int64) (uC : Int64) (uJ : Int64) (us : Int32) (h0 : Heap) (n0 : Nat) (Z0 : n0 ≤ h0.size) (hk : (us &&& (3 : Int32)).toInt = 0) :
    MetFree l x (head1 (Jvm.Cond.code x code maxLocals ret :: ws) room_1) (fun a U => a = #[(.long uA), (.long uB), (.long uC), (.long uJ), (.int us)] ∧ Z.Warmed39 U.vm ∧ U.heap = h0) (fun _ _ _ _ _ => True) (fun _ U o U' => ∃ v L, o = .returned v ∧ Q0a Z uA uB uC uJ us h0 n0 v U'.heap L ∧ FrameEnd U o U' L 1 5) := by
  refine MetFree.of_bodySF (plainFor_of_name pn_0) hisR ?_
  intro p e s m args below meth c s₁ Bd hml0 hP hK
  obtain ⟨rfl, hZ, hh⟩ := hP
  have hx := Bd.exec
  have hby := Bd.bytes
  have hml : c.maxLocals = 13 := hml0
  have hown : s.vm.findClass "com/example/assured_timing/assuredtiming/simulation/ConfigurationHashPinLaw" = some m.cls := findClass_of_methodNamed Bd.named
  have hnm := (name_of_methodNamed Bd.named Bd.method).1
  have X0 : Stand p l e room_1 s m #[(.long uA), (.long uB), (.long uC), (.long uJ), (.int us)] below meth c s₁ [] 0 0 := Stand.of_body Bd
  have e0 : s₁.heap = h0 := by rw [← hh, Bd.state]; rfl
  have N0 := Fr.nil n0
  have pre0 : ∀ t, Steps p.tables e below (s₁.setTop (mkF m 0 #[.val (.long uA), .second, .val (.long uB), .second, .val (.long uC), .second, .val (.long uJ), .second, .val (.int us), .unset, .unset, .unset, .unset] [])) t → Steps p.tables e below (s₁.setTop (entryFrame m #[(.long uA), (.long uB), (.long uC), (.long uJ), (.int us)] maxLocals)) t := fun t k => castTop (ef_0a m uA uB uC uJ us) k
  have ho := own_off us
  obtain ⟨uo, huo⟩ : ∃ z, z = ((((us.toUInt32 >>> ((2 : Int32) &&& 31).toUInt32).toInt32) &&& (2147483647 : Int32)) % (3 : Int32)) := ⟨_, rfl⟩
  rw [← huo] at ho
  have k1 : (1 : Int32).toInt = 1 := rfl
  have k2 : (2 : Int32).toInt = 2 := rfl
  have k3 : (3 : Int32).toInt = 3 := rfl
  have a1 := own_add uo 1 ho.1 (by omega) (by decide) (by decide)
  have a2 := own_add uo 2 ho.1 (by omega) (by decide) (by decide)
  have b2 := own_add (uo + 1) 1 (by omega) (by omega) (by decide) (by decide)
  have b3 := own_add ((uo + 1) + 1) 1 (by omega) (by omega) (by decide) (by decide)
  have an := own_add uo (us &&& (3 : Int32)) ho.1 (by omega) (by omega) (by omega)
  rw [hk] at an
  have c0 := own_nat uo uo.toInt.toNat (by omega)
  have c1 := own_nat (uo + 1) (uo.toInt.toNat + 1) (by omega)
  have c2 := own_nat (uo + 2) (uo.toInt.toNat + 2) (by omega)
  have d2 := own_nat ((uo + 1) + 1) (uo.toInt.toNat + 2) (by omega)
  obtain ⟨T1, h1, k1, X1, e1, E1, A1, st1⟩ := newP X0 hx hZ (hw _ (List.mem_of_getElem? (i := 1) rfl)) e0 (g := (mkF m 18 #[.val (.long uA), .second, .val (.long uB), .second, .val (.long uC), .second, .val (.long uJ), .second, .val (.int us), .val (.int (us &&& (3 : Int32))), .val (.int uo), .unset, .unset] [(.int (5 : Int32))])) rfl (hb hby at_18) rfl (by decide) (cap := 5) (by decide) (by decide) (by decide) (by decide)
  obtain ⟨bb, sz_bb⟩ : ∃ z, z = h0.size := ⟨_, rfl⟩
  rw [← sz_bb] at A1 st1
  have g_bb : n0 ≤ bb := Nat.le_trans Z0 (Nat.le_of_eq sz_bb.symm)
  have Zp2 : n0 ≤ h1.size := Nat.le_trans Z0 E1.1
  have Vn := own_C_new A1 (n := 5) rfl
  obtain ⟨cl3, Ar3, S3, I3⟩ := Vn
  obtain ⟨T3, h3, X3, e3, W3, st3⟩ := stJ X1 hx hZ e1 Ar3 (j := (0 : Int32)) (by rw [S3]; decide) (g := (mkF m 27 #[.val (.long uA), .second, .val (.long uB), .second, .val (.long uC), .second, .val (.long uJ), .second, .val (.int us), .val (.int (us &&& (3 : Int32))), .val (.int uo), .val (.ref bb), .unset] [(.long uJ), (.int (0 : Int32)), (.ref bb)])) rfl rfl (hb hby at_27)
  have V3 := own_C_set0 Ar3 S3 I3 W3
  have N3f := Fr.snoc X3 N0 g_bb
  obtain ⟨cl4, Ar4, S4, I4⟩ := V3
  obtain ⟨T4, h4, X4, e4, W4, st4⟩ := stJ X3 hx hZ e3 Ar4 (j := (1 : Int32)) (by rw [S4]; decide) (g := (mkF m 33 #[.val (.long uA), .second, .val (.long uB), .second, .val (.long uC), .second, .val (.long uJ), .second, .val (.int us), .val (.int (us &&& (3 : Int32))), .val (.int uo), .val (.ref bb), .unset] [(.long uJ), (.int (1 : Int32)), (.ref bb)])) rfl rfl (hb hby at_33)
  have V4 := own_C_set0 Ar4 S4 I4 W4
  have N4f := Fr.snoc X4 N3f g_bb
  obtain ⟨cl5, Ar5, S5, I5⟩ := V4
  obtain ⟨T5, h5, X5, e5, W5, st5⟩ := stJ X4 hx hZ e4 Ar5 (j := (2 : Int32)) (by rw [S5]; decide) (g := (mkF m 39 #[.val (.long uA), .second, .val (.long uB), .second, .val (.long uC), .second, .val (.long uJ), .second, .val (.int us), .val (.int (us &&& (3 : Int32))), .val (.int uo), .val (.ref bb), .unset] [(.long uJ), (.int (2 : Int32)), (.ref bb)])) rfl rfl (hb hby at_39)
  have V5 := own_C_set0 Ar5 S5 I5 W5
  have N5f := Fr.snoc X5 N4f g_bb
  obtain ⟨cl6, Ar6, S6, I6⟩ := V5
  obtain ⟨T6, h6, X6, e6, W6, st6⟩ := stJ X5 hx hZ e5 Ar6 (j := (3 : Int32)) (by rw [S6]; decide) (g := (mkF m 45 #[.val (.long uA), .second, .val (.long uB), .second, .val (.long uC), .second, .val (.long uJ), .second, .val (.int us), .val (.int (us &&& (3 : Int32))), .val (.int uo), .val (.ref bb), .unset] [(.long uJ), (.int (3 : Int32)), (.ref bb)])) rfl rfl (hb hby at_45)
  have V6 := own_C_set0 Ar6 S6 I6 W6
  have N6f := Fr.snoc X6 N5f g_bb
  obtain ⟨cl7, Ar7, S7, I7⟩ := V6
  obtain ⟨T7, h7, X7, e7, W7, st7⟩ := stJ X6 hx hZ e6 Ar7 (j := (4 : Int32)) (by rw [S7]; decide) (g := (mkF m 51 #[.val (.long uA), .second, .val (.long uB), .second, .val (.long uC), .second, .val (.long uJ), .second, .val (.int us), .val (.int (us &&& (3 : Int32))), .val (.int uo), .val (.ref bb), .unset] [(.long uJ), (.int (4 : Int32)), (.ref bb)])) rfl rfl (hb hby at_51)
  have V7 := own_C_set0 Ar7 S7 I7 W7
  have N7f := Fr.snoc X7 N6f g_bb
  obtain ⟨clz, Arz, Sz, Iz⟩ := V7
  obtain ⟨_, _, ⟨T8, L8, k8, n8⟩, -, X8, ⟨Lc8, hQ8, l8, y8, z8⟩, st8⟩ := Jvm.LawKit.callS X7 hx (y := (⟨"com/example/assured_timing/assuredtiming/simulation/Configuration", "hash", "([JII)I"⟩ : MethodName)) hown (mvT hZ (hw _ (List.mem_of_getElem? (i := 2) rfl))) (mvT hZ (hw _ (List.mem_of_getElem? (i := 3) rfl))) (mvT hZ (hw _ (List.mem_of_getElem? (i := 4) rfl))) (mvT hZ (hw _ (List.mem_of_getElem? (i := 5) rfl))) (by decide) (backOf (W := 0) (rm1a l Z a0 hw [] bb uo (uo + (us &&& (3 : Int32))) clz  h7 n0 Arz (by rw [Int32.lt_iff_toInt_lt]; omega)  ) hZ (hw _ (List.mem_of_getElem? (i := 5) rfl)) (hw _ (List.mem_of_getElem? (i := 4) rfl)) (by decide) (by decide)) (g := (mkF m 102 #[.val (.long uA), .second, .val (.long uB), .second, .val (.long uC), .second, .val (.long uJ), .second, .val (.int us), .val (.int (us &&& (3 : Int32))), .val (.int uo), .val (.ref bb), .unset] [(.int (uo + (us &&& (3 : Int32)))), (.int uo), (.ref bb)])) rfl (by rw [hml]; rfl) (argsL := [(.ref bb), (.int uo), (.int (uo + (us &&& (3 : Int32))))]) (rest := []) (lenOf pd_1 rfl) rfl (by show 2 * 0 + _ ≤ _; exact Nat.le_of_eq rfl) (hb hby at_102) (fun _ _ => ⟨rfl, e7, (by decide : 1 + 0 ≤ _), (by decide : 5 + 0 ≤ _)⟩)
  dsimp only [Pt.U, Pt.locs, Pt.cells, Pt.slots] at X8 l8 y8 z8 st8 hQ8
  subst l8 y8 z8
  obtain ⟨rfl, N8q, e8q⟩ := hQ8
  have N8 := Fr.app N7f N8q
  obtain ⟨_, _, ⟨T9, L9, k9, n9⟩, -, X9, ⟨Lc9, hQ9, l9, y9, z9⟩, st9⟩ := Jvm.LawKit.callS X8 hx (y := (⟨"com/example/assured_timing/assuredtiming/simulation/ConfigurationHashPinLaw", "expected", "(JJJI)I"⟩ : MethodName)) hown (mvT hZ (hw _ (List.mem_of_getElem? (i := 8) rfl))) (mvT hZ (hw _ (List.mem_of_getElem? (i := 9) rfl))) (mvT hZ (hw _ (List.mem_of_getElem? (i := 10) rfl))) (mvT hZ (hw _ (List.mem_of_getElem? (i := 11) rfl))) (by decide) (backOf (W := 1) (rm3a l Z a0 hw [] uA uB uC (us &&& (3 : Int32)) h7 n0 (by rw [Int32.lt_iff_toInt_lt]; omega) (by rw [Int32.lt_iff_toInt_lt]; omega) (by rw [Int32.lt_iff_toInt_lt]; omega)) hZ (hw _ (List.mem_of_getElem? (i := 11) rfl)) (hw _ (List.mem_of_getElem? (i := 10) rfl)) (by decide) (by decide)) (g := (mkF m 115 #[.val (.long uA), .second, .val (.long uB), .second, .val (.long uC), .second, .val (.long uJ), .second, .val (.int us), .val (.int (us &&& (3 : Int32))), .val (.int uo), .val (.ref bb), .val (.int (((((0 : Int64) ^^^ (((0 : Int64).toUInt64 >>> ((32 : Int32) &&& 0x3f).toInt64.toUInt64).toInt64)) * (-2960836687051489901 : Int64)) ^^^ (((((0 : Int64) ^^^ (((0 : Int64).toUInt64 >>> ((32 : Int32) &&& 0x3f).toInt64.toUInt64).toInt64)) * (-2960836687051489901 : Int64)).toUInt64 >>> ((32 : Int32) &&& 0x3f).toInt64.toUInt64).toInt64)).toInt32))] [(.int (us &&& (3 : Int32))), (.long uC), (.long uB), (.long uA), (.int (((((0 : Int64) ^^^ (((0 : Int64).toUInt64 >>> ((32 : Int32) &&& 0x3f).toInt64.toUInt64).toInt64)) * (-2960836687051489901 : Int64)) ^^^ (((((0 : Int64) ^^^ (((0 : Int64).toUInt64 >>> ((32 : Int32) &&& 0x3f).toInt64.toUInt64).toInt64)) * (-2960836687051489901 : Int64)).toUInt64 >>> ((32 : Int32) &&& 0x3f).toInt64.toUInt64).toInt64)).toInt32))])) rfl (by rw [hml]; rfl) (argsL := [(.long uA), (.long uB), (.long uC), (.int (us &&& (3 : Int32)))]) (rest := [(.int (((((0 : Int64) ^^^ (((0 : Int64).toUInt64 >>> ((32 : Int32) &&& 0x3f).toInt64.toUInt64).toInt64)) * (-2960836687051489901 : Int64)) ^^^ (((((0 : Int64) ^^^ (((0 : Int64).toUInt64 >>> ((32 : Int32) &&& 0x3f).toInt64.toUInt64).toInt64)) * (-2960836687051489901 : Int64)).toUInt64 >>> ((32 : Int32) &&& 0x3f).toInt64.toUInt64).toInt64)).toInt32))]) (lenOf pd_2 rfl) rfl (by show 2 * 0 + _ ≤ _; exact Nat.le_of_eq rfl) (hb hby at_115) (fun _ _ => ⟨rfl, e8q, (by decide : 1 + 0 ≤ _), (by decide : 5 + 0 ≤ _)⟩)
  dsimp only [Pt.U, Pt.locs, Pt.cells, Pt.slots] at X9 l9 y9 z9 st9 hQ9
  subst l9 y9 z9
  obtain ⟨rfl, N9q, e9q⟩ := hQ9
  have N9 := Fr.app N8 N9q
  obtain ⟨fs, hr, hrun, hended, hW, hsame⟩ := X9.leave (v := some (.int (1 : Int32))) (fun h => by rw [Bd.returns] at h; cases h)
  refine ⟨_, _, pre0 _ ?_, hrun, hended, _, _, rfl, ?_, ⟨_, rfl⟩, hW, hsame.mono (by decide) (by decide)⟩
  · show Steps p.tables e below (s₁.setTop (mkF m 0 #[.val (.long uA), .second, .val (.long uB), .second, .val (.long uC), .second, .val (.long uJ), .second, .val (.int us), .unset, .unset, .unset, .unset] [])) _
    refine XS.iload X0.here hx rfl (hb hby at_0) rfl ?_
    show Steps p.tables e below (s₁.setTop (mkF m 2 #[.val (.long uA), .second, .val (.long uB), .second, .val (.long uC), .second, .val (.long uJ), .second, .val (.int us), .unset, .unset, .unset, .unset] [(.int us)])) _
    refine XS.iconst X0.here hx rfl (hb hby at_2) ?_
    show Steps p.tables e below (s₁.setTop (mkF m 3 #[.val (.long uA), .second, .val (.long uB), .second, .val (.long uC), .second, .val (.long uJ), .second, .val (.int us), .unset, .unset, .unset, .unset] [(.int (3 : Int32)), (.int us)])) _
    refine XS.iand X0.here hx rfl (hb hby at_3) rfl ?_
    show Steps p.tables e below (s₁.setTop (mkF m 4 #[.val (.long uA), .second, .val (.long uB), .second, .val (.long uC), .second, .val (.long uJ), .second, .val (.int us), .unset, .unset, .unset, .unset] [(.int (us &&& (3 : Int32)))])) _
    refine XS.istore X0.here hx rfl (hb hby at_4) rfl (l' := #[.val (.long uA), .second, .val (.long uB), .second, .val (.long uC), .second, .val (.long uJ), .second, .val (.int us), .val (.int (us &&& (3 : Int32))), .unset, .unset, .unset]) rfl ?_
    show Steps p.tables e below (s₁.setTop (mkF m 6 #[.val (.long uA), .second, .val (.long uB), .second, .val (.long uC), .second, .val (.long uJ), .second, .val (.int us), .val (.int (us &&& (3 : Int32))), .unset, .unset, .unset] [])) _
    refine XS.iload X0.here hx rfl (hb hby at_6) rfl ?_
    show Steps p.tables e below (s₁.setTop (mkF m 8 #[.val (.long uA), .second, .val (.long uB), .second, .val (.long uC), .second, .val (.long uJ), .second, .val (.int us), .val (.int (us &&& (3 : Int32))), .unset, .unset, .unset] [(.int us)])) _
    refine XS.iconst X0.here hx rfl (hb hby at_8) ?_
    show Steps p.tables e below (s₁.setTop (mkF m 9 #[.val (.long uA), .second, .val (.long uB), .second, .val (.long uC), .second, .val (.long uJ), .second, .val (.int us), .val (.int (us &&& (3 : Int32))), .unset, .unset, .unset] [(.int (2 : Int32)), (.int us)])) _
    refine XS.iushr X0.here hx rfl (hb hby at_9) rfl ?_
    show Steps p.tables e below (s₁.setTop (mkF m 10 #[.val (.long uA), .second, .val (.long uB), .second, .val (.long uC), .second, .val (.long uJ), .second, .val (.int us), .val (.int (us &&& (3 : Int32))), .unset, .unset, .unset] [(.int ((us.toUInt32 >>> ((2 : Int32) &&& 31).toUInt32).toInt32))])) _
    refine X0.ldcInt hx hown (mvT hZ (hw _ (List.mem_of_getElem? (i := 0) rfl))) (g := (mkF m 10 #[.val (.long uA), .second, .val (.long uB), .second, .val (.long uC), .second, .val (.long uJ), .second, .val (.int us), .val (.int (us &&& (3 : Int32))), .unset, .unset, .unset] [(.int ((us.toUInt32 >>> ((2 : Int32) &&& 31).toUInt32).toInt32))])) rfl (hb hby at_10) _ ?_
    show Steps p.tables e below (s₁.setTop (mkF m 12 #[.val (.long uA), .second, .val (.long uB), .second, .val (.long uC), .second, .val (.long uJ), .second, .val (.int us), .val (.int (us &&& (3 : Int32))), .unset, .unset, .unset] [(.int (2147483647 : Int32)), (.int ((us.toUInt32 >>> ((2 : Int32) &&& 31).toUInt32).toInt32))])) _
    refine XS.iand X0.here hx rfl (hb hby at_12) rfl ?_
    show Steps p.tables e below (s₁.setTop (mkF m 13 #[.val (.long uA), .second, .val (.long uB), .second, .val (.long uC), .second, .val (.long uJ), .second, .val (.int us), .val (.int (us &&& (3 : Int32))), .unset, .unset, .unset] [(.int (((us.toUInt32 >>> ((2 : Int32) &&& 31).toUInt32).toInt32) &&& (2147483647 : Int32)))])) _
    refine XS.iconst X0.here hx rfl (hb hby at_13) ?_
    show Steps p.tables e below (s₁.setTop (mkF m 14 #[.val (.long uA), .second, .val (.long uB), .second, .val (.long uC), .second, .val (.long uJ), .second, .val (.int us), .val (.int (us &&& (3 : Int32))), .unset, .unset, .unset] [(.int (3 : Int32)), (.int (((us.toUInt32 >>> ((2 : Int32) &&& 31).toUInt32).toInt32) &&& (2147483647 : Int32)))])) _
    refine iremM X0 hx rfl (hb hby at_14) rfl (by decide) ?_
    show Steps p.tables e below (s₁.setTop (mkF m 15 #[.val (.long uA), .second, .val (.long uB), .second, .val (.long uC), .second, .val (.long uJ), .second, .val (.int us), .val (.int (us &&& (3 : Int32))), .unset, .unset, .unset] [(.int ((((us.toUInt32 >>> ((2 : Int32) &&& 31).toUInt32).toInt32) &&& (2147483647 : Int32)) % (3 : Int32)))])) _
    rw [← huo]
    show Steps p.tables e below (s₁.setTop (mkF m 15 #[.val (.long uA), .second, .val (.long uB), .second, .val (.long uC), .second, .val (.long uJ), .second, .val (.int us), .val (.int (us &&& (3 : Int32))), .unset, .unset, .unset] [(.int uo)])) _
    refine XS.istore X0.here hx rfl (hb hby at_15) rfl (l' := #[.val (.long uA), .second, .val (.long uB), .second, .val (.long uC), .second, .val (.long uJ), .second, .val (.int us), .val (.int (us &&& (3 : Int32))), .val (.int uo), .unset, .unset]) rfl ?_
    show Steps p.tables e below (s₁.setTop (mkF m 17 #[.val (.long uA), .second, .val (.long uB), .second, .val (.long uC), .second, .val (.long uJ), .second, .val (.int us), .val (.int (us &&& (3 : Int32))), .val (.int uo), .unset, .unset] [])) _
    refine XS.iconst X0.here hx rfl (hb hby at_17) ?_
    show Steps p.tables e below (s₁.setTop (mkF m 18 #[.val (.long uA), .second, .val (.long uB), .second, .val (.long uC), .second, .val (.long uJ), .second, .val (.int us), .val (.int (us &&& (3 : Int32))), .val (.int uo), .unset, .unset] [(.int (5 : Int32))])) _
    refine st1 _ ?_
    show Steps p.tables e below (T1.setTop (mkF m 20 #[.val (.long uA), .second, .val (.long uB), .second, .val (.long uC), .second, .val (.long uJ), .second, .val (.int us), .val (.int (us &&& (3 : Int32))), .val (.int uo), .unset, .unset] [(.ref bb)])) _
    refine XS.astore X1.here hx rfl (hb hby at_20) rfl rfl (l' := #[.val (.long uA), .second, .val (.long uB), .second, .val (.long uC), .second, .val (.long uJ), .second, .val (.int us), .val (.int (us &&& (3 : Int32))), .val (.int uo), .val (.ref bb), .unset]) rfl ?_
    show Steps p.tables e below (T1.setTop (mkF m 22 #[.val (.long uA), .second, .val (.long uB), .second, .val (.long uC), .second, .val (.long uJ), .second, .val (.int us), .val (.int (us &&& (3 : Int32))), .val (.int uo), .val (.ref bb), .unset] [])) _
    refine XS.aload X1.here hx rfl (hb hby at_22) rfl rfl ?_
    show Steps p.tables e below (T1.setTop (mkF m 24 #[.val (.long uA), .second, .val (.long uB), .second, .val (.long uC), .second, .val (.long uJ), .second, .val (.int us), .val (.int (us &&& (3 : Int32))), .val (.int uo), .val (.ref bb), .unset] [(.ref bb)])) _
    refine XS.iconst X1.here hx rfl (hb hby at_24) ?_
    show Steps p.tables e below (T1.setTop (mkF m 25 #[.val (.long uA), .second, .val (.long uB), .second, .val (.long uC), .second, .val (.long uJ), .second, .val (.int us), .val (.int (us &&& (3 : Int32))), .val (.int uo), .val (.ref bb), .unset] [(.int (0 : Int32)), (.ref bb)])) _
    refine XS.lload X1.here hx rfl (hb hby at_25) rfl ?_
    show Steps p.tables e below (T1.setTop (mkF m 27 #[.val (.long uA), .second, .val (.long uB), .second, .val (.long uC), .second, .val (.long uJ), .second, .val (.int us), .val (.int (us &&& (3 : Int32))), .val (.int uo), .val (.ref bb), .unset] [(.long uJ), (.int (0 : Int32)), (.ref bb)])) _
    refine st3 _ ?_
    show Steps p.tables e below (T3.setTop (mkF m 28 #[.val (.long uA), .second, .val (.long uB), .second, .val (.long uC), .second, .val (.long uJ), .second, .val (.int us), .val (.int (us &&& (3 : Int32))), .val (.int uo), .val (.ref bb), .unset] [])) _
    refine XS.aload X3.here hx rfl (hb hby at_28) rfl rfl ?_
    show Steps p.tables e below (T3.setTop (mkF m 30 #[.val (.long uA), .second, .val (.long uB), .second, .val (.long uC), .second, .val (.long uJ), .second, .val (.int us), .val (.int (us &&& (3 : Int32))), .val (.int uo), .val (.ref bb), .unset] [(.ref bb)])) _
    refine XS.iconst X3.here hx rfl (hb hby at_30) ?_
    show Steps p.tables e below (T3.setTop (mkF m 31 #[.val (.long uA), .second, .val (.long uB), .second, .val (.long uC), .second, .val (.long uJ), .second, .val (.int us), .val (.int (us &&& (3 : Int32))), .val (.int uo), .val (.ref bb), .unset] [(.int (1 : Int32)), (.ref bb)])) _
    refine XS.lload X3.here hx rfl (hb hby at_31) rfl ?_
    show Steps p.tables e below (T3.setTop (mkF m 33 #[.val (.long uA), .second, .val (.long uB), .second, .val (.long uC), .second, .val (.long uJ), .second, .val (.int us), .val (.int (us &&& (3 : Int32))), .val (.int uo), .val (.ref bb), .unset] [(.long uJ), (.int (1 : Int32)), (.ref bb)])) _
    refine st4 _ ?_
    show Steps p.tables e below (T4.setTop (mkF m 34 #[.val (.long uA), .second, .val (.long uB), .second, .val (.long uC), .second, .val (.long uJ), .second, .val (.int us), .val (.int (us &&& (3 : Int32))), .val (.int uo), .val (.ref bb), .unset] [])) _
    refine XS.aload X4.here hx rfl (hb hby at_34) rfl rfl ?_
    show Steps p.tables e below (T4.setTop (mkF m 36 #[.val (.long uA), .second, .val (.long uB), .second, .val (.long uC), .second, .val (.long uJ), .second, .val (.int us), .val (.int (us &&& (3 : Int32))), .val (.int uo), .val (.ref bb), .unset] [(.ref bb)])) _
    refine XS.iconst X4.here hx rfl (hb hby at_36) ?_
    show Steps p.tables e below (T4.setTop (mkF m 37 #[.val (.long uA), .second, .val (.long uB), .second, .val (.long uC), .second, .val (.long uJ), .second, .val (.int us), .val (.int (us &&& (3 : Int32))), .val (.int uo), .val (.ref bb), .unset] [(.int (2 : Int32)), (.ref bb)])) _
    refine XS.lload X4.here hx rfl (hb hby at_37) rfl ?_
    show Steps p.tables e below (T4.setTop (mkF m 39 #[.val (.long uA), .second, .val (.long uB), .second, .val (.long uC), .second, .val (.long uJ), .second, .val (.int us), .val (.int (us &&& (3 : Int32))), .val (.int uo), .val (.ref bb), .unset] [(.long uJ), (.int (2 : Int32)), (.ref bb)])) _
    refine st5 _ ?_
    show Steps p.tables e below (T5.setTop (mkF m 40 #[.val (.long uA), .second, .val (.long uB), .second, .val (.long uC), .second, .val (.long uJ), .second, .val (.int us), .val (.int (us &&& (3 : Int32))), .val (.int uo), .val (.ref bb), .unset] [])) _
    refine XS.aload X5.here hx rfl (hb hby at_40) rfl rfl ?_
    show Steps p.tables e below (T5.setTop (mkF m 42 #[.val (.long uA), .second, .val (.long uB), .second, .val (.long uC), .second, .val (.long uJ), .second, .val (.int us), .val (.int (us &&& (3 : Int32))), .val (.int uo), .val (.ref bb), .unset] [(.ref bb)])) _
    refine XS.iconst X5.here hx rfl (hb hby at_42) ?_
    show Steps p.tables e below (T5.setTop (mkF m 43 #[.val (.long uA), .second, .val (.long uB), .second, .val (.long uC), .second, .val (.long uJ), .second, .val (.int us), .val (.int (us &&& (3 : Int32))), .val (.int uo), .val (.ref bb), .unset] [(.int (3 : Int32)), (.ref bb)])) _
    refine XS.lload X5.here hx rfl (hb hby at_43) rfl ?_
    show Steps p.tables e below (T5.setTop (mkF m 45 #[.val (.long uA), .second, .val (.long uB), .second, .val (.long uC), .second, .val (.long uJ), .second, .val (.int us), .val (.int (us &&& (3 : Int32))), .val (.int uo), .val (.ref bb), .unset] [(.long uJ), (.int (3 : Int32)), (.ref bb)])) _
    refine st6 _ ?_
    show Steps p.tables e below (T6.setTop (mkF m 46 #[.val (.long uA), .second, .val (.long uB), .second, .val (.long uC), .second, .val (.long uJ), .second, .val (.int us), .val (.int (us &&& (3 : Int32))), .val (.int uo), .val (.ref bb), .unset] [])) _
    refine XS.aload X6.here hx rfl (hb hby at_46) rfl rfl ?_
    show Steps p.tables e below (T6.setTop (mkF m 48 #[.val (.long uA), .second, .val (.long uB), .second, .val (.long uC), .second, .val (.long uJ), .second, .val (.int us), .val (.int (us &&& (3 : Int32))), .val (.int uo), .val (.ref bb), .unset] [(.ref bb)])) _
    refine XS.iconst X6.here hx rfl (hb hby at_48) ?_
    show Steps p.tables e below (T6.setTop (mkF m 49 #[.val (.long uA), .second, .val (.long uB), .second, .val (.long uC), .second, .val (.long uJ), .second, .val (.int us), .val (.int (us &&& (3 : Int32))), .val (.int uo), .val (.ref bb), .unset] [(.int (4 : Int32)), (.ref bb)])) _
    refine XS.lload X6.here hx rfl (hb hby at_49) rfl ?_
    show Steps p.tables e below (T6.setTop (mkF m 51 #[.val (.long uA), .second, .val (.long uB), .second, .val (.long uC), .second, .val (.long uJ), .second, .val (.int us), .val (.int (us &&& (3 : Int32))), .val (.int uo), .val (.ref bb), .unset] [(.long uJ), (.int (4 : Int32)), (.ref bb)])) _
    refine st7 _ ?_
    show Steps p.tables e below (T7.setTop (mkF m 52 #[.val (.long uA), .second, .val (.long uB), .second, .val (.long uC), .second, .val (.long uJ), .second, .val (.int us), .val (.int (us &&& (3 : Int32))), .val (.int uo), .val (.ref bb), .unset] [])) _
    refine XS.iload X7.here hx rfl (hb hby at_52) rfl ?_
    show Steps p.tables e below (T7.setTop (mkF m 54 #[.val (.long uA), .second, .val (.long uB), .second, .val (.long uC), .second, .val (.long uJ), .second, .val (.int us), .val (.int (us &&& (3 : Int32))), .val (.int uo), .val (.ref bb), .unset] [(.int (us &&& (3 : Int32)))])) _
    refine XS.iconst X7.here hx rfl (hb hby at_54) ?_
    show Steps p.tables e below (T7.setTop (mkF m 55 #[.val (.long uA), .second, .val (.long uB), .second, .val (.long uC), .second, .val (.long uJ), .second, .val (.int us), .val (.int (us &&& (3 : Int32))), .val (.int uo), .val (.ref bb), .unset] [(.int (1 : Int32)), (.int (us &&& (3 : Int32)))])) _
    refine XS.icmpYes X7.here hx rfl (pc0 := 55) (pc' := 64) rfl (hb hby at_55) rfl (tlt (by rw [Int32.lt_iff_toInt_lt]; omega)).1 (by decide) (by decide) ?_
    show Steps p.tables e below (T7.setTop (mkF m 64 #[.val (.long uA), .second, .val (.long uB), .second, .val (.long uC), .second, .val (.long uJ), .second, .val (.int us), .val (.int (us &&& (3 : Int32))), .val (.int uo), .val (.ref bb), .unset] [])) _
    refine XS.iload X7.here hx rfl (hb hby at_64) rfl ?_
    show Steps p.tables e below (T7.setTop (mkF m 66 #[.val (.long uA), .second, .val (.long uB), .second, .val (.long uC), .second, .val (.long uJ), .second, .val (.int us), .val (.int (us &&& (3 : Int32))), .val (.int uo), .val (.ref bb), .unset] [(.int (us &&& (3 : Int32)))])) _
    refine XS.iconst X7.here hx rfl (hb hby at_66) ?_
    show Steps p.tables e below (T7.setTop (mkF m 67 #[.val (.long uA), .second, .val (.long uB), .second, .val (.long uC), .second, .val (.long uJ), .second, .val (.int us), .val (.int (us &&& (3 : Int32))), .val (.int uo), .val (.ref bb), .unset] [(.int (2 : Int32)), (.int (us &&& (3 : Int32)))])) _
    refine XS.icmpYes X7.here hx rfl (pc0 := 67) (pc' := 78) rfl (hb hby at_67) rfl (tlt (by rw [Int32.lt_iff_toInt_lt]; omega)).1 (by decide) (by decide) ?_
    show Steps p.tables e below (T7.setTop (mkF m 78 #[.val (.long uA), .second, .val (.long uB), .second, .val (.long uC), .second, .val (.long uJ), .second, .val (.int us), .val (.int (us &&& (3 : Int32))), .val (.int uo), .val (.ref bb), .unset] [])) _
    refine XS.iload X7.here hx rfl (hb hby at_78) rfl ?_
    show Steps p.tables e below (T7.setTop (mkF m 80 #[.val (.long uA), .second, .val (.long uB), .second, .val (.long uC), .second, .val (.long uJ), .second, .val (.int us), .val (.int (us &&& (3 : Int32))), .val (.int uo), .val (.ref bb), .unset] [(.int (us &&& (3 : Int32)))])) _
    refine XS.iconst X7.here hx rfl (hb hby at_80) ?_
    show Steps p.tables e below (T7.setTop (mkF m 81 #[.val (.long uA), .second, .val (.long uB), .second, .val (.long uC), .second, .val (.long uJ), .second, .val (.int us), .val (.int (us &&& (3 : Int32))), .val (.int uo), .val (.ref bb), .unset] [(.int (3 : Int32)), (.int (us &&& (3 : Int32)))])) _
    refine XS.icmpYes X7.here hx rfl (pc0 := 81) (pc' := 93) rfl (hb hby at_81) rfl (tlt (by rw [Int32.lt_iff_toInt_lt]; omega)).1 (by decide) (by decide) ?_
    show Steps p.tables e below (T7.setTop (mkF m 93 #[.val (.long uA), .second, .val (.long uB), .second, .val (.long uC), .second, .val (.long uJ), .second, .val (.int us), .val (.int (us &&& (3 : Int32))), .val (.int uo), .val (.ref bb), .unset] [])) _
    refine XS.aload X7.here hx rfl (hb hby at_93) rfl rfl ?_
    show Steps p.tables e below (T7.setTop (mkF m 95 #[.val (.long uA), .second, .val (.long uB), .second, .val (.long uC), .second, .val (.long uJ), .second, .val (.int us), .val (.int (us &&& (3 : Int32))), .val (.int uo), .val (.ref bb), .unset] [(.ref bb)])) _
    refine XS.iload X7.here hx rfl (hb hby at_95) rfl ?_
    show Steps p.tables e below (T7.setTop (mkF m 97 #[.val (.long uA), .second, .val (.long uB), .second, .val (.long uC), .second, .val (.long uJ), .second, .val (.int us), .val (.int (us &&& (3 : Int32))), .val (.int uo), .val (.ref bb), .unset] [(.int uo), (.ref bb)])) _
    refine XS.iload X7.here hx rfl (hb hby at_97) rfl ?_
    show Steps p.tables e below (T7.setTop (mkF m 99 #[.val (.long uA), .second, .val (.long uB), .second, .val (.long uC), .second, .val (.long uJ), .second, .val (.int us), .val (.int (us &&& (3 : Int32))), .val (.int uo), .val (.ref bb), .unset] [(.int uo), (.int uo), (.ref bb)])) _
    refine XS.iload X7.here hx rfl (hb hby at_99) rfl ?_
    show Steps p.tables e below (T7.setTop (mkF m 101 #[.val (.long uA), .second, .val (.long uB), .second, .val (.long uC), .second, .val (.long uJ), .second, .val (.int us), .val (.int (us &&& (3 : Int32))), .val (.int uo), .val (.ref bb), .unset] [(.int (us &&& (3 : Int32))), (.int uo), (.int uo), (.ref bb)])) _
    refine XS.iadd X7.here hx rfl (hb hby at_101) rfl ?_
    show Steps p.tables e below (T7.setTop (mkF m 102 #[.val (.long uA), .second, .val (.long uB), .second, .val (.long uC), .second, .val (.long uJ), .second, .val (.int us), .val (.int (us &&& (3 : Int32))), .val (.int uo), .val (.ref bb), .unset] [(.int (uo + (us &&& (3 : Int32)))), (.int uo), (.ref bb)])) _
    refine st8 _ ?_
    show Steps p.tables e below (T8.setTop (mkF m 105 #[.val (.long uA), .second, .val (.long uB), .second, .val (.long uC), .second, .val (.long uJ), .second, .val (.int us), .val (.int (us &&& (3 : Int32))), .val (.int uo), .val (.ref bb), .unset] [(.int (((((0 : Int64) ^^^ (((0 : Int64).toUInt64 >>> ((32 : Int32) &&& 0x3f).toInt64.toUInt64).toInt64)) * (-2960836687051489901 : Int64)) ^^^ (((((0 : Int64) ^^^ (((0 : Int64).toUInt64 >>> ((32 : Int32) &&& 0x3f).toInt64.toUInt64).toInt64)) * (-2960836687051489901 : Int64)).toUInt64 >>> ((32 : Int32) &&& 0x3f).toInt64.toUInt64).toInt64)).toInt32))])) _
    refine XS.istore X8.here hx rfl (hb hby at_105) rfl (l' := #[.val (.long uA), .second, .val (.long uB), .second, .val (.long uC), .second, .val (.long uJ), .second, .val (.int us), .val (.int (us &&& (3 : Int32))), .val (.int uo), .val (.ref bb), .val (.int (((((0 : Int64) ^^^ (((0 : Int64).toUInt64 >>> ((32 : Int32) &&& 0x3f).toInt64.toUInt64).toInt64)) * (-2960836687051489901 : Int64)) ^^^ (((((0 : Int64) ^^^ (((0 : Int64).toUInt64 >>> ((32 : Int32) &&& 0x3f).toInt64.toUInt64).toInt64)) * (-2960836687051489901 : Int64)).toUInt64 >>> ((32 : Int32) &&& 0x3f).toInt64.toUInt64).toInt64)).toInt32))]) rfl ?_
    show Steps p.tables e below (T8.setTop (mkF m 107 #[.val (.long uA), .second, .val (.long uB), .second, .val (.long uC), .second, .val (.long uJ), .second, .val (.int us), .val (.int (us &&& (3 : Int32))), .val (.int uo), .val (.ref bb), .val (.int (((((0 : Int64) ^^^ (((0 : Int64).toUInt64 >>> ((32 : Int32) &&& 0x3f).toInt64.toUInt64).toInt64)) * (-2960836687051489901 : Int64)) ^^^ (((((0 : Int64) ^^^ (((0 : Int64).toUInt64 >>> ((32 : Int32) &&& 0x3f).toInt64.toUInt64).toInt64)) * (-2960836687051489901 : Int64)).toUInt64 >>> ((32 : Int32) &&& 0x3f).toInt64.toUInt64).toInt64)).toInt32))] [])) _
    refine XS.iload X8.here hx rfl (hb hby at_107) rfl ?_
    show Steps p.tables e below (T8.setTop (mkF m 109 #[.val (.long uA), .second, .val (.long uB), .second, .val (.long uC), .second, .val (.long uJ), .second, .val (.int us), .val (.int (us &&& (3 : Int32))), .val (.int uo), .val (.ref bb), .val (.int (((((0 : Int64) ^^^ (((0 : Int64).toUInt64 >>> ((32 : Int32) &&& 0x3f).toInt64.toUInt64).toInt64)) * (-2960836687051489901 : Int64)) ^^^ (((((0 : Int64) ^^^ (((0 : Int64).toUInt64 >>> ((32 : Int32) &&& 0x3f).toInt64.toUInt64).toInt64)) * (-2960836687051489901 : Int64)).toUInt64 >>> ((32 : Int32) &&& 0x3f).toInt64.toUInt64).toInt64)).toInt32))] [(.int (((((0 : Int64) ^^^ (((0 : Int64).toUInt64 >>> ((32 : Int32) &&& 0x3f).toInt64.toUInt64).toInt64)) * (-2960836687051489901 : Int64)) ^^^ (((((0 : Int64) ^^^ (((0 : Int64).toUInt64 >>> ((32 : Int32) &&& 0x3f).toInt64.toUInt64).toInt64)) * (-2960836687051489901 : Int64)).toUInt64 >>> ((32 : Int32) &&& 0x3f).toInt64.toUInt64).toInt64)).toInt32))])) _
    refine XS.lloadN X8.here hx rfl (hb hby at_109) rfl ?_
    show Steps p.tables e below (T8.setTop (mkF m 110 #[.val (.long uA), .second, .val (.long uB), .second, .val (.long uC), .second, .val (.long uJ), .second, .val (.int us), .val (.int (us &&& (3 : Int32))), .val (.int uo), .val (.ref bb), .val (.int (((((0 : Int64) ^^^ (((0 : Int64).toUInt64 >>> ((32 : Int32) &&& 0x3f).toInt64.toUInt64).toInt64)) * (-2960836687051489901 : Int64)) ^^^ (((((0 : Int64) ^^^ (((0 : Int64).toUInt64 >>> ((32 : Int32) &&& 0x3f).toInt64.toUInt64).toInt64)) * (-2960836687051489901 : Int64)).toUInt64 >>> ((32 : Int32) &&& 0x3f).toInt64.toUInt64).toInt64)).toInt32))] [(.long uA), (.int (((((0 : Int64) ^^^ (((0 : Int64).toUInt64 >>> ((32 : Int32) &&& 0x3f).toInt64.toUInt64).toInt64)) * (-2960836687051489901 : Int64)) ^^^ (((((0 : Int64) ^^^ (((0 : Int64).toUInt64 >>> ((32 : Int32) &&& 0x3f).toInt64.toUInt64).toInt64)) * (-2960836687051489901 : Int64)).toUInt64 >>> ((32 : Int32) &&& 0x3f).toInt64.toUInt64).toInt64)).toInt32))])) _
    refine XS.lloadN X8.here hx rfl (hb hby at_110) rfl ?_
    show Steps p.tables e below (T8.setTop (mkF m 111 #[.val (.long uA), .second, .val (.long uB), .second, .val (.long uC), .second, .val (.long uJ), .second, .val (.int us), .val (.int (us &&& (3 : Int32))), .val (.int uo), .val (.ref bb), .val (.int (((((0 : Int64) ^^^ (((0 : Int64).toUInt64 >>> ((32 : Int32) &&& 0x3f).toInt64.toUInt64).toInt64)) * (-2960836687051489901 : Int64)) ^^^ (((((0 : Int64) ^^^ (((0 : Int64).toUInt64 >>> ((32 : Int32) &&& 0x3f).toInt64.toUInt64).toInt64)) * (-2960836687051489901 : Int64)).toUInt64 >>> ((32 : Int32) &&& 0x3f).toInt64.toUInt64).toInt64)).toInt32))] [(.long uB), (.long uA), (.int (((((0 : Int64) ^^^ (((0 : Int64).toUInt64 >>> ((32 : Int32) &&& 0x3f).toInt64.toUInt64).toInt64)) * (-2960836687051489901 : Int64)) ^^^ (((((0 : Int64) ^^^ (((0 : Int64).toUInt64 >>> ((32 : Int32) &&& 0x3f).toInt64.toUInt64).toInt64)) * (-2960836687051489901 : Int64)).toUInt64 >>> ((32 : Int32) &&& 0x3f).toInt64.toUInt64).toInt64)).toInt32))])) _
    refine XS.lload X8.here hx rfl (hb hby at_111) rfl ?_
    show Steps p.tables e below (T8.setTop (mkF m 113 #[.val (.long uA), .second, .val (.long uB), .second, .val (.long uC), .second, .val (.long uJ), .second, .val (.int us), .val (.int (us &&& (3 : Int32))), .val (.int uo), .val (.ref bb), .val (.int (((((0 : Int64) ^^^ (((0 : Int64).toUInt64 >>> ((32 : Int32) &&& 0x3f).toInt64.toUInt64).toInt64)) * (-2960836687051489901 : Int64)) ^^^ (((((0 : Int64) ^^^ (((0 : Int64).toUInt64 >>> ((32 : Int32) &&& 0x3f).toInt64.toUInt64).toInt64)) * (-2960836687051489901 : Int64)).toUInt64 >>> ((32 : Int32) &&& 0x3f).toInt64.toUInt64).toInt64)).toInt32))] [(.long uC), (.long uB), (.long uA), (.int (((((0 : Int64) ^^^ (((0 : Int64).toUInt64 >>> ((32 : Int32) &&& 0x3f).toInt64.toUInt64).toInt64)) * (-2960836687051489901 : Int64)) ^^^ (((((0 : Int64) ^^^ (((0 : Int64).toUInt64 >>> ((32 : Int32) &&& 0x3f).toInt64.toUInt64).toInt64)) * (-2960836687051489901 : Int64)).toUInt64 >>> ((32 : Int32) &&& 0x3f).toInt64.toUInt64).toInt64)).toInt32))])) _
    refine XS.iload X8.here hx rfl (hb hby at_113) rfl ?_
    show Steps p.tables e below (T8.setTop (mkF m 115 #[.val (.long uA), .second, .val (.long uB), .second, .val (.long uC), .second, .val (.long uJ), .second, .val (.int us), .val (.int (us &&& (3 : Int32))), .val (.int uo), .val (.ref bb), .val (.int (((((0 : Int64) ^^^ (((0 : Int64).toUInt64 >>> ((32 : Int32) &&& 0x3f).toInt64.toUInt64).toInt64)) * (-2960836687051489901 : Int64)) ^^^ (((((0 : Int64) ^^^ (((0 : Int64).toUInt64 >>> ((32 : Int32) &&& 0x3f).toInt64.toUInt64).toInt64)) * (-2960836687051489901 : Int64)).toUInt64 >>> ((32 : Int32) &&& 0x3f).toInt64.toUInt64).toInt64)).toInt32))] [(.int (us &&& (3 : Int32))), (.long uC), (.long uB), (.long uA), (.int (((((0 : Int64) ^^^ (((0 : Int64).toUInt64 >>> ((32 : Int32) &&& 0x3f).toInt64.toUInt64).toInt64)) * (-2960836687051489901 : Int64)) ^^^ (((((0 : Int64) ^^^ (((0 : Int64).toUInt64 >>> ((32 : Int32) &&& 0x3f).toInt64.toUInt64).toInt64)) * (-2960836687051489901 : Int64)).toUInt64 >>> ((32 : Int32) &&& 0x3f).toInt64.toUInt64).toInt64)).toInt32))])) _
    refine st9 _ ?_
    show Steps p.tables e below (T9.setTop (mkF m 118 #[.val (.long uA), .second, .val (.long uB), .second, .val (.long uC), .second, .val (.long uJ), .second, .val (.int us), .val (.int (us &&& (3 : Int32))), .val (.int uo), .val (.ref bb), .val (.int (((((0 : Int64) ^^^ (((0 : Int64).toUInt64 >>> ((32 : Int32) &&& 0x3f).toInt64.toUInt64).toInt64)) * (-2960836687051489901 : Int64)) ^^^ (((((0 : Int64) ^^^ (((0 : Int64).toUInt64 >>> ((32 : Int32) &&& 0x3f).toInt64.toUInt64).toInt64)) * (-2960836687051489901 : Int64)).toUInt64 >>> ((32 : Int32) &&& 0x3f).toInt64.toUInt64).toInt64)).toInt32))] [(.int (((((0 : Int64) ^^^ (((0 : Int64).toUInt64 >>> ((32 : Int32) &&& 0x3f).toInt64.toUInt64).toInt64)) * (-2960836687051489901 : Int64)) ^^^ (((((0 : Int64) ^^^ (((0 : Int64).toUInt64 >>> ((32 : Int32) &&& 0x3f).toInt64.toUInt64).toInt64)) * (-2960836687051489901 : Int64)).toUInt64 >>> ((32 : Int32) &&& 0x3f).toInt64.toUInt64).toInt64)).toInt32)), (.int (((((0 : Int64) ^^^ (((0 : Int64).toUInt64 >>> ((32 : Int32) &&& 0x3f).toInt64.toUInt64).toInt64)) * (-2960836687051489901 : Int64)) ^^^ (((((0 : Int64) ^^^ (((0 : Int64).toUInt64 >>> ((32 : Int32) &&& 0x3f).toInt64.toUInt64).toInt64)) * (-2960836687051489901 : Int64)).toUInt64 >>> ((32 : Int32) &&& 0x3f).toInt64.toUInt64).toInt64)).toInt32))])) _
    refine XS.icmpNo X9.here hx rfl (hb hby at_118) rfl (teq rfl).2 ?_
    show Steps p.tables e below (T9.setTop (mkF m 121 #[.val (.long uA), .second, .val (.long uB), .second, .val (.long uC), .second, .val (.long uJ), .second, .val (.int us), .val (.int (us &&& (3 : Int32))), .val (.int uo), .val (.ref bb), .val (.int (((((0 : Int64) ^^^ (((0 : Int64).toUInt64 >>> ((32 : Int32) &&& 0x3f).toInt64.toUInt64).toInt64)) * (-2960836687051489901 : Int64)) ^^^ (((((0 : Int64) ^^^ (((0 : Int64).toUInt64 >>> ((32 : Int32) &&& 0x3f).toInt64.toUInt64).toInt64)) * (-2960836687051489901 : Int64)).toUInt64 >>> ((32 : Int32) &&& 0x3f).toInt64.toUInt64).toInt64)).toInt32))] [])) _
    refine XS.iconst X9.here hx rfl (hb hby at_121) ?_
    show Steps p.tables e below (T9.setTop (mkF m 122 #[.val (.long uA), .second, .val (.long uB), .second, .val (.long uC), .second, .val (.long uJ), .second, .val (.int us), .val (.int (us &&& (3 : Int32))), .val (.int uo), .val (.ref bb), .val (.int (((((0 : Int64) ^^^ (((0 : Int64).toUInt64 >>> ((32 : Int32) &&& 0x3f).toInt64.toUInt64).toInt64)) * (-2960836687051489901 : Int64)) ^^^ (((((0 : Int64) ^^^ (((0 : Int64).toUInt64 >>> ((32 : Int32) &&& 0x3f).toInt64.toUInt64).toInt64)) * (-2960836687051489901 : Int64)).toUInt64 >>> ((32 : Int32) &&& 0x3f).toInt64.toUInt64).toInt64)).toInt32))] [(.int (1 : Int32))])) _
    refine XS.goto X9.here hx rfl (pc0 := 122) (pc' := 126) rfl (hb hby at_122) (by decide) (by decide) ?_
    show Steps p.tables e below (T9.setTop (mkF m 126 #[.val (.long uA), .second, .val (.long uB), .second, .val (.long uC), .second, .val (.long uJ), .second, .val (.int us), .val (.int (us &&& (3 : Int32))), .val (.int uo), .val (.ref bb), .val (.int (((((0 : Int64) ^^^ (((0 : Int64).toUInt64 >>> ((32 : Int32) &&& 0x3f).toInt64.toUInt64).toInt64)) * (-2960836687051489901 : Int64)) ^^^ (((((0 : Int64) ^^^ (((0 : Int64).toUInt64 >>> ((32 : Int32) &&& 0x3f).toInt64.toUInt64).toInt64)) * (-2960836687051489901 : Int64)).toUInt64 >>> ((32 : Int32) &&& 0x3f).toInt64.toUInt64).toInt64)).toInt32))] [(.int (1 : Int32))])) _
    exact retN X9 hx (t := .boolean) Bd.returns (by simp) (hb hby at_126) hr
  · show Q0a Z uA uB uC uJ us h0 n0 _ T9.heap _
    rw [e9q]
    exact ⟨rfl, N9⟩
theorem ef_0b (m : MethodId) (x0 : Int64) (x1 : Int64) (x2 : Int64) (x3 : Int64) (x4 : Int32) : entryFrame m #[(.long x0), (.long x1), (.long x2), (.long x3), (.int x4)] maxLocals = mkF m 0 #[.val (.long x0), .second, .val (.long x1), .second, .val (.long x2), .second, .val (.long x3), .second, .val (.int x4), .unset, .unset, .unset, .unset] [] := by first | (simp [entryFrame, mkF, argsToLocals, Value.category, maxLocals]; done) | rfl
set_option maxRecDepth 65536 in
set_option maxHeartbeats 40000000 in
theorem rm0b (l : Launch) (Z : State) (a0 : Array Value) (hw : ∀ d ∈ tables_1, d.before a0 Z = true) (ws : List Jvm.Cond) (uA : Int64) (uB : Int64) (uC : Int64) (uJ : Int64) (us : Int32) (h0 : Heap) (n0 : Nat) (Z0 : n0 ≤ h0.size) (hk : (us &&& (3 : Int32)).toInt = 1) :
    MetFree l x (head1 (Jvm.Cond.code x code maxLocals ret :: ws) room_1) (fun a U => a = #[(.long uA), (.long uB), (.long uC), (.long uJ), (.int us)] ∧ Z.Warmed39 U.vm ∧ U.heap = h0) (fun _ _ _ _ _ => True) (fun _ U o U' => ∃ v L, o = .returned v ∧ Q0a Z uA uB uC uJ us h0 n0 v U'.heap L ∧ FrameEnd U o U' L 1 5) := by
  refine MetFree.of_bodySF (plainFor_of_name pn_0) hisR ?_
  intro p e s m args below meth c s₁ Bd hml0 hP hK
  obtain ⟨rfl, hZ, hh⟩ := hP
  have hx := Bd.exec
  have hby := Bd.bytes
  have hml : c.maxLocals = 13 := hml0
  have hown : s.vm.findClass "com/example/assured_timing/assuredtiming/simulation/ConfigurationHashPinLaw" = some m.cls := findClass_of_methodNamed Bd.named
  have hnm := (name_of_methodNamed Bd.named Bd.method).1
  have X0 : Stand p l e room_1 s m #[(.long uA), (.long uB), (.long uC), (.long uJ), (.int us)] below meth c s₁ [] 0 0 := Stand.of_body Bd
  have e0 : s₁.heap = h0 := by rw [← hh, Bd.state]; rfl
  have N0 := Fr.nil n0
  have pre0 : ∀ t, Steps p.tables e below (s₁.setTop (mkF m 0 #[.val (.long uA), .second, .val (.long uB), .second, .val (.long uC), .second, .val (.long uJ), .second, .val (.int us), .unset, .unset, .unset, .unset] [])) t → Steps p.tables e below (s₁.setTop (entryFrame m #[(.long uA), (.long uB), (.long uC), (.long uJ), (.int us)] maxLocals)) t := fun t k => castTop (ef_0b m uA uB uC uJ us) k
  have ho := own_off us
  obtain ⟨uo, huo⟩ : ∃ z, z = ((((us.toUInt32 >>> ((2 : Int32) &&& 31).toUInt32).toInt32) &&& (2147483647 : Int32)) % (3 : Int32)) := ⟨_, rfl⟩
  rw [← huo] at ho
  have k1 : (1 : Int32).toInt = 1 := rfl
  have k2 : (2 : Int32).toInt = 2 := rfl
  have k3 : (3 : Int32).toInt = 3 := rfl
  have a1 := own_add uo 1 ho.1 (by omega) (by decide) (by decide)
  have a2 := own_add uo 2 ho.1 (by omega) (by decide) (by decide)
  have b2 := own_add (uo + 1) 1 (by omega) (by omega) (by decide) (by decide)
  have b3 := own_add ((uo + 1) + 1) 1 (by omega) (by omega) (by decide) (by decide)
  have an := own_add uo (us &&& (3 : Int32)) ho.1 (by omega) (by omega) (by omega)
  rw [hk] at an
  have c0 := own_nat uo uo.toInt.toNat (by omega)
  have c1 := own_nat (uo + 1) (uo.toInt.toNat + 1) (by omega)
  have c2 := own_nat (uo + 2) (uo.toInt.toNat + 2) (by omega)
  have d2 := own_nat ((uo + 1) + 1) (uo.toInt.toNat + 2) (by omega)
  obtain ⟨T1, h1, k1, X1, e1, E1, A1, st1⟩ := newP X0 hx hZ (hw _ (List.mem_of_getElem? (i := 1) rfl)) e0 (g := (mkF m 18 #[.val (.long uA), .second, .val (.long uB), .second, .val (.long uC), .second, .val (.long uJ), .second, .val (.int us), .val (.int (us &&& (3 : Int32))), .val (.int uo), .unset, .unset] [(.int (5 : Int32))])) rfl (hb hby at_18) rfl (by decide) (cap := 5) (by decide) (by decide) (by decide) (by decide)
  obtain ⟨bb, sz_bb⟩ : ∃ z, z = h0.size := ⟨_, rfl⟩
  rw [← sz_bb] at A1 st1
  have g_bb : n0 ≤ bb := Nat.le_trans Z0 (Nat.le_of_eq sz_bb.symm)
  have Zp2 : n0 ≤ h1.size := Nat.le_trans Z0 E1.1
  have Vn := own_C_new A1 (n := 5) rfl
  obtain ⟨cl3, Ar3, S3, I3⟩ := Vn
  obtain ⟨T3, h3, X3, e3, W3, st3⟩ := stJ X1 hx hZ e1 Ar3 (j := (0 : Int32)) (by rw [S3]; decide) (g := (mkF m 27 #[.val (.long uA), .second, .val (.long uB), .second, .val (.long uC), .second, .val (.long uJ), .second, .val (.int us), .val (.int (us &&& (3 : Int32))), .val (.int uo), .val (.ref bb), .unset] [(.long uJ), (.int (0 : Int32)), (.ref bb)])) rfl rfl (hb hby at_27)
  have V3 := own_C_set0 Ar3 S3 I3 W3
  have N3f := Fr.snoc X3 N0 g_bb
  obtain ⟨cl4, Ar4, S4, I4⟩ := V3
  obtain ⟨T4, h4, X4, e4, W4, st4⟩ := stJ X3 hx hZ e3 Ar4 (j := (1 : Int32)) (by rw [S4]; decide) (g := (mkF m 33 #[.val (.long uA), .second, .val (.long uB), .second, .val (.long uC), .second, .val (.long uJ), .second, .val (.int us), .val (.int (us &&& (3 : Int32))), .val (.int uo), .val (.ref bb), .unset] [(.long uJ), (.int (1 : Int32)), (.ref bb)])) rfl rfl (hb hby at_33)
  have V4 := own_C_set0 Ar4 S4 I4 W4
  have N4f := Fr.snoc X4 N3f g_bb
  obtain ⟨cl5, Ar5, S5, I5⟩ := V4
  obtain ⟨T5, h5, X5, e5, W5, st5⟩ := stJ X4 hx hZ e4 Ar5 (j := (2 : Int32)) (by rw [S5]; decide) (g := (mkF m 39 #[.val (.long uA), .second, .val (.long uB), .second, .val (.long uC), .second, .val (.long uJ), .second, .val (.int us), .val (.int (us &&& (3 : Int32))), .val (.int uo), .val (.ref bb), .unset] [(.long uJ), (.int (2 : Int32)), (.ref bb)])) rfl rfl (hb hby at_39)
  have V5 := own_C_set0 Ar5 S5 I5 W5
  have N5f := Fr.snoc X5 N4f g_bb
  obtain ⟨cl6, Ar6, S6, I6⟩ := V5
  obtain ⟨T6, h6, X6, e6, W6, st6⟩ := stJ X5 hx hZ e5 Ar6 (j := (3 : Int32)) (by rw [S6]; decide) (g := (mkF m 45 #[.val (.long uA), .second, .val (.long uB), .second, .val (.long uC), .second, .val (.long uJ), .second, .val (.int us), .val (.int (us &&& (3 : Int32))), .val (.int uo), .val (.ref bb), .unset] [(.long uJ), (.int (3 : Int32)), (.ref bb)])) rfl rfl (hb hby at_45)
  have V6 := own_C_set0 Ar6 S6 I6 W6
  have N6f := Fr.snoc X6 N5f g_bb
  obtain ⟨cl7, Ar7, S7, I7⟩ := V6
  obtain ⟨T7, h7, X7, e7, W7, st7⟩ := stJ X6 hx hZ e6 Ar7 (j := (4 : Int32)) (by rw [S7]; decide) (g := (mkF m 51 #[.val (.long uA), .second, .val (.long uB), .second, .val (.long uC), .second, .val (.long uJ), .second, .val (.int us), .val (.int (us &&& (3 : Int32))), .val (.int uo), .val (.ref bb), .unset] [(.long uJ), (.int (4 : Int32)), (.ref bb)])) rfl rfl (hb hby at_51)
  have V7 := own_C_set0 Ar7 S7 I7 W7
  have N7f := Fr.snoc X7 N6f g_bb
  obtain ⟨cl8, Ar8, S8, I8⟩ := V7
  obtain ⟨T8, h8, X8, e8, W8, st8⟩ := stJ X7 hx hZ e7 Ar8 (j := uo) (own_in S8 (by omega) (by omega)) (g := (mkF m 63 #[.val (.long uA), .second, .val (.long uB), .second, .val (.long uC), .second, .val (.long uJ), .second, .val (.int us), .val (.int (us &&& (3 : Int32))), .val (.int uo), .val (.ref bb), .unset] [(.long uA), (.int uo), (.ref bb)])) rfl rfl (hb hby at_63)
  have V8 := own_C_set (n := 5) (by omega) (by intro q hq; exact absurd hq List.not_mem_nil) Ar8 S8 I8 W8
  have N8f := Fr.snoc X8 N7f g_bb
  obtain ⟨clz, Arz, Sz, Iz⟩ := V8
  have hat0 : clz.slots[(uo).toNatClampNeg]? = some (.long uA) := by rw [show (uo).toNatClampNeg = (uo).toNatClampNeg from rfl]; exact Iz (_, _) (List.mem_of_getElem? (i := 0) rfl)
  obtain ⟨_, _, ⟨T9, L9, k9, n9⟩, -, X9, ⟨Lc9, hQ9, l9, y9, z9⟩, st9⟩ := Jvm.LawKit.callS X8 hx (y := (⟨"com/example/assured_timing/assuredtiming/simulation/Configuration", "hash", "([JII)I"⟩ : MethodName)) hown (mvT hZ (hw _ (List.mem_of_getElem? (i := 2) rfl))) (mvT hZ (hw _ (List.mem_of_getElem? (i := 3) rfl))) (mvT hZ (hw _ (List.mem_of_getElem? (i := 4) rfl))) (mvT hZ (hw _ (List.mem_of_getElem? (i := 5) rfl))) (by decide) (backOf (W := 0) (rm1b l Z a0 hw [] bb uo (uo + (us &&& (3 : Int32))) clz uA h8 n0 Arz (by rw [Int32.lt_iff_toInt_lt]; omega) (by rw [Int32.lt_iff_toInt_lt]; omega) (own_in Sz (by omega) (by omega)) hat0) hZ (hw _ (List.mem_of_getElem? (i := 5) rfl)) (hw _ (List.mem_of_getElem? (i := 4) rfl)) (by decide) (by decide)) (g := (mkF m 102 #[.val (.long uA), .second, .val (.long uB), .second, .val (.long uC), .second, .val (.long uJ), .second, .val (.int us), .val (.int (us &&& (3 : Int32))), .val (.int uo), .val (.ref bb), .unset] [(.int (uo + (us &&& (3 : Int32)))), (.int uo), (.ref bb)])) rfl (by rw [hml]; rfl) (argsL := [(.ref bb), (.int uo), (.int (uo + (us &&& (3 : Int32))))]) (rest := []) (lenOf pd_1 rfl) rfl (by show 2 * 0 + _ ≤ _; exact Nat.le_of_eq rfl) (hb hby at_102) (fun _ _ => ⟨rfl, e8, (by decide : 1 + 0 ≤ _), (by decide : 5 + 0 ≤ _)⟩)
  dsimp only [Pt.U, Pt.locs, Pt.cells, Pt.slots] at X9 l9 y9 z9 st9 hQ9
  subst l9 y9 z9
  obtain ⟨rfl, N9q, e9q⟩ := hQ9
  have N9 := Fr.app N8f N9q
  obtain ⟨_, _, ⟨T10, L10, k10, n10⟩, -, X10, ⟨Lc10, hQ10, l10, y10, z10⟩, st10⟩ := Jvm.LawKit.callS X9 hx (y := (⟨"com/example/assured_timing/assuredtiming/simulation/ConfigurationHashPinLaw", "expected", "(JJJI)I"⟩ : MethodName)) hown (mvT hZ (hw _ (List.mem_of_getElem? (i := 8) rfl))) (mvT hZ (hw _ (List.mem_of_getElem? (i := 9) rfl))) (mvT hZ (hw _ (List.mem_of_getElem? (i := 10) rfl))) (mvT hZ (hw _ (List.mem_of_getElem? (i := 11) rfl))) (by decide) (backOf (W := 1) (rm3b l Z a0 hw [] uA uB uC (us &&& (3 : Int32)) h8 n0 (by rw [Int32.lt_iff_toInt_lt]; omega) (by rw [Int32.lt_iff_toInt_lt]; omega) (by rw [Int32.lt_iff_toInt_lt]; omega)) hZ (hw _ (List.mem_of_getElem? (i := 11) rfl)) (hw _ (List.mem_of_getElem? (i := 10) rfl)) (by decide) (by decide)) (g := (mkF m 115 #[.val (.long uA), .second, .val (.long uB), .second, .val (.long uC), .second, .val (.long uJ), .second, .val (.int us), .val (.int (us &&& (3 : Int32))), .val (.int uo), .val (.ref bb), .val (.int (((((((0 : Int64) ^^^ uA) * (-7046029254386353131 : Int64)) ^^^ (((((0 : Int64) ^^^ uA) * (-7046029254386353131 : Int64)).toUInt64 >>> ((32 : Int32) &&& 0x3f).toInt64.toUInt64).toInt64)) * (-2960836687051489901 : Int64)) ^^^ (((((((0 : Int64) ^^^ uA) * (-7046029254386353131 : Int64)) ^^^ (((((0 : Int64) ^^^ uA) * (-7046029254386353131 : Int64)).toUInt64 >>> ((32 : Int32) &&& 0x3f).toInt64.toUInt64).toInt64)) * (-2960836687051489901 : Int64)).toUInt64 >>> ((32 : Int32) &&& 0x3f).toInt64.toUInt64).toInt64)).toInt32))] [(.int (us &&& (3 : Int32))), (.long uC), (.long uB), (.long uA), (.int (((((((0 : Int64) ^^^ uA) * (-7046029254386353131 : Int64)) ^^^ (((((0 : Int64) ^^^ uA) * (-7046029254386353131 : Int64)).toUInt64 >>> ((32 : Int32) &&& 0x3f).toInt64.toUInt64).toInt64)) * (-2960836687051489901 : Int64)) ^^^ (((((((0 : Int64) ^^^ uA) * (-7046029254386353131 : Int64)) ^^^ (((((0 : Int64) ^^^ uA) * (-7046029254386353131 : Int64)).toUInt64 >>> ((32 : Int32) &&& 0x3f).toInt64.toUInt64).toInt64)) * (-2960836687051489901 : Int64)).toUInt64 >>> ((32 : Int32) &&& 0x3f).toInt64.toUInt64).toInt64)).toInt32))])) rfl (by rw [hml]; rfl) (argsL := [(.long uA), (.long uB), (.long uC), (.int (us &&& (3 : Int32)))]) (rest := [(.int (((((((0 : Int64) ^^^ uA) * (-7046029254386353131 : Int64)) ^^^ (((((0 : Int64) ^^^ uA) * (-7046029254386353131 : Int64)).toUInt64 >>> ((32 : Int32) &&& 0x3f).toInt64.toUInt64).toInt64)) * (-2960836687051489901 : Int64)) ^^^ (((((((0 : Int64) ^^^ uA) * (-7046029254386353131 : Int64)) ^^^ (((((0 : Int64) ^^^ uA) * (-7046029254386353131 : Int64)).toUInt64 >>> ((32 : Int32) &&& 0x3f).toInt64.toUInt64).toInt64)) * (-2960836687051489901 : Int64)).toUInt64 >>> ((32 : Int32) &&& 0x3f).toInt64.toUInt64).toInt64)).toInt32))]) (lenOf pd_2 rfl) rfl (by show 2 * 0 + _ ≤ _; exact Nat.le_of_eq rfl) (hb hby at_115) (fun _ _ => ⟨rfl, e9q, (by decide : 1 + 0 ≤ _), (by decide : 5 + 0 ≤ _)⟩)
  dsimp only [Pt.U, Pt.locs, Pt.cells, Pt.slots] at X10 l10 y10 z10 st10 hQ10
  subst l10 y10 z10
  obtain ⟨rfl, N10q, e10q⟩ := hQ10
  have N10 := Fr.app N9 N10q
  obtain ⟨fs, hr, hrun, hended, hW, hsame⟩ := X10.leave (v := some (.int (1 : Int32))) (fun h => by rw [Bd.returns] at h; cases h)
  refine ⟨_, _, pre0 _ ?_, hrun, hended, _, _, rfl, ?_, ⟨_, rfl⟩, hW, hsame.mono (by decide) (by decide)⟩
  · show Steps p.tables e below (s₁.setTop (mkF m 0 #[.val (.long uA), .second, .val (.long uB), .second, .val (.long uC), .second, .val (.long uJ), .second, .val (.int us), .unset, .unset, .unset, .unset] [])) _
    refine XS.iload X0.here hx rfl (hb hby at_0) rfl ?_
    show Steps p.tables e below (s₁.setTop (mkF m 2 #[.val (.long uA), .second, .val (.long uB), .second, .val (.long uC), .second, .val (.long uJ), .second, .val (.int us), .unset, .unset, .unset, .unset] [(.int us)])) _
    refine XS.iconst X0.here hx rfl (hb hby at_2) ?_
    show Steps p.tables e below (s₁.setTop (mkF m 3 #[.val (.long uA), .second, .val (.long uB), .second, .val (.long uC), .second, .val (.long uJ), .second, .val (.int us), .unset, .unset, .unset, .unset] [(.int (3 : Int32)), (.int us)])) _
    refine XS.iand X0.here hx rfl (hb hby at_3) rfl ?_
    show Steps p.tables e below (s₁.setTop (mkF m 4 #[.val (.long uA), .second, .val (.long uB), .second, .val (.long uC), .second, .val (.long uJ), .second, .val (.int us), .unset, .unset, .unset, .unset] [(.int (us &&& (3 : Int32)))])) _
    refine XS.istore X0.here hx rfl (hb hby at_4) rfl (l' := #[.val (.long uA), .second, .val (.long uB), .second, .val (.long uC), .second, .val (.long uJ), .second, .val (.int us), .val (.int (us &&& (3 : Int32))), .unset, .unset, .unset]) rfl ?_
    show Steps p.tables e below (s₁.setTop (mkF m 6 #[.val (.long uA), .second, .val (.long uB), .second, .val (.long uC), .second, .val (.long uJ), .second, .val (.int us), .val (.int (us &&& (3 : Int32))), .unset, .unset, .unset] [])) _
    refine XS.iload X0.here hx rfl (hb hby at_6) rfl ?_
    show Steps p.tables e below (s₁.setTop (mkF m 8 #[.val (.long uA), .second, .val (.long uB), .second, .val (.long uC), .second, .val (.long uJ), .second, .val (.int us), .val (.int (us &&& (3 : Int32))), .unset, .unset, .unset] [(.int us)])) _
    refine XS.iconst X0.here hx rfl (hb hby at_8) ?_
    show Steps p.tables e below (s₁.setTop (mkF m 9 #[.val (.long uA), .second, .val (.long uB), .second, .val (.long uC), .second, .val (.long uJ), .second, .val (.int us), .val (.int (us &&& (3 : Int32))), .unset, .unset, .unset] [(.int (2 : Int32)), (.int us)])) _
    refine XS.iushr X0.here hx rfl (hb hby at_9) rfl ?_
    show Steps p.tables e below (s₁.setTop (mkF m 10 #[.val (.long uA), .second, .val (.long uB), .second, .val (.long uC), .second, .val (.long uJ), .second, .val (.int us), .val (.int (us &&& (3 : Int32))), .unset, .unset, .unset] [(.int ((us.toUInt32 >>> ((2 : Int32) &&& 31).toUInt32).toInt32))])) _
    refine X0.ldcInt hx hown (mvT hZ (hw _ (List.mem_of_getElem? (i := 0) rfl))) (g := (mkF m 10 #[.val (.long uA), .second, .val (.long uB), .second, .val (.long uC), .second, .val (.long uJ), .second, .val (.int us), .val (.int (us &&& (3 : Int32))), .unset, .unset, .unset] [(.int ((us.toUInt32 >>> ((2 : Int32) &&& 31).toUInt32).toInt32))])) rfl (hb hby at_10) _ ?_
    show Steps p.tables e below (s₁.setTop (mkF m 12 #[.val (.long uA), .second, .val (.long uB), .second, .val (.long uC), .second, .val (.long uJ), .second, .val (.int us), .val (.int (us &&& (3 : Int32))), .unset, .unset, .unset] [(.int (2147483647 : Int32)), (.int ((us.toUInt32 >>> ((2 : Int32) &&& 31).toUInt32).toInt32))])) _
    refine XS.iand X0.here hx rfl (hb hby at_12) rfl ?_
    show Steps p.tables e below (s₁.setTop (mkF m 13 #[.val (.long uA), .second, .val (.long uB), .second, .val (.long uC), .second, .val (.long uJ), .second, .val (.int us), .val (.int (us &&& (3 : Int32))), .unset, .unset, .unset] [(.int (((us.toUInt32 >>> ((2 : Int32) &&& 31).toUInt32).toInt32) &&& (2147483647 : Int32)))])) _
    refine XS.iconst X0.here hx rfl (hb hby at_13) ?_
    show Steps p.tables e below (s₁.setTop (mkF m 14 #[.val (.long uA), .second, .val (.long uB), .second, .val (.long uC), .second, .val (.long uJ), .second, .val (.int us), .val (.int (us &&& (3 : Int32))), .unset, .unset, .unset] [(.int (3 : Int32)), (.int (((us.toUInt32 >>> ((2 : Int32) &&& 31).toUInt32).toInt32) &&& (2147483647 : Int32)))])) _
    refine iremM X0 hx rfl (hb hby at_14) rfl (by decide) ?_
    show Steps p.tables e below (s₁.setTop (mkF m 15 #[.val (.long uA), .second, .val (.long uB), .second, .val (.long uC), .second, .val (.long uJ), .second, .val (.int us), .val (.int (us &&& (3 : Int32))), .unset, .unset, .unset] [(.int ((((us.toUInt32 >>> ((2 : Int32) &&& 31).toUInt32).toInt32) &&& (2147483647 : Int32)) % (3 : Int32)))])) _
    rw [← huo]
    show Steps p.tables e below (s₁.setTop (mkF m 15 #[.val (.long uA), .second, .val (.long uB), .second, .val (.long uC), .second, .val (.long uJ), .second, .val (.int us), .val (.int (us &&& (3 : Int32))), .unset, .unset, .unset] [(.int uo)])) _
    refine XS.istore X0.here hx rfl (hb hby at_15) rfl (l' := #[.val (.long uA), .second, .val (.long uB), .second, .val (.long uC), .second, .val (.long uJ), .second, .val (.int us), .val (.int (us &&& (3 : Int32))), .val (.int uo), .unset, .unset]) rfl ?_
    show Steps p.tables e below (s₁.setTop (mkF m 17 #[.val (.long uA), .second, .val (.long uB), .second, .val (.long uC), .second, .val (.long uJ), .second, .val (.int us), .val (.int (us &&& (3 : Int32))), .val (.int uo), .unset, .unset] [])) _
    refine XS.iconst X0.here hx rfl (hb hby at_17) ?_
    show Steps p.tables e below (s₁.setTop (mkF m 18 #[.val (.long uA), .second, .val (.long uB), .second, .val (.long uC), .second, .val (.long uJ), .second, .val (.int us), .val (.int (us &&& (3 : Int32))), .val (.int uo), .unset, .unset] [(.int (5 : Int32))])) _
    refine st1 _ ?_
    show Steps p.tables e below (T1.setTop (mkF m 20 #[.val (.long uA), .second, .val (.long uB), .second, .val (.long uC), .second, .val (.long uJ), .second, .val (.int us), .val (.int (us &&& (3 : Int32))), .val (.int uo), .unset, .unset] [(.ref bb)])) _
    refine XS.astore X1.here hx rfl (hb hby at_20) rfl rfl (l' := #[.val (.long uA), .second, .val (.long uB), .second, .val (.long uC), .second, .val (.long uJ), .second, .val (.int us), .val (.int (us &&& (3 : Int32))), .val (.int uo), .val (.ref bb), .unset]) rfl ?_
    show Steps p.tables e below (T1.setTop (mkF m 22 #[.val (.long uA), .second, .val (.long uB), .second, .val (.long uC), .second, .val (.long uJ), .second, .val (.int us), .val (.int (us &&& (3 : Int32))), .val (.int uo), .val (.ref bb), .unset] [])) _
    refine XS.aload X1.here hx rfl (hb hby at_22) rfl rfl ?_
    show Steps p.tables e below (T1.setTop (mkF m 24 #[.val (.long uA), .second, .val (.long uB), .second, .val (.long uC), .second, .val (.long uJ), .second, .val (.int us), .val (.int (us &&& (3 : Int32))), .val (.int uo), .val (.ref bb), .unset] [(.ref bb)])) _
    refine XS.iconst X1.here hx rfl (hb hby at_24) ?_
    show Steps p.tables e below (T1.setTop (mkF m 25 #[.val (.long uA), .second, .val (.long uB), .second, .val (.long uC), .second, .val (.long uJ), .second, .val (.int us), .val (.int (us &&& (3 : Int32))), .val (.int uo), .val (.ref bb), .unset] [(.int (0 : Int32)), (.ref bb)])) _
    refine XS.lload X1.here hx rfl (hb hby at_25) rfl ?_
    show Steps p.tables e below (T1.setTop (mkF m 27 #[.val (.long uA), .second, .val (.long uB), .second, .val (.long uC), .second, .val (.long uJ), .second, .val (.int us), .val (.int (us &&& (3 : Int32))), .val (.int uo), .val (.ref bb), .unset] [(.long uJ), (.int (0 : Int32)), (.ref bb)])) _
    refine st3 _ ?_
    show Steps p.tables e below (T3.setTop (mkF m 28 #[.val (.long uA), .second, .val (.long uB), .second, .val (.long uC), .second, .val (.long uJ), .second, .val (.int us), .val (.int (us &&& (3 : Int32))), .val (.int uo), .val (.ref bb), .unset] [])) _
    refine XS.aload X3.here hx rfl (hb hby at_28) rfl rfl ?_
    show Steps p.tables e below (T3.setTop (mkF m 30 #[.val (.long uA), .second, .val (.long uB), .second, .val (.long uC), .second, .val (.long uJ), .second, .val (.int us), .val (.int (us &&& (3 : Int32))), .val (.int uo), .val (.ref bb), .unset] [(.ref bb)])) _
    refine XS.iconst X3.here hx rfl (hb hby at_30) ?_
    show Steps p.tables e below (T3.setTop (mkF m 31 #[.val (.long uA), .second, .val (.long uB), .second, .val (.long uC), .second, .val (.long uJ), .second, .val (.int us), .val (.int (us &&& (3 : Int32))), .val (.int uo), .val (.ref bb), .unset] [(.int (1 : Int32)), (.ref bb)])) _
    refine XS.lload X3.here hx rfl (hb hby at_31) rfl ?_
    show Steps p.tables e below (T3.setTop (mkF m 33 #[.val (.long uA), .second, .val (.long uB), .second, .val (.long uC), .second, .val (.long uJ), .second, .val (.int us), .val (.int (us &&& (3 : Int32))), .val (.int uo), .val (.ref bb), .unset] [(.long uJ), (.int (1 : Int32)), (.ref bb)])) _
    refine st4 _ ?_
    show Steps p.tables e below (T4.setTop (mkF m 34 #[.val (.long uA), .second, .val (.long uB), .second, .val (.long uC), .second, .val (.long uJ), .second, .val (.int us), .val (.int (us &&& (3 : Int32))), .val (.int uo), .val (.ref bb), .unset] [])) _
    refine XS.aload X4.here hx rfl (hb hby at_34) rfl rfl ?_
    show Steps p.tables e below (T4.setTop (mkF m 36 #[.val (.long uA), .second, .val (.long uB), .second, .val (.long uC), .second, .val (.long uJ), .second, .val (.int us), .val (.int (us &&& (3 : Int32))), .val (.int uo), .val (.ref bb), .unset] [(.ref bb)])) _
    refine XS.iconst X4.here hx rfl (hb hby at_36) ?_
    show Steps p.tables e below (T4.setTop (mkF m 37 #[.val (.long uA), .second, .val (.long uB), .second, .val (.long uC), .second, .val (.long uJ), .second, .val (.int us), .val (.int (us &&& (3 : Int32))), .val (.int uo), .val (.ref bb), .unset] [(.int (2 : Int32)), (.ref bb)])) _
    refine XS.lload X4.here hx rfl (hb hby at_37) rfl ?_
    show Steps p.tables e below (T4.setTop (mkF m 39 #[.val (.long uA), .second, .val (.long uB), .second, .val (.long uC), .second, .val (.long uJ), .second, .val (.int us), .val (.int (us &&& (3 : Int32))), .val (.int uo), .val (.ref bb), .unset] [(.long uJ), (.int (2 : Int32)), (.ref bb)])) _
    refine st5 _ ?_
    show Steps p.tables e below (T5.setTop (mkF m 40 #[.val (.long uA), .second, .val (.long uB), .second, .val (.long uC), .second, .val (.long uJ), .second, .val (.int us), .val (.int (us &&& (3 : Int32))), .val (.int uo), .val (.ref bb), .unset] [])) _
    refine XS.aload X5.here hx rfl (hb hby at_40) rfl rfl ?_
    show Steps p.tables e below (T5.setTop (mkF m 42 #[.val (.long uA), .second, .val (.long uB), .second, .val (.long uC), .second, .val (.long uJ), .second, .val (.int us), .val (.int (us &&& (3 : Int32))), .val (.int uo), .val (.ref bb), .unset] [(.ref bb)])) _
    refine XS.iconst X5.here hx rfl (hb hby at_42) ?_
    show Steps p.tables e below (T5.setTop (mkF m 43 #[.val (.long uA), .second, .val (.long uB), .second, .val (.long uC), .second, .val (.long uJ), .second, .val (.int us), .val (.int (us &&& (3 : Int32))), .val (.int uo), .val (.ref bb), .unset] [(.int (3 : Int32)), (.ref bb)])) _
    refine XS.lload X5.here hx rfl (hb hby at_43) rfl ?_
    show Steps p.tables e below (T5.setTop (mkF m 45 #[.val (.long uA), .second, .val (.long uB), .second, .val (.long uC), .second, .val (.long uJ), .second, .val (.int us), .val (.int (us &&& (3 : Int32))), .val (.int uo), .val (.ref bb), .unset] [(.long uJ), (.int (3 : Int32)), (.ref bb)])) _
    refine st6 _ ?_
    show Steps p.tables e below (T6.setTop (mkF m 46 #[.val (.long uA), .second, .val (.long uB), .second, .val (.long uC), .second, .val (.long uJ), .second, .val (.int us), .val (.int (us &&& (3 : Int32))), .val (.int uo), .val (.ref bb), .unset] [])) _
    refine XS.aload X6.here hx rfl (hb hby at_46) rfl rfl ?_
    show Steps p.tables e below (T6.setTop (mkF m 48 #[.val (.long uA), .second, .val (.long uB), .second, .val (.long uC), .second, .val (.long uJ), .second, .val (.int us), .val (.int (us &&& (3 : Int32))), .val (.int uo), .val (.ref bb), .unset] [(.ref bb)])) _
    refine XS.iconst X6.here hx rfl (hb hby at_48) ?_
    show Steps p.tables e below (T6.setTop (mkF m 49 #[.val (.long uA), .second, .val (.long uB), .second, .val (.long uC), .second, .val (.long uJ), .second, .val (.int us), .val (.int (us &&& (3 : Int32))), .val (.int uo), .val (.ref bb), .unset] [(.int (4 : Int32)), (.ref bb)])) _
    refine XS.lload X6.here hx rfl (hb hby at_49) rfl ?_
    show Steps p.tables e below (T6.setTop (mkF m 51 #[.val (.long uA), .second, .val (.long uB), .second, .val (.long uC), .second, .val (.long uJ), .second, .val (.int us), .val (.int (us &&& (3 : Int32))), .val (.int uo), .val (.ref bb), .unset] [(.long uJ), (.int (4 : Int32)), (.ref bb)])) _
    refine st7 _ ?_
    show Steps p.tables e below (T7.setTop (mkF m 52 #[.val (.long uA), .second, .val (.long uB), .second, .val (.long uC), .second, .val (.long uJ), .second, .val (.int us), .val (.int (us &&& (3 : Int32))), .val (.int uo), .val (.ref bb), .unset] [])) _
    refine XS.iload X7.here hx rfl (hb hby at_52) rfl ?_
    show Steps p.tables e below (T7.setTop (mkF m 54 #[.val (.long uA), .second, .val (.long uB), .second, .val (.long uC), .second, .val (.long uJ), .second, .val (.int us), .val (.int (us &&& (3 : Int32))), .val (.int uo), .val (.ref bb), .unset] [(.int (us &&& (3 : Int32)))])) _
    refine XS.iconst X7.here hx rfl (hb hby at_54) ?_
    show Steps p.tables e below (T7.setTop (mkF m 55 #[.val (.long uA), .second, .val (.long uB), .second, .val (.long uC), .second, .val (.long uJ), .second, .val (.int us), .val (.int (us &&& (3 : Int32))), .val (.int uo), .val (.ref bb), .unset] [(.int (1 : Int32)), (.int (us &&& (3 : Int32)))])) _
    refine XS.icmpNo X7.here hx rfl (hb hby at_55) rfl (flt (by rw [Int32.lt_iff_toInt_lt]; omega)).1 ?_
    show Steps p.tables e below (T7.setTop (mkF m 58 #[.val (.long uA), .second, .val (.long uB), .second, .val (.long uC), .second, .val (.long uJ), .second, .val (.int us), .val (.int (us &&& (3 : Int32))), .val (.int uo), .val (.ref bb), .unset] [])) _
    refine XS.aload X7.here hx rfl (hb hby at_58) rfl rfl ?_
    show Steps p.tables e below (T7.setTop (mkF m 60 #[.val (.long uA), .second, .val (.long uB), .second, .val (.long uC), .second, .val (.long uJ), .second, .val (.int us), .val (.int (us &&& (3 : Int32))), .val (.int uo), .val (.ref bb), .unset] [(.ref bb)])) _
    refine XS.iload X7.here hx rfl (hb hby at_60) rfl ?_
    show Steps p.tables e below (T7.setTop (mkF m 62 #[.val (.long uA), .second, .val (.long uB), .second, .val (.long uC), .second, .val (.long uJ), .second, .val (.int us), .val (.int (us &&& (3 : Int32))), .val (.int uo), .val (.ref bb), .unset] [(.int uo), (.ref bb)])) _
    refine XS.lloadN X7.here hx rfl (hb hby at_62) rfl ?_
    show Steps p.tables e below (T7.setTop (mkF m 63 #[.val (.long uA), .second, .val (.long uB), .second, .val (.long uC), .second, .val (.long uJ), .second, .val (.int us), .val (.int (us &&& (3 : Int32))), .val (.int uo), .val (.ref bb), .unset] [(.long uA), (.int uo), (.ref bb)])) _
    refine st8 _ ?_
    show Steps p.tables e below (T8.setTop (mkF m 64 #[.val (.long uA), .second, .val (.long uB), .second, .val (.long uC), .second, .val (.long uJ), .second, .val (.int us), .val (.int (us &&& (3 : Int32))), .val (.int uo), .val (.ref bb), .unset] [])) _
    refine XS.iload X8.here hx rfl (hb hby at_64) rfl ?_
    show Steps p.tables e below (T8.setTop (mkF m 66 #[.val (.long uA), .second, .val (.long uB), .second, .val (.long uC), .second, .val (.long uJ), .second, .val (.int us), .val (.int (us &&& (3 : Int32))), .val (.int uo), .val (.ref bb), .unset] [(.int (us &&& (3 : Int32)))])) _
    refine XS.iconst X8.here hx rfl (hb hby at_66) ?_
    show Steps p.tables e below (T8.setTop (mkF m 67 #[.val (.long uA), .second, .val (.long uB), .second, .val (.long uC), .second, .val (.long uJ), .second, .val (.int us), .val (.int (us &&& (3 : Int32))), .val (.int uo), .val (.ref bb), .unset] [(.int (2 : Int32)), (.int (us &&& (3 : Int32)))])) _
    refine XS.icmpYes X8.here hx rfl (pc0 := 67) (pc' := 78) rfl (hb hby at_67) rfl (tlt (by rw [Int32.lt_iff_toInt_lt]; omega)).1 (by decide) (by decide) ?_
    show Steps p.tables e below (T8.setTop (mkF m 78 #[.val (.long uA), .second, .val (.long uB), .second, .val (.long uC), .second, .val (.long uJ), .second, .val (.int us), .val (.int (us &&& (3 : Int32))), .val (.int uo), .val (.ref bb), .unset] [])) _
    refine XS.iload X8.here hx rfl (hb hby at_78) rfl ?_
    show Steps p.tables e below (T8.setTop (mkF m 80 #[.val (.long uA), .second, .val (.long uB), .second, .val (.long uC), .second, .val (.long uJ), .second, .val (.int us), .val (.int (us &&& (3 : Int32))), .val (.int uo), .val (.ref bb), .unset] [(.int (us &&& (3 : Int32)))])) _
    refine XS.iconst X8.here hx rfl (hb hby at_80) ?_
    show Steps p.tables e below (T8.setTop (mkF m 81 #[.val (.long uA), .second, .val (.long uB), .second, .val (.long uC), .second, .val (.long uJ), .second, .val (.int us), .val (.int (us &&& (3 : Int32))), .val (.int uo), .val (.ref bb), .unset] [(.int (3 : Int32)), (.int (us &&& (3 : Int32)))])) _
    refine XS.icmpYes X8.here hx rfl (pc0 := 81) (pc' := 93) rfl (hb hby at_81) rfl (tlt (by rw [Int32.lt_iff_toInt_lt]; omega)).1 (by decide) (by decide) ?_
    show Steps p.tables e below (T8.setTop (mkF m 93 #[.val (.long uA), .second, .val (.long uB), .second, .val (.long uC), .second, .val (.long uJ), .second, .val (.int us), .val (.int (us &&& (3 : Int32))), .val (.int uo), .val (.ref bb), .unset] [])) _
    refine XS.aload X8.here hx rfl (hb hby at_93) rfl rfl ?_
    show Steps p.tables e below (T8.setTop (mkF m 95 #[.val (.long uA), .second, .val (.long uB), .second, .val (.long uC), .second, .val (.long uJ), .second, .val (.int us), .val (.int (us &&& (3 : Int32))), .val (.int uo), .val (.ref bb), .unset] [(.ref bb)])) _
    refine XS.iload X8.here hx rfl (hb hby at_95) rfl ?_
    show Steps p.tables e below (T8.setTop (mkF m 97 #[.val (.long uA), .second, .val (.long uB), .second, .val (.long uC), .second, .val (.long uJ), .second, .val (.int us), .val (.int (us &&& (3 : Int32))), .val (.int uo), .val (.ref bb), .unset] [(.int uo), (.ref bb)])) _
    refine XS.iload X8.here hx rfl (hb hby at_97) rfl ?_
    show Steps p.tables e below (T8.setTop (mkF m 99 #[.val (.long uA), .second, .val (.long uB), .second, .val (.long uC), .second, .val (.long uJ), .second, .val (.int us), .val (.int (us &&& (3 : Int32))), .val (.int uo), .val (.ref bb), .unset] [(.int uo), (.int uo), (.ref bb)])) _
    refine XS.iload X8.here hx rfl (hb hby at_99) rfl ?_
    show Steps p.tables e below (T8.setTop (mkF m 101 #[.val (.long uA), .second, .val (.long uB), .second, .val (.long uC), .second, .val (.long uJ), .second, .val (.int us), .val (.int (us &&& (3 : Int32))), .val (.int uo), .val (.ref bb), .unset] [(.int (us &&& (3 : Int32))), (.int uo), (.int uo), (.ref bb)])) _
    refine XS.iadd X8.here hx rfl (hb hby at_101) rfl ?_
    show Steps p.tables e below (T8.setTop (mkF m 102 #[.val (.long uA), .second, .val (.long uB), .second, .val (.long uC), .second, .val (.long uJ), .second, .val (.int us), .val (.int (us &&& (3 : Int32))), .val (.int uo), .val (.ref bb), .unset] [(.int (uo + (us &&& (3 : Int32)))), (.int uo), (.ref bb)])) _
    refine st9 _ ?_
    show Steps p.tables e below (T9.setTop (mkF m 105 #[.val (.long uA), .second, .val (.long uB), .second, .val (.long uC), .second, .val (.long uJ), .second, .val (.int us), .val (.int (us &&& (3 : Int32))), .val (.int uo), .val (.ref bb), .unset] [(.int (((((((0 : Int64) ^^^ uA) * (-7046029254386353131 : Int64)) ^^^ (((((0 : Int64) ^^^ uA) * (-7046029254386353131 : Int64)).toUInt64 >>> ((32 : Int32) &&& 0x3f).toInt64.toUInt64).toInt64)) * (-2960836687051489901 : Int64)) ^^^ (((((((0 : Int64) ^^^ uA) * (-7046029254386353131 : Int64)) ^^^ (((((0 : Int64) ^^^ uA) * (-7046029254386353131 : Int64)).toUInt64 >>> ((32 : Int32) &&& 0x3f).toInt64.toUInt64).toInt64)) * (-2960836687051489901 : Int64)).toUInt64 >>> ((32 : Int32) &&& 0x3f).toInt64.toUInt64).toInt64)).toInt32))])) _
    refine XS.istore X9.here hx rfl (hb hby at_105) rfl (l' := #[.val (.long uA), .second, .val (.long uB), .second, .val (.long uC), .second, .val (.long uJ), .second, .val (.int us), .val (.int (us &&& (3 : Int32))), .val (.int uo), .val (.ref bb), .val (.int (((((((0 : Int64) ^^^ uA) * (-7046029254386353131 : Int64)) ^^^ (((((0 : Int64) ^^^ uA) * (-7046029254386353131 : Int64)).toUInt64 >>> ((32 : Int32) &&& 0x3f).toInt64.toUInt64).toInt64)) * (-2960836687051489901 : Int64)) ^^^ (((((((0 : Int64) ^^^ uA) * (-7046029254386353131 : Int64)) ^^^ (((((0 : Int64) ^^^ uA) * (-7046029254386353131 : Int64)).toUInt64 >>> ((32 : Int32) &&& 0x3f).toInt64.toUInt64).toInt64)) * (-2960836687051489901 : Int64)).toUInt64 >>> ((32 : Int32) &&& 0x3f).toInt64.toUInt64).toInt64)).toInt32))]) rfl ?_
    show Steps p.tables e below (T9.setTop (mkF m 107 #[.val (.long uA), .second, .val (.long uB), .second, .val (.long uC), .second, .val (.long uJ), .second, .val (.int us), .val (.int (us &&& (3 : Int32))), .val (.int uo), .val (.ref bb), .val (.int (((((((0 : Int64) ^^^ uA) * (-7046029254386353131 : Int64)) ^^^ (((((0 : Int64) ^^^ uA) * (-7046029254386353131 : Int64)).toUInt64 >>> ((32 : Int32) &&& 0x3f).toInt64.toUInt64).toInt64)) * (-2960836687051489901 : Int64)) ^^^ (((((((0 : Int64) ^^^ uA) * (-7046029254386353131 : Int64)) ^^^ (((((0 : Int64) ^^^ uA) * (-7046029254386353131 : Int64)).toUInt64 >>> ((32 : Int32) &&& 0x3f).toInt64.toUInt64).toInt64)) * (-2960836687051489901 : Int64)).toUInt64 >>> ((32 : Int32) &&& 0x3f).toInt64.toUInt64).toInt64)).toInt32))] [])) _
    refine XS.iload X9.here hx rfl (hb hby at_107) rfl ?_
    show Steps p.tables e below (T9.setTop (mkF m 109 #[.val (.long uA), .second, .val (.long uB), .second, .val (.long uC), .second, .val (.long uJ), .second, .val (.int us), .val (.int (us &&& (3 : Int32))), .val (.int uo), .val (.ref bb), .val (.int (((((((0 : Int64) ^^^ uA) * (-7046029254386353131 : Int64)) ^^^ (((((0 : Int64) ^^^ uA) * (-7046029254386353131 : Int64)).toUInt64 >>> ((32 : Int32) &&& 0x3f).toInt64.toUInt64).toInt64)) * (-2960836687051489901 : Int64)) ^^^ (((((((0 : Int64) ^^^ uA) * (-7046029254386353131 : Int64)) ^^^ (((((0 : Int64) ^^^ uA) * (-7046029254386353131 : Int64)).toUInt64 >>> ((32 : Int32) &&& 0x3f).toInt64.toUInt64).toInt64)) * (-2960836687051489901 : Int64)).toUInt64 >>> ((32 : Int32) &&& 0x3f).toInt64.toUInt64).toInt64)).toInt32))] [(.int (((((((0 : Int64) ^^^ uA) * (-7046029254386353131 : Int64)) ^^^ (((((0 : Int64) ^^^ uA) * (-7046029254386353131 : Int64)).toUInt64 >>> ((32 : Int32) &&& 0x3f).toInt64.toUInt64).toInt64)) * (-2960836687051489901 : Int64)) ^^^ (((((((0 : Int64) ^^^ uA) * (-7046029254386353131 : Int64)) ^^^ (((((0 : Int64) ^^^ uA) * (-7046029254386353131 : Int64)).toUInt64 >>> ((32 : Int32) &&& 0x3f).toInt64.toUInt64).toInt64)) * (-2960836687051489901 : Int64)).toUInt64 >>> ((32 : Int32) &&& 0x3f).toInt64.toUInt64).toInt64)).toInt32))])) _
    refine XS.lloadN X9.here hx rfl (hb hby at_109) rfl ?_
    show Steps p.tables e below (T9.setTop (mkF m 110 #[.val (.long uA), .second, .val (.long uB), .second, .val (.long uC), .second, .val (.long uJ), .second, .val (.int us), .val (.int (us &&& (3 : Int32))), .val (.int uo), .val (.ref bb), .val (.int (((((((0 : Int64) ^^^ uA) * (-7046029254386353131 : Int64)) ^^^ (((((0 : Int64) ^^^ uA) * (-7046029254386353131 : Int64)).toUInt64 >>> ((32 : Int32) &&& 0x3f).toInt64.toUInt64).toInt64)) * (-2960836687051489901 : Int64)) ^^^ (((((((0 : Int64) ^^^ uA) * (-7046029254386353131 : Int64)) ^^^ (((((0 : Int64) ^^^ uA) * (-7046029254386353131 : Int64)).toUInt64 >>> ((32 : Int32) &&& 0x3f).toInt64.toUInt64).toInt64)) * (-2960836687051489901 : Int64)).toUInt64 >>> ((32 : Int32) &&& 0x3f).toInt64.toUInt64).toInt64)).toInt32))] [(.long uA), (.int (((((((0 : Int64) ^^^ uA) * (-7046029254386353131 : Int64)) ^^^ (((((0 : Int64) ^^^ uA) * (-7046029254386353131 : Int64)).toUInt64 >>> ((32 : Int32) &&& 0x3f).toInt64.toUInt64).toInt64)) * (-2960836687051489901 : Int64)) ^^^ (((((((0 : Int64) ^^^ uA) * (-7046029254386353131 : Int64)) ^^^ (((((0 : Int64) ^^^ uA) * (-7046029254386353131 : Int64)).toUInt64 >>> ((32 : Int32) &&& 0x3f).toInt64.toUInt64).toInt64)) * (-2960836687051489901 : Int64)).toUInt64 >>> ((32 : Int32) &&& 0x3f).toInt64.toUInt64).toInt64)).toInt32))])) _
    refine XS.lloadN X9.here hx rfl (hb hby at_110) rfl ?_
    show Steps p.tables e below (T9.setTop (mkF m 111 #[.val (.long uA), .second, .val (.long uB), .second, .val (.long uC), .second, .val (.long uJ), .second, .val (.int us), .val (.int (us &&& (3 : Int32))), .val (.int uo), .val (.ref bb), .val (.int (((((((0 : Int64) ^^^ uA) * (-7046029254386353131 : Int64)) ^^^ (((((0 : Int64) ^^^ uA) * (-7046029254386353131 : Int64)).toUInt64 >>> ((32 : Int32) &&& 0x3f).toInt64.toUInt64).toInt64)) * (-2960836687051489901 : Int64)) ^^^ (((((((0 : Int64) ^^^ uA) * (-7046029254386353131 : Int64)) ^^^ (((((0 : Int64) ^^^ uA) * (-7046029254386353131 : Int64)).toUInt64 >>> ((32 : Int32) &&& 0x3f).toInt64.toUInt64).toInt64)) * (-2960836687051489901 : Int64)).toUInt64 >>> ((32 : Int32) &&& 0x3f).toInt64.toUInt64).toInt64)).toInt32))] [(.long uB), (.long uA), (.int (((((((0 : Int64) ^^^ uA) * (-7046029254386353131 : Int64)) ^^^ (((((0 : Int64) ^^^ uA) * (-7046029254386353131 : Int64)).toUInt64 >>> ((32 : Int32) &&& 0x3f).toInt64.toUInt64).toInt64)) * (-2960836687051489901 : Int64)) ^^^ (((((((0 : Int64) ^^^ uA) * (-7046029254386353131 : Int64)) ^^^ (((((0 : Int64) ^^^ uA) * (-7046029254386353131 : Int64)).toUInt64 >>> ((32 : Int32) &&& 0x3f).toInt64.toUInt64).toInt64)) * (-2960836687051489901 : Int64)).toUInt64 >>> ((32 : Int32) &&& 0x3f).toInt64.toUInt64).toInt64)).toInt32))])) _
    refine XS.lload X9.here hx rfl (hb hby at_111) rfl ?_
    show Steps p.tables e below (T9.setTop (mkF m 113 #[.val (.long uA), .second, .val (.long uB), .second, .val (.long uC), .second, .val (.long uJ), .second, .val (.int us), .val (.int (us &&& (3 : Int32))), .val (.int uo), .val (.ref bb), .val (.int (((((((0 : Int64) ^^^ uA) * (-7046029254386353131 : Int64)) ^^^ (((((0 : Int64) ^^^ uA) * (-7046029254386353131 : Int64)).toUInt64 >>> ((32 : Int32) &&& 0x3f).toInt64.toUInt64).toInt64)) * (-2960836687051489901 : Int64)) ^^^ (((((((0 : Int64) ^^^ uA) * (-7046029254386353131 : Int64)) ^^^ (((((0 : Int64) ^^^ uA) * (-7046029254386353131 : Int64)).toUInt64 >>> ((32 : Int32) &&& 0x3f).toInt64.toUInt64).toInt64)) * (-2960836687051489901 : Int64)).toUInt64 >>> ((32 : Int32) &&& 0x3f).toInt64.toUInt64).toInt64)).toInt32))] [(.long uC), (.long uB), (.long uA), (.int (((((((0 : Int64) ^^^ uA) * (-7046029254386353131 : Int64)) ^^^ (((((0 : Int64) ^^^ uA) * (-7046029254386353131 : Int64)).toUInt64 >>> ((32 : Int32) &&& 0x3f).toInt64.toUInt64).toInt64)) * (-2960836687051489901 : Int64)) ^^^ (((((((0 : Int64) ^^^ uA) * (-7046029254386353131 : Int64)) ^^^ (((((0 : Int64) ^^^ uA) * (-7046029254386353131 : Int64)).toUInt64 >>> ((32 : Int32) &&& 0x3f).toInt64.toUInt64).toInt64)) * (-2960836687051489901 : Int64)).toUInt64 >>> ((32 : Int32) &&& 0x3f).toInt64.toUInt64).toInt64)).toInt32))])) _
    refine XS.iload X9.here hx rfl (hb hby at_113) rfl ?_
    show Steps p.tables e below (T9.setTop (mkF m 115 #[.val (.long uA), .second, .val (.long uB), .second, .val (.long uC), .second, .val (.long uJ), .second, .val (.int us), .val (.int (us &&& (3 : Int32))), .val (.int uo), .val (.ref bb), .val (.int (((((((0 : Int64) ^^^ uA) * (-7046029254386353131 : Int64)) ^^^ (((((0 : Int64) ^^^ uA) * (-7046029254386353131 : Int64)).toUInt64 >>> ((32 : Int32) &&& 0x3f).toInt64.toUInt64).toInt64)) * (-2960836687051489901 : Int64)) ^^^ (((((((0 : Int64) ^^^ uA) * (-7046029254386353131 : Int64)) ^^^ (((((0 : Int64) ^^^ uA) * (-7046029254386353131 : Int64)).toUInt64 >>> ((32 : Int32) &&& 0x3f).toInt64.toUInt64).toInt64)) * (-2960836687051489901 : Int64)).toUInt64 >>> ((32 : Int32) &&& 0x3f).toInt64.toUInt64).toInt64)).toInt32))] [(.int (us &&& (3 : Int32))), (.long uC), (.long uB), (.long uA), (.int (((((((0 : Int64) ^^^ uA) * (-7046029254386353131 : Int64)) ^^^ (((((0 : Int64) ^^^ uA) * (-7046029254386353131 : Int64)).toUInt64 >>> ((32 : Int32) &&& 0x3f).toInt64.toUInt64).toInt64)) * (-2960836687051489901 : Int64)) ^^^ (((((((0 : Int64) ^^^ uA) * (-7046029254386353131 : Int64)) ^^^ (((((0 : Int64) ^^^ uA) * (-7046029254386353131 : Int64)).toUInt64 >>> ((32 : Int32) &&& 0x3f).toInt64.toUInt64).toInt64)) * (-2960836687051489901 : Int64)).toUInt64 >>> ((32 : Int32) &&& 0x3f).toInt64.toUInt64).toInt64)).toInt32))])) _
    refine st10 _ ?_
    show Steps p.tables e below (T10.setTop (mkF m 118 #[.val (.long uA), .second, .val (.long uB), .second, .val (.long uC), .second, .val (.long uJ), .second, .val (.int us), .val (.int (us &&& (3 : Int32))), .val (.int uo), .val (.ref bb), .val (.int (((((((0 : Int64) ^^^ uA) * (-7046029254386353131 : Int64)) ^^^ (((((0 : Int64) ^^^ uA) * (-7046029254386353131 : Int64)).toUInt64 >>> ((32 : Int32) &&& 0x3f).toInt64.toUInt64).toInt64)) * (-2960836687051489901 : Int64)) ^^^ (((((((0 : Int64) ^^^ uA) * (-7046029254386353131 : Int64)) ^^^ (((((0 : Int64) ^^^ uA) * (-7046029254386353131 : Int64)).toUInt64 >>> ((32 : Int32) &&& 0x3f).toInt64.toUInt64).toInt64)) * (-2960836687051489901 : Int64)).toUInt64 >>> ((32 : Int32) &&& 0x3f).toInt64.toUInt64).toInt64)).toInt32))] [(.int (((((((0 : Int64) ^^^ uA) * (-7046029254386353131 : Int64)) ^^^ (((((0 : Int64) ^^^ uA) * (-7046029254386353131 : Int64)).toUInt64 >>> ((32 : Int32) &&& 0x3f).toInt64.toUInt64).toInt64)) * (-2960836687051489901 : Int64)) ^^^ (((((((0 : Int64) ^^^ uA) * (-7046029254386353131 : Int64)) ^^^ (((((0 : Int64) ^^^ uA) * (-7046029254386353131 : Int64)).toUInt64 >>> ((32 : Int32) &&& 0x3f).toInt64.toUInt64).toInt64)) * (-2960836687051489901 : Int64)).toUInt64 >>> ((32 : Int32) &&& 0x3f).toInt64.toUInt64).toInt64)).toInt32)), (.int (((((((0 : Int64) ^^^ uA) * (-7046029254386353131 : Int64)) ^^^ (((((0 : Int64) ^^^ uA) * (-7046029254386353131 : Int64)).toUInt64 >>> ((32 : Int32) &&& 0x3f).toInt64.toUInt64).toInt64)) * (-2960836687051489901 : Int64)) ^^^ (((((((0 : Int64) ^^^ uA) * (-7046029254386353131 : Int64)) ^^^ (((((0 : Int64) ^^^ uA) * (-7046029254386353131 : Int64)).toUInt64 >>> ((32 : Int32) &&& 0x3f).toInt64.toUInt64).toInt64)) * (-2960836687051489901 : Int64)).toUInt64 >>> ((32 : Int32) &&& 0x3f).toInt64.toUInt64).toInt64)).toInt32))])) _
    refine XS.icmpNo X10.here hx rfl (hb hby at_118) rfl (teq rfl).2 ?_
    show Steps p.tables e below (T10.setTop (mkF m 121 #[.val (.long uA), .second, .val (.long uB), .second, .val (.long uC), .second, .val (.long uJ), .second, .val (.int us), .val (.int (us &&& (3 : Int32))), .val (.int uo), .val (.ref bb), .val (.int (((((((0 : Int64) ^^^ uA) * (-7046029254386353131 : Int64)) ^^^ (((((0 : Int64) ^^^ uA) * (-7046029254386353131 : Int64)).toUInt64 >>> ((32 : Int32) &&& 0x3f).toInt64.toUInt64).toInt64)) * (-2960836687051489901 : Int64)) ^^^ (((((((0 : Int64) ^^^ uA) * (-7046029254386353131 : Int64)) ^^^ (((((0 : Int64) ^^^ uA) * (-7046029254386353131 : Int64)).toUInt64 >>> ((32 : Int32) &&& 0x3f).toInt64.toUInt64).toInt64)) * (-2960836687051489901 : Int64)).toUInt64 >>> ((32 : Int32) &&& 0x3f).toInt64.toUInt64).toInt64)).toInt32))] [])) _
    refine XS.iconst X10.here hx rfl (hb hby at_121) ?_
    show Steps p.tables e below (T10.setTop (mkF m 122 #[.val (.long uA), .second, .val (.long uB), .second, .val (.long uC), .second, .val (.long uJ), .second, .val (.int us), .val (.int (us &&& (3 : Int32))), .val (.int uo), .val (.ref bb), .val (.int (((((((0 : Int64) ^^^ uA) * (-7046029254386353131 : Int64)) ^^^ (((((0 : Int64) ^^^ uA) * (-7046029254386353131 : Int64)).toUInt64 >>> ((32 : Int32) &&& 0x3f).toInt64.toUInt64).toInt64)) * (-2960836687051489901 : Int64)) ^^^ (((((((0 : Int64) ^^^ uA) * (-7046029254386353131 : Int64)) ^^^ (((((0 : Int64) ^^^ uA) * (-7046029254386353131 : Int64)).toUInt64 >>> ((32 : Int32) &&& 0x3f).toInt64.toUInt64).toInt64)) * (-2960836687051489901 : Int64)).toUInt64 >>> ((32 : Int32) &&& 0x3f).toInt64.toUInt64).toInt64)).toInt32))] [(.int (1 : Int32))])) _
    refine XS.goto X10.here hx rfl (pc0 := 122) (pc' := 126) rfl (hb hby at_122) (by decide) (by decide) ?_
    show Steps p.tables e below (T10.setTop (mkF m 126 #[.val (.long uA), .second, .val (.long uB), .second, .val (.long uC), .second, .val (.long uJ), .second, .val (.int us), .val (.int (us &&& (3 : Int32))), .val (.int uo), .val (.ref bb), .val (.int (((((((0 : Int64) ^^^ uA) * (-7046029254386353131 : Int64)) ^^^ (((((0 : Int64) ^^^ uA) * (-7046029254386353131 : Int64)).toUInt64 >>> ((32 : Int32) &&& 0x3f).toInt64.toUInt64).toInt64)) * (-2960836687051489901 : Int64)) ^^^ (((((((0 : Int64) ^^^ uA) * (-7046029254386353131 : Int64)) ^^^ (((((0 : Int64) ^^^ uA) * (-7046029254386353131 : Int64)).toUInt64 >>> ((32 : Int32) &&& 0x3f).toInt64.toUInt64).toInt64)) * (-2960836687051489901 : Int64)).toUInt64 >>> ((32 : Int32) &&& 0x3f).toInt64.toUInt64).toInt64)).toInt32))] [(.int (1 : Int32))])) _
    exact retN X10 hx (t := .boolean) Bd.returns (by simp) (hb hby at_126) hr
  · show Q0a Z uA uB uC uJ us h0 n0 _ T10.heap _
    rw [e10q]
    exact ⟨rfl, N10⟩
theorem ef_0c (m : MethodId) (x0 : Int64) (x1 : Int64) (x2 : Int64) (x3 : Int64) (x4 : Int32) : entryFrame m #[(.long x0), (.long x1), (.long x2), (.long x3), (.int x4)] maxLocals = mkF m 0 #[.val (.long x0), .second, .val (.long x1), .second, .val (.long x2), .second, .val (.long x3), .second, .val (.int x4), .unset, .unset, .unset, .unset] [] := by first | (simp [entryFrame, mkF, argsToLocals, Value.category, maxLocals]; done) | rfl
set_option maxRecDepth 65536 in
set_option maxHeartbeats 40000000 in
theorem rm0c (l : Launch) (Z : State) (a0 : Array Value) (hw : ∀ d ∈ tables_1, d.before a0 Z = true) (ws : List Jvm.Cond) (uA : Int64) (uB : Int64) (uC : Int64) (uJ : Int64) (us : Int32) (h0 : Heap) (n0 : Nat) (Z0 : n0 ≤ h0.size) (hk : (us &&& (3 : Int32)).toInt = 2) :
    MetFree l x (head1 (Jvm.Cond.code x code maxLocals ret :: ws) room_1) (fun a U => a = #[(.long uA), (.long uB), (.long uC), (.long uJ), (.int us)] ∧ Z.Warmed39 U.vm ∧ U.heap = h0) (fun _ _ _ _ _ => True) (fun _ U o U' => ∃ v L, o = .returned v ∧ Q0a Z uA uB uC uJ us h0 n0 v U'.heap L ∧ FrameEnd U o U' L 1 5) := by
  refine MetFree.of_bodySF (plainFor_of_name pn_0) hisR ?_
  intro p e s m args below meth c s₁ Bd hml0 hP hK
  obtain ⟨rfl, hZ, hh⟩ := hP
  have hx := Bd.exec
  have hby := Bd.bytes
  have hml : c.maxLocals = 13 := hml0
  have hown : s.vm.findClass "com/example/assured_timing/assuredtiming/simulation/ConfigurationHashPinLaw" = some m.cls := findClass_of_methodNamed Bd.named
  have hnm := (name_of_methodNamed Bd.named Bd.method).1
  have X0 : Stand p l e room_1 s m #[(.long uA), (.long uB), (.long uC), (.long uJ), (.int us)] below meth c s₁ [] 0 0 := Stand.of_body Bd
  have e0 : s₁.heap = h0 := by rw [← hh, Bd.state]; rfl
  have N0 := Fr.nil n0
  have pre0 : ∀ t, Steps p.tables e below (s₁.setTop (mkF m 0 #[.val (.long uA), .second, .val (.long uB), .second, .val (.long uC), .second, .val (.long uJ), .second, .val (.int us), .unset, .unset, .unset, .unset] [])) t → Steps p.tables e below (s₁.setTop (entryFrame m #[(.long uA), (.long uB), (.long uC), (.long uJ), (.int us)] maxLocals)) t := fun t k => castTop (ef_0c m uA uB uC uJ us) k
  have ho := own_off us
  obtain ⟨uo, huo⟩ : ∃ z, z = ((((us.toUInt32 >>> ((2 : Int32) &&& 31).toUInt32).toInt32) &&& (2147483647 : Int32)) % (3 : Int32)) := ⟨_, rfl⟩
  rw [← huo] at ho
  have k1 : (1 : Int32).toInt = 1 := rfl
  have k2 : (2 : Int32).toInt = 2 := rfl
  have k3 : (3 : Int32).toInt = 3 := rfl
  have a1 := own_add uo 1 ho.1 (by omega) (by decide) (by decide)
  have a2 := own_add uo 2 ho.1 (by omega) (by decide) (by decide)
  have b2 := own_add (uo + 1) 1 (by omega) (by omega) (by decide) (by decide)
  have b3 := own_add ((uo + 1) + 1) 1 (by omega) (by omega) (by decide) (by decide)
  have an := own_add uo (us &&& (3 : Int32)) ho.1 (by omega) (by omega) (by omega)
  rw [hk] at an
  have c0 := own_nat uo uo.toInt.toNat (by omega)
  have c1 := own_nat (uo + 1) (uo.toInt.toNat + 1) (by omega)
  have c2 := own_nat (uo + 2) (uo.toInt.toNat + 2) (by omega)
  have d2 := own_nat ((uo + 1) + 1) (uo.toInt.toNat + 2) (by omega)
  obtain ⟨T1, h1, k1, X1, e1, E1, A1, st1⟩ := newP X0 hx hZ (hw _ (List.mem_of_getElem? (i := 1) rfl)) e0 (g := (mkF m 18 #[.val (.long uA), .second, .val (.long uB), .second, .val (.long uC), .second, .val (.long uJ), .second, .val (.int us), .val (.int (us &&& (3 : Int32))), .val (.int uo), .unset, .unset] [(.int (5 : Int32))])) rfl (hb hby at_18) rfl (by decide) (cap := 5) (by decide) (by decide) (by decide) (by decide)
  obtain ⟨bb, sz_bb⟩ : ∃ z, z = h0.size := ⟨_, rfl⟩
  rw [← sz_bb] at A1 st1
  have g_bb : n0 ≤ bb := Nat.le_trans Z0 (Nat.le_of_eq sz_bb.symm)
  have Zp2 : n0 ≤ h1.size := Nat.le_trans Z0 E1.1
  have Vn := own_C_new A1 (n := 5) rfl
  obtain ⟨cl3, Ar3, S3, I3⟩ := Vn
  obtain ⟨T3, h3, X3, e3, W3, st3⟩ := stJ X1 hx hZ e1 Ar3 (j := (0 : Int32)) (by rw [S3]; decide) (g := (mkF m 27 #[.val (.long uA), .second, .val (.long uB), .second, .val (.long uC), .second, .val (.long uJ), .second, .val (.int us), .val (.int (us &&& (3 : Int32))), .val (.int uo), .val (.ref bb), .unset] [(.long uJ), (.int (0 : Int32)), (.ref bb)])) rfl rfl (hb hby at_27)
  have V3 := own_C_set0 Ar3 S3 I3 W3
  have N3f := Fr.snoc X3 N0 g_bb
  obtain ⟨cl4, Ar4, S4, I4⟩ := V3
  obtain ⟨T4, h4, X4, e4, W4, st4⟩ := stJ X3 hx hZ e3 Ar4 (j := (1 : Int32)) (by rw [S4]; decide) (g := (mkF m 33 #[.val (.long uA), .second, .val (.long uB), .second, .val (.long uC), .second, .val (.long uJ), .second, .val (.int us), .val (.int (us &&& (3 : Int32))), .val (.int uo), .val (.ref bb), .unset] [(.long uJ), (.int (1 : Int32)), (.ref bb)])) rfl rfl (hb hby at_33)
  have V4 := own_C_set0 Ar4 S4 I4 W4
  have N4f := Fr.snoc X4 N3f g_bb
  obtain ⟨cl5, Ar5, S5, I5⟩ := V4
  obtain ⟨T5, h5, X5, e5, W5, st5⟩ := stJ X4 hx hZ e4 Ar5 (j := (2 : Int32)) (by rw [S5]; decide) (g := (mkF m 39 #[.val (.long uA), .second, .val (.long uB), .second, .val (.long uC), .second, .val (.long uJ), .second, .val (.int us), .val (.int (us &&& (3 : Int32))), .val (.int uo), .val (.ref bb), .unset] [(.long uJ), (.int (2 : Int32)), (.ref bb)])) rfl rfl (hb hby at_39)
  have V5 := own_C_set0 Ar5 S5 I5 W5
  have N5f := Fr.snoc X5 N4f g_bb
  obtain ⟨cl6, Ar6, S6, I6⟩ := V5
  obtain ⟨T6, h6, X6, e6, W6, st6⟩ := stJ X5 hx hZ e5 Ar6 (j := (3 : Int32)) (by rw [S6]; decide) (g := (mkF m 45 #[.val (.long uA), .second, .val (.long uB), .second, .val (.long uC), .second, .val (.long uJ), .second, .val (.int us), .val (.int (us &&& (3 : Int32))), .val (.int uo), .val (.ref bb), .unset] [(.long uJ), (.int (3 : Int32)), (.ref bb)])) rfl rfl (hb hby at_45)
  have V6 := own_C_set0 Ar6 S6 I6 W6
  have N6f := Fr.snoc X6 N5f g_bb
  obtain ⟨cl7, Ar7, S7, I7⟩ := V6
  obtain ⟨T7, h7, X7, e7, W7, st7⟩ := stJ X6 hx hZ e6 Ar7 (j := (4 : Int32)) (by rw [S7]; decide) (g := (mkF m 51 #[.val (.long uA), .second, .val (.long uB), .second, .val (.long uC), .second, .val (.long uJ), .second, .val (.int us), .val (.int (us &&& (3 : Int32))), .val (.int uo), .val (.ref bb), .unset] [(.long uJ), (.int (4 : Int32)), (.ref bb)])) rfl rfl (hb hby at_51)
  have V7 := own_C_set0 Ar7 S7 I7 W7
  have N7f := Fr.snoc X7 N6f g_bb
  obtain ⟨cl8, Ar8, S8, I8⟩ := V7
  obtain ⟨T8, h8, X8, e8, W8, st8⟩ := stJ X7 hx hZ e7 Ar8 (j := uo) (own_in S8 (by omega) (by omega)) (g := (mkF m 63 #[.val (.long uA), .second, .val (.long uB), .second, .val (.long uC), .second, .val (.long uJ), .second, .val (.int us), .val (.int (us &&& (3 : Int32))), .val (.int uo), .val (.ref bb), .unset] [(.long uA), (.int uo), (.ref bb)])) rfl rfl (hb hby at_63)
  have V8 := own_C_set (n := 5) (by omega) (by intro q hq; exact absurd hq List.not_mem_nil) Ar8 S8 I8 W8
  have N8f := Fr.snoc X8 N7f g_bb
  obtain ⟨cl9, Ar9, S9, I9⟩ := V8
  obtain ⟨T9, h9, X9, e9, W9, st9⟩ := stJ X8 hx hZ e8 Ar9 (j := (uo + (1 : Int32))) (own_in S9 (by omega) (by omega)) (g := (mkF m 77 #[.val (.long uA), .second, .val (.long uB), .second, .val (.long uC), .second, .val (.long uJ), .second, .val (.int us), .val (.int (us &&& (3 : Int32))), .val (.int uo), .val (.ref bb), .unset] [(.long uB), (.int (uo + (1 : Int32))), (.ref bb)])) rfl rfl (hb hby at_77)
  have V9 := own_C_set (n := 5) (by omega) (by
    intro q hq
    simp only [List.mem_cons, List.not_mem_nil, or_false] at hq
    rcases hq with rfl <;> (dsimp only; omega)) Ar9 S9 I9 W9
  have N9f := Fr.snoc X9 N8f g_bb
  obtain ⟨clz, Arz, Sz, Iz⟩ := V9
  have hat0 : clz.slots[(uo).toNatClampNeg]? = some (.long uA) := by rw [show (uo).toNatClampNeg = (uo).toNatClampNeg from rfl]; exact Iz (_, _) (List.mem_of_getElem? (i := 1) rfl)
  have hat1 : clz.slots[((uo + (1 : Int32))).toNatClampNeg]? = some (.long uB) := by rw [show ((uo + (1 : Int32))).toNatClampNeg = ((uo + (1 : Int32))).toNatClampNeg from rfl]; exact Iz (_, _) (List.mem_of_getElem? (i := 0) rfl)
  obtain ⟨_, _, ⟨T10, L10, k10, n10⟩, -, X10, ⟨Lc10, hQ10, l10, y10, z10⟩, st10⟩ := Jvm.LawKit.callS X9 hx (y := (⟨"com/example/assured_timing/assuredtiming/simulation/Configuration", "hash", "([JII)I"⟩ : MethodName)) hown (mvT hZ (hw _ (List.mem_of_getElem? (i := 2) rfl))) (mvT hZ (hw _ (List.mem_of_getElem? (i := 3) rfl))) (mvT hZ (hw _ (List.mem_of_getElem? (i := 4) rfl))) (mvT hZ (hw _ (List.mem_of_getElem? (i := 5) rfl))) (by decide) (backOf (W := 0) (rm1c l Z a0 hw [] bb uo (uo + (us &&& (3 : Int32))) clz uA uB h9 n0 Arz (by rw [Int32.lt_iff_toInt_lt]; omega) (by rw [Int32.lt_iff_toInt_lt]; omega) (by rw [Int32.lt_iff_toInt_lt]; omega) (own_in Sz (by omega) (by omega)) (own_in Sz (by omega) (by omega)) hat0 hat1) hZ (hw _ (List.mem_of_getElem? (i := 5) rfl)) (hw _ (List.mem_of_getElem? (i := 4) rfl)) (by decide) (by decide)) (g := (mkF m 102 #[.val (.long uA), .second, .val (.long uB), .second, .val (.long uC), .second, .val (.long uJ), .second, .val (.int us), .val (.int (us &&& (3 : Int32))), .val (.int uo), .val (.ref bb), .unset] [(.int (uo + (us &&& (3 : Int32)))), (.int uo), (.ref bb)])) rfl (by rw [hml]; rfl) (argsL := [(.ref bb), (.int uo), (.int (uo + (us &&& (3 : Int32))))]) (rest := []) (lenOf pd_1 rfl) rfl (by show 2 * 0 + _ ≤ _; exact Nat.le_of_eq rfl) (hb hby at_102) (fun _ _ => ⟨rfl, e9, (by decide : 1 + 0 ≤ _), (by decide : 5 + 0 ≤ _)⟩)
  dsimp only [Pt.U, Pt.locs, Pt.cells, Pt.slots] at X10 l10 y10 z10 st10 hQ10
  subst l10 y10 z10
  obtain ⟨rfl, N10q, e10q⟩ := hQ10
  have N10 := Fr.app N9f N10q
  obtain ⟨_, _, ⟨T11, L11, k11, n11⟩, -, X11, ⟨Lc11, hQ11, l11, y11, z11⟩, st11⟩ := Jvm.LawKit.callS X10 hx (y := (⟨"com/example/assured_timing/assuredtiming/simulation/ConfigurationHashPinLaw", "expected", "(JJJI)I"⟩ : MethodName)) hown (mvT hZ (hw _ (List.mem_of_getElem? (i := 8) rfl))) (mvT hZ (hw _ (List.mem_of_getElem? (i := 9) rfl))) (mvT hZ (hw _ (List.mem_of_getElem? (i := 10) rfl))) (mvT hZ (hw _ (List.mem_of_getElem? (i := 11) rfl))) (by decide) (backOf (W := 1) (rm3c l Z a0 hw [] uA uB uC (us &&& (3 : Int32)) h9 n0 (by rw [Int32.lt_iff_toInt_lt]; omega) (by rw [Int32.lt_iff_toInt_lt]; omega) (by rw [Int32.lt_iff_toInt_lt]; omega)) hZ (hw _ (List.mem_of_getElem? (i := 11) rfl)) (hw _ (List.mem_of_getElem? (i := 10) rfl)) (by decide) (by decide)) (g := (mkF m 115 #[.val (.long uA), .second, .val (.long uB), .second, .val (.long uC), .second, .val (.long uJ), .second, .val (.int us), .val (.int (us &&& (3 : Int32))), .val (.int uo), .val (.ref bb), .val (.int (((((((((0 : Int64) ^^^ uA) * (-7046029254386353131 : Int64)) ^^^ uB) * (-7046029254386353131 : Int64)) ^^^ (((((((0 : Int64) ^^^ uA) * (-7046029254386353131 : Int64)) ^^^ uB) * (-7046029254386353131 : Int64)).toUInt64 >>> ((32 : Int32) &&& 0x3f).toInt64.toUInt64).toInt64)) * (-2960836687051489901 : Int64)) ^^^ (((((((((0 : Int64) ^^^ uA) * (-7046029254386353131 : Int64)) ^^^ uB) * (-7046029254386353131 : Int64)) ^^^ (((((((0 : Int64) ^^^ uA) * (-7046029254386353131 : Int64)) ^^^ uB) * (-7046029254386353131 : Int64)).toUInt64 >>> ((32 : Int32) &&& 0x3f).toInt64.toUInt64).toInt64)) * (-2960836687051489901 : Int64)).toUInt64 >>> ((32 : Int32) &&& 0x3f).toInt64.toUInt64).toInt64)).toInt32))] [(.int (us &&& (3 : Int32))), (.long uC), (.long uB), (.long uA), (.int (((((((((0 : Int64) ^^^ uA) * (-7046029254386353131 : Int64)) ^^^ uB) * (-7046029254386353131 : Int64)) ^^^ (((((((0 : Int64) ^^^ uA) * (-7046029254386353131 : Int64)) ^^^ uB) * (-7046029254386353131 : Int64)).toUInt64 >>> ((32 : Int32) &&& 0x3f).toInt64.toUInt64).toInt64)) * (-2960836687051489901 : Int64)) ^^^ (((((((((0 : Int64) ^^^ uA) * (-7046029254386353131 : Int64)) ^^^ uB) * (-7046029254386353131 : Int64)) ^^^ (((((((0 : Int64) ^^^ uA) * (-7046029254386353131 : Int64)) ^^^ uB) * (-7046029254386353131 : Int64)).toUInt64 >>> ((32 : Int32) &&& 0x3f).toInt64.toUInt64).toInt64)) * (-2960836687051489901 : Int64)).toUInt64 >>> ((32 : Int32) &&& 0x3f).toInt64.toUInt64).toInt64)).toInt32))])) rfl (by rw [hml]; rfl) (argsL := [(.long uA), (.long uB), (.long uC), (.int (us &&& (3 : Int32)))]) (rest := [(.int (((((((((0 : Int64) ^^^ uA) * (-7046029254386353131 : Int64)) ^^^ uB) * (-7046029254386353131 : Int64)) ^^^ (((((((0 : Int64) ^^^ uA) * (-7046029254386353131 : Int64)) ^^^ uB) * (-7046029254386353131 : Int64)).toUInt64 >>> ((32 : Int32) &&& 0x3f).toInt64.toUInt64).toInt64)) * (-2960836687051489901 : Int64)) ^^^ (((((((((0 : Int64) ^^^ uA) * (-7046029254386353131 : Int64)) ^^^ uB) * (-7046029254386353131 : Int64)) ^^^ (((((((0 : Int64) ^^^ uA) * (-7046029254386353131 : Int64)) ^^^ uB) * (-7046029254386353131 : Int64)).toUInt64 >>> ((32 : Int32) &&& 0x3f).toInt64.toUInt64).toInt64)) * (-2960836687051489901 : Int64)).toUInt64 >>> ((32 : Int32) &&& 0x3f).toInt64.toUInt64).toInt64)).toInt32))]) (lenOf pd_2 rfl) rfl (by show 2 * 0 + _ ≤ _; exact Nat.le_of_eq rfl) (hb hby at_115) (fun _ _ => ⟨rfl, e10q, (by decide : 1 + 0 ≤ _), (by decide : 5 + 0 ≤ _)⟩)
  dsimp only [Pt.U, Pt.locs, Pt.cells, Pt.slots] at X11 l11 y11 z11 st11 hQ11
  subst l11 y11 z11
  obtain ⟨rfl, N11q, e11q⟩ := hQ11
  have N11 := Fr.app N10 N11q
  obtain ⟨fs, hr, hrun, hended, hW, hsame⟩ := X11.leave (v := some (.int (1 : Int32))) (fun h => by rw [Bd.returns] at h; cases h)
  refine ⟨_, _, pre0 _ ?_, hrun, hended, _, _, rfl, ?_, ⟨_, rfl⟩, hW, hsame.mono (by decide) (by decide)⟩
  · show Steps p.tables e below (s₁.setTop (mkF m 0 #[.val (.long uA), .second, .val (.long uB), .second, .val (.long uC), .second, .val (.long uJ), .second, .val (.int us), .unset, .unset, .unset, .unset] [])) _
    refine XS.iload X0.here hx rfl (hb hby at_0) rfl ?_
    show Steps p.tables e below (s₁.setTop (mkF m 2 #[.val (.long uA), .second, .val (.long uB), .second, .val (.long uC), .second, .val (.long uJ), .second, .val (.int us), .unset, .unset, .unset, .unset] [(.int us)])) _
    refine XS.iconst X0.here hx rfl (hb hby at_2) ?_
    show Steps p.tables e below (s₁.setTop (mkF m 3 #[.val (.long uA), .second, .val (.long uB), .second, .val (.long uC), .second, .val (.long uJ), .second, .val (.int us), .unset, .unset, .unset, .unset] [(.int (3 : Int32)), (.int us)])) _
    refine XS.iand X0.here hx rfl (hb hby at_3) rfl ?_
    show Steps p.tables e below (s₁.setTop (mkF m 4 #[.val (.long uA), .second, .val (.long uB), .second, .val (.long uC), .second, .val (.long uJ), .second, .val (.int us), .unset, .unset, .unset, .unset] [(.int (us &&& (3 : Int32)))])) _
    refine XS.istore X0.here hx rfl (hb hby at_4) rfl (l' := #[.val (.long uA), .second, .val (.long uB), .second, .val (.long uC), .second, .val (.long uJ), .second, .val (.int us), .val (.int (us &&& (3 : Int32))), .unset, .unset, .unset]) rfl ?_
    show Steps p.tables e below (s₁.setTop (mkF m 6 #[.val (.long uA), .second, .val (.long uB), .second, .val (.long uC), .second, .val (.long uJ), .second, .val (.int us), .val (.int (us &&& (3 : Int32))), .unset, .unset, .unset] [])) _
    refine XS.iload X0.here hx rfl (hb hby at_6) rfl ?_
    show Steps p.tables e below (s₁.setTop (mkF m 8 #[.val (.long uA), .second, .val (.long uB), .second, .val (.long uC), .second, .val (.long uJ), .second, .val (.int us), .val (.int (us &&& (3 : Int32))), .unset, .unset, .unset] [(.int us)])) _
    refine XS.iconst X0.here hx rfl (hb hby at_8) ?_
    show Steps p.tables e below (s₁.setTop (mkF m 9 #[.val (.long uA), .second, .val (.long uB), .second, .val (.long uC), .second, .val (.long uJ), .second, .val (.int us), .val (.int (us &&& (3 : Int32))), .unset, .unset, .unset] [(.int (2 : Int32)), (.int us)])) _
    refine XS.iushr X0.here hx rfl (hb hby at_9) rfl ?_
    show Steps p.tables e below (s₁.setTop (mkF m 10 #[.val (.long uA), .second, .val (.long uB), .second, .val (.long uC), .second, .val (.long uJ), .second, .val (.int us), .val (.int (us &&& (3 : Int32))), .unset, .unset, .unset] [(.int ((us.toUInt32 >>> ((2 : Int32) &&& 31).toUInt32).toInt32))])) _
    refine X0.ldcInt hx hown (mvT hZ (hw _ (List.mem_of_getElem? (i := 0) rfl))) (g := (mkF m 10 #[.val (.long uA), .second, .val (.long uB), .second, .val (.long uC), .second, .val (.long uJ), .second, .val (.int us), .val (.int (us &&& (3 : Int32))), .unset, .unset, .unset] [(.int ((us.toUInt32 >>> ((2 : Int32) &&& 31).toUInt32).toInt32))])) rfl (hb hby at_10) _ ?_
    show Steps p.tables e below (s₁.setTop (mkF m 12 #[.val (.long uA), .second, .val (.long uB), .second, .val (.long uC), .second, .val (.long uJ), .second, .val (.int us), .val (.int (us &&& (3 : Int32))), .unset, .unset, .unset] [(.int (2147483647 : Int32)), (.int ((us.toUInt32 >>> ((2 : Int32) &&& 31).toUInt32).toInt32))])) _
    refine XS.iand X0.here hx rfl (hb hby at_12) rfl ?_
    show Steps p.tables e below (s₁.setTop (mkF m 13 #[.val (.long uA), .second, .val (.long uB), .second, .val (.long uC), .second, .val (.long uJ), .second, .val (.int us), .val (.int (us &&& (3 : Int32))), .unset, .unset, .unset] [(.int (((us.toUInt32 >>> ((2 : Int32) &&& 31).toUInt32).toInt32) &&& (2147483647 : Int32)))])) _
    refine XS.iconst X0.here hx rfl (hb hby at_13) ?_
    show Steps p.tables e below (s₁.setTop (mkF m 14 #[.val (.long uA), .second, .val (.long uB), .second, .val (.long uC), .second, .val (.long uJ), .second, .val (.int us), .val (.int (us &&& (3 : Int32))), .unset, .unset, .unset] [(.int (3 : Int32)), (.int (((us.toUInt32 >>> ((2 : Int32) &&& 31).toUInt32).toInt32) &&& (2147483647 : Int32)))])) _
    refine iremM X0 hx rfl (hb hby at_14) rfl (by decide) ?_
    show Steps p.tables e below (s₁.setTop (mkF m 15 #[.val (.long uA), .second, .val (.long uB), .second, .val (.long uC), .second, .val (.long uJ), .second, .val (.int us), .val (.int (us &&& (3 : Int32))), .unset, .unset, .unset] [(.int ((((us.toUInt32 >>> ((2 : Int32) &&& 31).toUInt32).toInt32) &&& (2147483647 : Int32)) % (3 : Int32)))])) _
    rw [← huo]
    show Steps p.tables e below (s₁.setTop (mkF m 15 #[.val (.long uA), .second, .val (.long uB), .second, .val (.long uC), .second, .val (.long uJ), .second, .val (.int us), .val (.int (us &&& (3 : Int32))), .unset, .unset, .unset] [(.int uo)])) _
    refine XS.istore X0.here hx rfl (hb hby at_15) rfl (l' := #[.val (.long uA), .second, .val (.long uB), .second, .val (.long uC), .second, .val (.long uJ), .second, .val (.int us), .val (.int (us &&& (3 : Int32))), .val (.int uo), .unset, .unset]) rfl ?_
    show Steps p.tables e below (s₁.setTop (mkF m 17 #[.val (.long uA), .second, .val (.long uB), .second, .val (.long uC), .second, .val (.long uJ), .second, .val (.int us), .val (.int (us &&& (3 : Int32))), .val (.int uo), .unset, .unset] [])) _
    refine XS.iconst X0.here hx rfl (hb hby at_17) ?_
    show Steps p.tables e below (s₁.setTop (mkF m 18 #[.val (.long uA), .second, .val (.long uB), .second, .val (.long uC), .second, .val (.long uJ), .second, .val (.int us), .val (.int (us &&& (3 : Int32))), .val (.int uo), .unset, .unset] [(.int (5 : Int32))])) _
    refine st1 _ ?_
    show Steps p.tables e below (T1.setTop (mkF m 20 #[.val (.long uA), .second, .val (.long uB), .second, .val (.long uC), .second, .val (.long uJ), .second, .val (.int us), .val (.int (us &&& (3 : Int32))), .val (.int uo), .unset, .unset] [(.ref bb)])) _
    refine XS.astore X1.here hx rfl (hb hby at_20) rfl rfl (l' := #[.val (.long uA), .second, .val (.long uB), .second, .val (.long uC), .second, .val (.long uJ), .second, .val (.int us), .val (.int (us &&& (3 : Int32))), .val (.int uo), .val (.ref bb), .unset]) rfl ?_
    show Steps p.tables e below (T1.setTop (mkF m 22 #[.val (.long uA), .second, .val (.long uB), .second, .val (.long uC), .second, .val (.long uJ), .second, .val (.int us), .val (.int (us &&& (3 : Int32))), .val (.int uo), .val (.ref bb), .unset] [])) _
    refine XS.aload X1.here hx rfl (hb hby at_22) rfl rfl ?_
    show Steps p.tables e below (T1.setTop (mkF m 24 #[.val (.long uA), .second, .val (.long uB), .second, .val (.long uC), .second, .val (.long uJ), .second, .val (.int us), .val (.int (us &&& (3 : Int32))), .val (.int uo), .val (.ref bb), .unset] [(.ref bb)])) _
    refine XS.iconst X1.here hx rfl (hb hby at_24) ?_
    show Steps p.tables e below (T1.setTop (mkF m 25 #[.val (.long uA), .second, .val (.long uB), .second, .val (.long uC), .second, .val (.long uJ), .second, .val (.int us), .val (.int (us &&& (3 : Int32))), .val (.int uo), .val (.ref bb), .unset] [(.int (0 : Int32)), (.ref bb)])) _
    refine XS.lload X1.here hx rfl (hb hby at_25) rfl ?_
    show Steps p.tables e below (T1.setTop (mkF m 27 #[.val (.long uA), .second, .val (.long uB), .second, .val (.long uC), .second, .val (.long uJ), .second, .val (.int us), .val (.int (us &&& (3 : Int32))), .val (.int uo), .val (.ref bb), .unset] [(.long uJ), (.int (0 : Int32)), (.ref bb)])) _
    refine st3 _ ?_
    show Steps p.tables e below (T3.setTop (mkF m 28 #[.val (.long uA), .second, .val (.long uB), .second, .val (.long uC), .second, .val (.long uJ), .second, .val (.int us), .val (.int (us &&& (3 : Int32))), .val (.int uo), .val (.ref bb), .unset] [])) _
    refine XS.aload X3.here hx rfl (hb hby at_28) rfl rfl ?_
    show Steps p.tables e below (T3.setTop (mkF m 30 #[.val (.long uA), .second, .val (.long uB), .second, .val (.long uC), .second, .val (.long uJ), .second, .val (.int us), .val (.int (us &&& (3 : Int32))), .val (.int uo), .val (.ref bb), .unset] [(.ref bb)])) _
    refine XS.iconst X3.here hx rfl (hb hby at_30) ?_
    show Steps p.tables e below (T3.setTop (mkF m 31 #[.val (.long uA), .second, .val (.long uB), .second, .val (.long uC), .second, .val (.long uJ), .second, .val (.int us), .val (.int (us &&& (3 : Int32))), .val (.int uo), .val (.ref bb), .unset] [(.int (1 : Int32)), (.ref bb)])) _
    refine XS.lload X3.here hx rfl (hb hby at_31) rfl ?_
    show Steps p.tables e below (T3.setTop (mkF m 33 #[.val (.long uA), .second, .val (.long uB), .second, .val (.long uC), .second, .val (.long uJ), .second, .val (.int us), .val (.int (us &&& (3 : Int32))), .val (.int uo), .val (.ref bb), .unset] [(.long uJ), (.int (1 : Int32)), (.ref bb)])) _
    refine st4 _ ?_
    show Steps p.tables e below (T4.setTop (mkF m 34 #[.val (.long uA), .second, .val (.long uB), .second, .val (.long uC), .second, .val (.long uJ), .second, .val (.int us), .val (.int (us &&& (3 : Int32))), .val (.int uo), .val (.ref bb), .unset] [])) _
    refine XS.aload X4.here hx rfl (hb hby at_34) rfl rfl ?_
    show Steps p.tables e below (T4.setTop (mkF m 36 #[.val (.long uA), .second, .val (.long uB), .second, .val (.long uC), .second, .val (.long uJ), .second, .val (.int us), .val (.int (us &&& (3 : Int32))), .val (.int uo), .val (.ref bb), .unset] [(.ref bb)])) _
    refine XS.iconst X4.here hx rfl (hb hby at_36) ?_
    show Steps p.tables e below (T4.setTop (mkF m 37 #[.val (.long uA), .second, .val (.long uB), .second, .val (.long uC), .second, .val (.long uJ), .second, .val (.int us), .val (.int (us &&& (3 : Int32))), .val (.int uo), .val (.ref bb), .unset] [(.int (2 : Int32)), (.ref bb)])) _
    refine XS.lload X4.here hx rfl (hb hby at_37) rfl ?_
    show Steps p.tables e below (T4.setTop (mkF m 39 #[.val (.long uA), .second, .val (.long uB), .second, .val (.long uC), .second, .val (.long uJ), .second, .val (.int us), .val (.int (us &&& (3 : Int32))), .val (.int uo), .val (.ref bb), .unset] [(.long uJ), (.int (2 : Int32)), (.ref bb)])) _
    refine st5 _ ?_
    show Steps p.tables e below (T5.setTop (mkF m 40 #[.val (.long uA), .second, .val (.long uB), .second, .val (.long uC), .second, .val (.long uJ), .second, .val (.int us), .val (.int (us &&& (3 : Int32))), .val (.int uo), .val (.ref bb), .unset] [])) _
    refine XS.aload X5.here hx rfl (hb hby at_40) rfl rfl ?_
    show Steps p.tables e below (T5.setTop (mkF m 42 #[.val (.long uA), .second, .val (.long uB), .second, .val (.long uC), .second, .val (.long uJ), .second, .val (.int us), .val (.int (us &&& (3 : Int32))), .val (.int uo), .val (.ref bb), .unset] [(.ref bb)])) _
    refine XS.iconst X5.here hx rfl (hb hby at_42) ?_
    show Steps p.tables e below (T5.setTop (mkF m 43 #[.val (.long uA), .second, .val (.long uB), .second, .val (.long uC), .second, .val (.long uJ), .second, .val (.int us), .val (.int (us &&& (3 : Int32))), .val (.int uo), .val (.ref bb), .unset] [(.int (3 : Int32)), (.ref bb)])) _
    refine XS.lload X5.here hx rfl (hb hby at_43) rfl ?_
    show Steps p.tables e below (T5.setTop (mkF m 45 #[.val (.long uA), .second, .val (.long uB), .second, .val (.long uC), .second, .val (.long uJ), .second, .val (.int us), .val (.int (us &&& (3 : Int32))), .val (.int uo), .val (.ref bb), .unset] [(.long uJ), (.int (3 : Int32)), (.ref bb)])) _
    refine st6 _ ?_
    show Steps p.tables e below (T6.setTop (mkF m 46 #[.val (.long uA), .second, .val (.long uB), .second, .val (.long uC), .second, .val (.long uJ), .second, .val (.int us), .val (.int (us &&& (3 : Int32))), .val (.int uo), .val (.ref bb), .unset] [])) _
    refine XS.aload X6.here hx rfl (hb hby at_46) rfl rfl ?_
    show Steps p.tables e below (T6.setTop (mkF m 48 #[.val (.long uA), .second, .val (.long uB), .second, .val (.long uC), .second, .val (.long uJ), .second, .val (.int us), .val (.int (us &&& (3 : Int32))), .val (.int uo), .val (.ref bb), .unset] [(.ref bb)])) _
    refine XS.iconst X6.here hx rfl (hb hby at_48) ?_
    show Steps p.tables e below (T6.setTop (mkF m 49 #[.val (.long uA), .second, .val (.long uB), .second, .val (.long uC), .second, .val (.long uJ), .second, .val (.int us), .val (.int (us &&& (3 : Int32))), .val (.int uo), .val (.ref bb), .unset] [(.int (4 : Int32)), (.ref bb)])) _
    refine XS.lload X6.here hx rfl (hb hby at_49) rfl ?_
    show Steps p.tables e below (T6.setTop (mkF m 51 #[.val (.long uA), .second, .val (.long uB), .second, .val (.long uC), .second, .val (.long uJ), .second, .val (.int us), .val (.int (us &&& (3 : Int32))), .val (.int uo), .val (.ref bb), .unset] [(.long uJ), (.int (4 : Int32)), (.ref bb)])) _
    refine st7 _ ?_
    show Steps p.tables e below (T7.setTop (mkF m 52 #[.val (.long uA), .second, .val (.long uB), .second, .val (.long uC), .second, .val (.long uJ), .second, .val (.int us), .val (.int (us &&& (3 : Int32))), .val (.int uo), .val (.ref bb), .unset] [])) _
    refine XS.iload X7.here hx rfl (hb hby at_52) rfl ?_
    show Steps p.tables e below (T7.setTop (mkF m 54 #[.val (.long uA), .second, .val (.long uB), .second, .val (.long uC), .second, .val (.long uJ), .second, .val (.int us), .val (.int (us &&& (3 : Int32))), .val (.int uo), .val (.ref bb), .unset] [(.int (us &&& (3 : Int32)))])) _
    refine XS.iconst X7.here hx rfl (hb hby at_54) ?_
    show Steps p.tables e below (T7.setTop (mkF m 55 #[.val (.long uA), .second, .val (.long uB), .second, .val (.long uC), .second, .val (.long uJ), .second, .val (.int us), .val (.int (us &&& (3 : Int32))), .val (.int uo), .val (.ref bb), .unset] [(.int (1 : Int32)), (.int (us &&& (3 : Int32)))])) _
    refine XS.icmpNo X7.here hx rfl (hb hby at_55) rfl (flt (by rw [Int32.lt_iff_toInt_lt]; omega)).1 ?_
    show Steps p.tables e below (T7.setTop (mkF m 58 #[.val (.long uA), .second, .val (.long uB), .second, .val (.long uC), .second, .val (.long uJ), .second, .val (.int us), .val (.int (us &&& (3 : Int32))), .val (.int uo), .val (.ref bb), .unset] [])) _
    refine XS.aload X7.here hx rfl (hb hby at_58) rfl rfl ?_
    show Steps p.tables e below (T7.setTop (mkF m 60 #[.val (.long uA), .second, .val (.long uB), .second, .val (.long uC), .second, .val (.long uJ), .second, .val (.int us), .val (.int (us &&& (3 : Int32))), .val (.int uo), .val (.ref bb), .unset] [(.ref bb)])) _
    refine XS.iload X7.here hx rfl (hb hby at_60) rfl ?_
    show Steps p.tables e below (T7.setTop (mkF m 62 #[.val (.long uA), .second, .val (.long uB), .second, .val (.long uC), .second, .val (.long uJ), .second, .val (.int us), .val (.int (us &&& (3 : Int32))), .val (.int uo), .val (.ref bb), .unset] [(.int uo), (.ref bb)])) _
    refine XS.lloadN X7.here hx rfl (hb hby at_62) rfl ?_
    show Steps p.tables e below (T7.setTop (mkF m 63 #[.val (.long uA), .second, .val (.long uB), .second, .val (.long uC), .second, .val (.long uJ), .second, .val (.int us), .val (.int (us &&& (3 : Int32))), .val (.int uo), .val (.ref bb), .unset] [(.long uA), (.int uo), (.ref bb)])) _
    refine st8 _ ?_
    show Steps p.tables e below (T8.setTop (mkF m 64 #[.val (.long uA), .second, .val (.long uB), .second, .val (.long uC), .second, .val (.long uJ), .second, .val (.int us), .val (.int (us &&& (3 : Int32))), .val (.int uo), .val (.ref bb), .unset] [])) _
    refine XS.iload X8.here hx rfl (hb hby at_64) rfl ?_
    show Steps p.tables e below (T8.setTop (mkF m 66 #[.val (.long uA), .second, .val (.long uB), .second, .val (.long uC), .second, .val (.long uJ), .second, .val (.int us), .val (.int (us &&& (3 : Int32))), .val (.int uo), .val (.ref bb), .unset] [(.int (us &&& (3 : Int32)))])) _
    refine XS.iconst X8.here hx rfl (hb hby at_66) ?_
    show Steps p.tables e below (T8.setTop (mkF m 67 #[.val (.long uA), .second, .val (.long uB), .second, .val (.long uC), .second, .val (.long uJ), .second, .val (.int us), .val (.int (us &&& (3 : Int32))), .val (.int uo), .val (.ref bb), .unset] [(.int (2 : Int32)), (.int (us &&& (3 : Int32)))])) _
    refine XS.icmpNo X8.here hx rfl (hb hby at_67) rfl (flt (by rw [Int32.lt_iff_toInt_lt]; omega)).1 ?_
    show Steps p.tables e below (T8.setTop (mkF m 70 #[.val (.long uA), .second, .val (.long uB), .second, .val (.long uC), .second, .val (.long uJ), .second, .val (.int us), .val (.int (us &&& (3 : Int32))), .val (.int uo), .val (.ref bb), .unset] [])) _
    refine XS.aload X8.here hx rfl (hb hby at_70) rfl rfl ?_
    show Steps p.tables e below (T8.setTop (mkF m 72 #[.val (.long uA), .second, .val (.long uB), .second, .val (.long uC), .second, .val (.long uJ), .second, .val (.int us), .val (.int (us &&& (3 : Int32))), .val (.int uo), .val (.ref bb), .unset] [(.ref bb)])) _
    refine XS.iload X8.here hx rfl (hb hby at_72) rfl ?_
    show Steps p.tables e below (T8.setTop (mkF m 74 #[.val (.long uA), .second, .val (.long uB), .second, .val (.long uC), .second, .val (.long uJ), .second, .val (.int us), .val (.int (us &&& (3 : Int32))), .val (.int uo), .val (.ref bb), .unset] [(.int uo), (.ref bb)])) _
    refine XS.iconst X8.here hx rfl (hb hby at_74) ?_
    show Steps p.tables e below (T8.setTop (mkF m 75 #[.val (.long uA), .second, .val (.long uB), .second, .val (.long uC), .second, .val (.long uJ), .second, .val (.int us), .val (.int (us &&& (3 : Int32))), .val (.int uo), .val (.ref bb), .unset] [(.int (1 : Int32)), (.int uo), (.ref bb)])) _
    refine XS.iadd X8.here hx rfl (hb hby at_75) rfl ?_
    show Steps p.tables e below (T8.setTop (mkF m 76 #[.val (.long uA), .second, .val (.long uB), .second, .val (.long uC), .second, .val (.long uJ), .second, .val (.int us), .val (.int (us &&& (3 : Int32))), .val (.int uo), .val (.ref bb), .unset] [(.int (uo + (1 : Int32))), (.ref bb)])) _
    refine XS.lloadN X8.here hx rfl (hb hby at_76) rfl ?_
    show Steps p.tables e below (T8.setTop (mkF m 77 #[.val (.long uA), .second, .val (.long uB), .second, .val (.long uC), .second, .val (.long uJ), .second, .val (.int us), .val (.int (us &&& (3 : Int32))), .val (.int uo), .val (.ref bb), .unset] [(.long uB), (.int (uo + (1 : Int32))), (.ref bb)])) _
    refine st9 _ ?_
    show Steps p.tables e below (T9.setTop (mkF m 78 #[.val (.long uA), .second, .val (.long uB), .second, .val (.long uC), .second, .val (.long uJ), .second, .val (.int us), .val (.int (us &&& (3 : Int32))), .val (.int uo), .val (.ref bb), .unset] [])) _
    refine XS.iload X9.here hx rfl (hb hby at_78) rfl ?_
    show Steps p.tables e below (T9.setTop (mkF m 80 #[.val (.long uA), .second, .val (.long uB), .second, .val (.long uC), .second, .val (.long uJ), .second, .val (.int us), .val (.int (us &&& (3 : Int32))), .val (.int uo), .val (.ref bb), .unset] [(.int (us &&& (3 : Int32)))])) _
    refine XS.iconst X9.here hx rfl (hb hby at_80) ?_
    show Steps p.tables e below (T9.setTop (mkF m 81 #[.val (.long uA), .second, .val (.long uB), .second, .val (.long uC), .second, .val (.long uJ), .second, .val (.int us), .val (.int (us &&& (3 : Int32))), .val (.int uo), .val (.ref bb), .unset] [(.int (3 : Int32)), (.int (us &&& (3 : Int32)))])) _
    refine XS.icmpYes X9.here hx rfl (pc0 := 81) (pc' := 93) rfl (hb hby at_81) rfl (tlt (by rw [Int32.lt_iff_toInt_lt]; omega)).1 (by decide) (by decide) ?_
    show Steps p.tables e below (T9.setTop (mkF m 93 #[.val (.long uA), .second, .val (.long uB), .second, .val (.long uC), .second, .val (.long uJ), .second, .val (.int us), .val (.int (us &&& (3 : Int32))), .val (.int uo), .val (.ref bb), .unset] [])) _
    refine XS.aload X9.here hx rfl (hb hby at_93) rfl rfl ?_
    show Steps p.tables e below (T9.setTop (mkF m 95 #[.val (.long uA), .second, .val (.long uB), .second, .val (.long uC), .second, .val (.long uJ), .second, .val (.int us), .val (.int (us &&& (3 : Int32))), .val (.int uo), .val (.ref bb), .unset] [(.ref bb)])) _
    refine XS.iload X9.here hx rfl (hb hby at_95) rfl ?_
    show Steps p.tables e below (T9.setTop (mkF m 97 #[.val (.long uA), .second, .val (.long uB), .second, .val (.long uC), .second, .val (.long uJ), .second, .val (.int us), .val (.int (us &&& (3 : Int32))), .val (.int uo), .val (.ref bb), .unset] [(.int uo), (.ref bb)])) _
    refine XS.iload X9.here hx rfl (hb hby at_97) rfl ?_
    show Steps p.tables e below (T9.setTop (mkF m 99 #[.val (.long uA), .second, .val (.long uB), .second, .val (.long uC), .second, .val (.long uJ), .second, .val (.int us), .val (.int (us &&& (3 : Int32))), .val (.int uo), .val (.ref bb), .unset] [(.int uo), (.int uo), (.ref bb)])) _
    refine XS.iload X9.here hx rfl (hb hby at_99) rfl ?_
    show Steps p.tables e below (T9.setTop (mkF m 101 #[.val (.long uA), .second, .val (.long uB), .second, .val (.long uC), .second, .val (.long uJ), .second, .val (.int us), .val (.int (us &&& (3 : Int32))), .val (.int uo), .val (.ref bb), .unset] [(.int (us &&& (3 : Int32))), (.int uo), (.int uo), (.ref bb)])) _
    refine XS.iadd X9.here hx rfl (hb hby at_101) rfl ?_
    show Steps p.tables e below (T9.setTop (mkF m 102 #[.val (.long uA), .second, .val (.long uB), .second, .val (.long uC), .second, .val (.long uJ), .second, .val (.int us), .val (.int (us &&& (3 : Int32))), .val (.int uo), .val (.ref bb), .unset] [(.int (uo + (us &&& (3 : Int32)))), (.int uo), (.ref bb)])) _
    refine st10 _ ?_
    show Steps p.tables e below (T10.setTop (mkF m 105 #[.val (.long uA), .second, .val (.long uB), .second, .val (.long uC), .second, .val (.long uJ), .second, .val (.int us), .val (.int (us &&& (3 : Int32))), .val (.int uo), .val (.ref bb), .unset] [(.int (((((((((0 : Int64) ^^^ uA) * (-7046029254386353131 : Int64)) ^^^ uB) * (-7046029254386353131 : Int64)) ^^^ (((((((0 : Int64) ^^^ uA) * (-7046029254386353131 : Int64)) ^^^ uB) * (-7046029254386353131 : Int64)).toUInt64 >>> ((32 : Int32) &&& 0x3f).toInt64.toUInt64).toInt64)) * (-2960836687051489901 : Int64)) ^^^ (((((((((0 : Int64) ^^^ uA) * (-7046029254386353131 : Int64)) ^^^ uB) * (-7046029254386353131 : Int64)) ^^^ (((((((0 : Int64) ^^^ uA) * (-7046029254386353131 : Int64)) ^^^ uB) * (-7046029254386353131 : Int64)).toUInt64 >>> ((32 : Int32) &&& 0x3f).toInt64.toUInt64).toInt64)) * (-2960836687051489901 : Int64)).toUInt64 >>> ((32 : Int32) &&& 0x3f).toInt64.toUInt64).toInt64)).toInt32))])) _
    refine XS.istore X10.here hx rfl (hb hby at_105) rfl (l' := #[.val (.long uA), .second, .val (.long uB), .second, .val (.long uC), .second, .val (.long uJ), .second, .val (.int us), .val (.int (us &&& (3 : Int32))), .val (.int uo), .val (.ref bb), .val (.int (((((((((0 : Int64) ^^^ uA) * (-7046029254386353131 : Int64)) ^^^ uB) * (-7046029254386353131 : Int64)) ^^^ (((((((0 : Int64) ^^^ uA) * (-7046029254386353131 : Int64)) ^^^ uB) * (-7046029254386353131 : Int64)).toUInt64 >>> ((32 : Int32) &&& 0x3f).toInt64.toUInt64).toInt64)) * (-2960836687051489901 : Int64)) ^^^ (((((((((0 : Int64) ^^^ uA) * (-7046029254386353131 : Int64)) ^^^ uB) * (-7046029254386353131 : Int64)) ^^^ (((((((0 : Int64) ^^^ uA) * (-7046029254386353131 : Int64)) ^^^ uB) * (-7046029254386353131 : Int64)).toUInt64 >>> ((32 : Int32) &&& 0x3f).toInt64.toUInt64).toInt64)) * (-2960836687051489901 : Int64)).toUInt64 >>> ((32 : Int32) &&& 0x3f).toInt64.toUInt64).toInt64)).toInt32))]) rfl ?_
    show Steps p.tables e below (T10.setTop (mkF m 107 #[.val (.long uA), .second, .val (.long uB), .second, .val (.long uC), .second, .val (.long uJ), .second, .val (.int us), .val (.int (us &&& (3 : Int32))), .val (.int uo), .val (.ref bb), .val (.int (((((((((0 : Int64) ^^^ uA) * (-7046029254386353131 : Int64)) ^^^ uB) * (-7046029254386353131 : Int64)) ^^^ (((((((0 : Int64) ^^^ uA) * (-7046029254386353131 : Int64)) ^^^ uB) * (-7046029254386353131 : Int64)).toUInt64 >>> ((32 : Int32) &&& 0x3f).toInt64.toUInt64).toInt64)) * (-2960836687051489901 : Int64)) ^^^ (((((((((0 : Int64) ^^^ uA) * (-7046029254386353131 : Int64)) ^^^ uB) * (-7046029254386353131 : Int64)) ^^^ (((((((0 : Int64) ^^^ uA) * (-7046029254386353131 : Int64)) ^^^ uB) * (-7046029254386353131 : Int64)).toUInt64 >>> ((32 : Int32) &&& 0x3f).toInt64.toUInt64).toInt64)) * (-2960836687051489901 : Int64)).toUInt64 >>> ((32 : Int32) &&& 0x3f).toInt64.toUInt64).toInt64)).toInt32))] [])) _
    refine XS.iload X10.here hx rfl (hb hby at_107) rfl ?_
    show Steps p.tables e below (T10.setTop (mkF m 109 #[.val (.long uA), .second, .val (.long uB), .second, .val (.long uC), .second, .val (.long uJ), .second, .val (.int us), .val (.int (us &&& (3 : Int32))), .val (.int uo), .val (.ref bb), .val (.int (((((((((0 : Int64) ^^^ uA) * (-7046029254386353131 : Int64)) ^^^ uB) * (-7046029254386353131 : Int64)) ^^^ (((((((0 : Int64) ^^^ uA) * (-7046029254386353131 : Int64)) ^^^ uB) * (-7046029254386353131 : Int64)).toUInt64 >>> ((32 : Int32) &&& 0x3f).toInt64.toUInt64).toInt64)) * (-2960836687051489901 : Int64)) ^^^ (((((((((0 : Int64) ^^^ uA) * (-7046029254386353131 : Int64)) ^^^ uB) * (-7046029254386353131 : Int64)) ^^^ (((((((0 : Int64) ^^^ uA) * (-7046029254386353131 : Int64)) ^^^ uB) * (-7046029254386353131 : Int64)).toUInt64 >>> ((32 : Int32) &&& 0x3f).toInt64.toUInt64).toInt64)) * (-2960836687051489901 : Int64)).toUInt64 >>> ((32 : Int32) &&& 0x3f).toInt64.toUInt64).toInt64)).toInt32))] [(.int (((((((((0 : Int64) ^^^ uA) * (-7046029254386353131 : Int64)) ^^^ uB) * (-7046029254386353131 : Int64)) ^^^ (((((((0 : Int64) ^^^ uA) * (-7046029254386353131 : Int64)) ^^^ uB) * (-7046029254386353131 : Int64)).toUInt64 >>> ((32 : Int32) &&& 0x3f).toInt64.toUInt64).toInt64)) * (-2960836687051489901 : Int64)) ^^^ (((((((((0 : Int64) ^^^ uA) * (-7046029254386353131 : Int64)) ^^^ uB) * (-7046029254386353131 : Int64)) ^^^ (((((((0 : Int64) ^^^ uA) * (-7046029254386353131 : Int64)) ^^^ uB) * (-7046029254386353131 : Int64)).toUInt64 >>> ((32 : Int32) &&& 0x3f).toInt64.toUInt64).toInt64)) * (-2960836687051489901 : Int64)).toUInt64 >>> ((32 : Int32) &&& 0x3f).toInt64.toUInt64).toInt64)).toInt32))])) _
    refine XS.lloadN X10.here hx rfl (hb hby at_109) rfl ?_
    show Steps p.tables e below (T10.setTop (mkF m 110 #[.val (.long uA), .second, .val (.long uB), .second, .val (.long uC), .second, .val (.long uJ), .second, .val (.int us), .val (.int (us &&& (3 : Int32))), .val (.int uo), .val (.ref bb), .val (.int (((((((((0 : Int64) ^^^ uA) * (-7046029254386353131 : Int64)) ^^^ uB) * (-7046029254386353131 : Int64)) ^^^ (((((((0 : Int64) ^^^ uA) * (-7046029254386353131 : Int64)) ^^^ uB) * (-7046029254386353131 : Int64)).toUInt64 >>> ((32 : Int32) &&& 0x3f).toInt64.toUInt64).toInt64)) * (-2960836687051489901 : Int64)) ^^^ (((((((((0 : Int64) ^^^ uA) * (-7046029254386353131 : Int64)) ^^^ uB) * (-7046029254386353131 : Int64)) ^^^ (((((((0 : Int64) ^^^ uA) * (-7046029254386353131 : Int64)) ^^^ uB) * (-7046029254386353131 : Int64)).toUInt64 >>> ((32 : Int32) &&& 0x3f).toInt64.toUInt64).toInt64)) * (-2960836687051489901 : Int64)).toUInt64 >>> ((32 : Int32) &&& 0x3f).toInt64.toUInt64).toInt64)).toInt32))] [(.long uA), (.int (((((((((0 : Int64) ^^^ uA) * (-7046029254386353131 : Int64)) ^^^ uB) * (-7046029254386353131 : Int64)) ^^^ (((((((0 : Int64) ^^^ uA) * (-7046029254386353131 : Int64)) ^^^ uB) * (-7046029254386353131 : Int64)).toUInt64 >>> ((32 : Int32) &&& 0x3f).toInt64.toUInt64).toInt64)) * (-2960836687051489901 : Int64)) ^^^ (((((((((0 : Int64) ^^^ uA) * (-7046029254386353131 : Int64)) ^^^ uB) * (-7046029254386353131 : Int64)) ^^^ (((((((0 : Int64) ^^^ uA) * (-7046029254386353131 : Int64)) ^^^ uB) * (-7046029254386353131 : Int64)).toUInt64 >>> ((32 : Int32) &&& 0x3f).toInt64.toUInt64).toInt64)) * (-2960836687051489901 : Int64)).toUInt64 >>> ((32 : Int32) &&& 0x3f).toInt64.toUInt64).toInt64)).toInt32))])) _
    refine XS.lloadN X10.here hx rfl (hb hby at_110) rfl ?_
    show Steps p.tables e below (T10.setTop (mkF m 111 #[.val (.long uA), .second, .val (.long uB), .second, .val (.long uC), .second, .val (.long uJ), .second, .val (.int us), .val (.int (us &&& (3 : Int32))), .val (.int uo), .val (.ref bb), .val (.int (((((((((0 : Int64) ^^^ uA) * (-7046029254386353131 : Int64)) ^^^ uB) * (-7046029254386353131 : Int64)) ^^^ (((((((0 : Int64) ^^^ uA) * (-7046029254386353131 : Int64)) ^^^ uB) * (-7046029254386353131 : Int64)).toUInt64 >>> ((32 : Int32) &&& 0x3f).toInt64.toUInt64).toInt64)) * (-2960836687051489901 : Int64)) ^^^ (((((((((0 : Int64) ^^^ uA) * (-7046029254386353131 : Int64)) ^^^ uB) * (-7046029254386353131 : Int64)) ^^^ (((((((0 : Int64) ^^^ uA) * (-7046029254386353131 : Int64)) ^^^ uB) * (-7046029254386353131 : Int64)).toUInt64 >>> ((32 : Int32) &&& 0x3f).toInt64.toUInt64).toInt64)) * (-2960836687051489901 : Int64)).toUInt64 >>> ((32 : Int32) &&& 0x3f).toInt64.toUInt64).toInt64)).toInt32))] [(.long uB), (.long uA), (.int (((((((((0 : Int64) ^^^ uA) * (-7046029254386353131 : Int64)) ^^^ uB) * (-7046029254386353131 : Int64)) ^^^ (((((((0 : Int64) ^^^ uA) * (-7046029254386353131 : Int64)) ^^^ uB) * (-7046029254386353131 : Int64)).toUInt64 >>> ((32 : Int32) &&& 0x3f).toInt64.toUInt64).toInt64)) * (-2960836687051489901 : Int64)) ^^^ (((((((((0 : Int64) ^^^ uA) * (-7046029254386353131 : Int64)) ^^^ uB) * (-7046029254386353131 : Int64)) ^^^ (((((((0 : Int64) ^^^ uA) * (-7046029254386353131 : Int64)) ^^^ uB) * (-7046029254386353131 : Int64)).toUInt64 >>> ((32 : Int32) &&& 0x3f).toInt64.toUInt64).toInt64)) * (-2960836687051489901 : Int64)).toUInt64 >>> ((32 : Int32) &&& 0x3f).toInt64.toUInt64).toInt64)).toInt32))])) _
    refine XS.lload X10.here hx rfl (hb hby at_111) rfl ?_
    show Steps p.tables e below (T10.setTop (mkF m 113 #[.val (.long uA), .second, .val (.long uB), .second, .val (.long uC), .second, .val (.long uJ), .second, .val (.int us), .val (.int (us &&& (3 : Int32))), .val (.int uo), .val (.ref bb), .val (.int (((((((((0 : Int64) ^^^ uA) * (-7046029254386353131 : Int64)) ^^^ uB) * (-7046029254386353131 : Int64)) ^^^ (((((((0 : Int64) ^^^ uA) * (-7046029254386353131 : Int64)) ^^^ uB) * (-7046029254386353131 : Int64)).toUInt64 >>> ((32 : Int32) &&& 0x3f).toInt64.toUInt64).toInt64)) * (-2960836687051489901 : Int64)) ^^^ (((((((((0 : Int64) ^^^ uA) * (-7046029254386353131 : Int64)) ^^^ uB) * (-7046029254386353131 : Int64)) ^^^ (((((((0 : Int64) ^^^ uA) * (-7046029254386353131 : Int64)) ^^^ uB) * (-7046029254386353131 : Int64)).toUInt64 >>> ((32 : Int32) &&& 0x3f).toInt64.toUInt64).toInt64)) * (-2960836687051489901 : Int64)).toUInt64 >>> ((32 : Int32) &&& 0x3f).toInt64.toUInt64).toInt64)).toInt32))] [(.long uC), (.long uB), (.long uA), (.int (((((((((0 : Int64) ^^^ uA) * (-7046029254386353131 : Int64)) ^^^ uB) * (-7046029254386353131 : Int64)) ^^^ (((((((0 : Int64) ^^^ uA) * (-7046029254386353131 : Int64)) ^^^ uB) * (-7046029254386353131 : Int64)).toUInt64 >>> ((32 : Int32) &&& 0x3f).toInt64.toUInt64).toInt64)) * (-2960836687051489901 : Int64)) ^^^ (((((((((0 : Int64) ^^^ uA) * (-7046029254386353131 : Int64)) ^^^ uB) * (-7046029254386353131 : Int64)) ^^^ (((((((0 : Int64) ^^^ uA) * (-7046029254386353131 : Int64)) ^^^ uB) * (-7046029254386353131 : Int64)).toUInt64 >>> ((32 : Int32) &&& 0x3f).toInt64.toUInt64).toInt64)) * (-2960836687051489901 : Int64)).toUInt64 >>> ((32 : Int32) &&& 0x3f).toInt64.toUInt64).toInt64)).toInt32))])) _
    refine XS.iload X10.here hx rfl (hb hby at_113) rfl ?_
    show Steps p.tables e below (T10.setTop (mkF m 115 #[.val (.long uA), .second, .val (.long uB), .second, .val (.long uC), .second, .val (.long uJ), .second, .val (.int us), .val (.int (us &&& (3 : Int32))), .val (.int uo), .val (.ref bb), .val (.int (((((((((0 : Int64) ^^^ uA) * (-7046029254386353131 : Int64)) ^^^ uB) * (-7046029254386353131 : Int64)) ^^^ (((((((0 : Int64) ^^^ uA) * (-7046029254386353131 : Int64)) ^^^ uB) * (-7046029254386353131 : Int64)).toUInt64 >>> ((32 : Int32) &&& 0x3f).toInt64.toUInt64).toInt64)) * (-2960836687051489901 : Int64)) ^^^ (((((((((0 : Int64) ^^^ uA) * (-7046029254386353131 : Int64)) ^^^ uB) * (-7046029254386353131 : Int64)) ^^^ (((((((0 : Int64) ^^^ uA) * (-7046029254386353131 : Int64)) ^^^ uB) * (-7046029254386353131 : Int64)).toUInt64 >>> ((32 : Int32) &&& 0x3f).toInt64.toUInt64).toInt64)) * (-2960836687051489901 : Int64)).toUInt64 >>> ((32 : Int32) &&& 0x3f).toInt64.toUInt64).toInt64)).toInt32))] [(.int (us &&& (3 : Int32))), (.long uC), (.long uB), (.long uA), (.int (((((((((0 : Int64) ^^^ uA) * (-7046029254386353131 : Int64)) ^^^ uB) * (-7046029254386353131 : Int64)) ^^^ (((((((0 : Int64) ^^^ uA) * (-7046029254386353131 : Int64)) ^^^ uB) * (-7046029254386353131 : Int64)).toUInt64 >>> ((32 : Int32) &&& 0x3f).toInt64.toUInt64).toInt64)) * (-2960836687051489901 : Int64)) ^^^ (((((((((0 : Int64) ^^^ uA) * (-7046029254386353131 : Int64)) ^^^ uB) * (-7046029254386353131 : Int64)) ^^^ (((((((0 : Int64) ^^^ uA) * (-7046029254386353131 : Int64)) ^^^ uB) * (-7046029254386353131 : Int64)).toUInt64 >>> ((32 : Int32) &&& 0x3f).toInt64.toUInt64).toInt64)) * (-2960836687051489901 : Int64)).toUInt64 >>> ((32 : Int32) &&& 0x3f).toInt64.toUInt64).toInt64)).toInt32))])) _
    refine st11 _ ?_
    show Steps p.tables e below (T11.setTop (mkF m 118 #[.val (.long uA), .second, .val (.long uB), .second, .val (.long uC), .second, .val (.long uJ), .second, .val (.int us), .val (.int (us &&& (3 : Int32))), .val (.int uo), .val (.ref bb), .val (.int (((((((((0 : Int64) ^^^ uA) * (-7046029254386353131 : Int64)) ^^^ uB) * (-7046029254386353131 : Int64)) ^^^ (((((((0 : Int64) ^^^ uA) * (-7046029254386353131 : Int64)) ^^^ uB) * (-7046029254386353131 : Int64)).toUInt64 >>> ((32 : Int32) &&& 0x3f).toInt64.toUInt64).toInt64)) * (-2960836687051489901 : Int64)) ^^^ (((((((((0 : Int64) ^^^ uA) * (-7046029254386353131 : Int64)) ^^^ uB) * (-7046029254386353131 : Int64)) ^^^ (((((((0 : Int64) ^^^ uA) * (-7046029254386353131 : Int64)) ^^^ uB) * (-7046029254386353131 : Int64)).toUInt64 >>> ((32 : Int32) &&& 0x3f).toInt64.toUInt64).toInt64)) * (-2960836687051489901 : Int64)).toUInt64 >>> ((32 : Int32) &&& 0x3f).toInt64.toUInt64).toInt64)).toInt32))] [(.int (((((((((0 : Int64) ^^^ uA) * (-7046029254386353131 : Int64)) ^^^ uB) * (-7046029254386353131 : Int64)) ^^^ (((((((0 : Int64) ^^^ uA) * (-7046029254386353131 : Int64)) ^^^ uB) * (-7046029254386353131 : Int64)).toUInt64 >>> ((32 : Int32) &&& 0x3f).toInt64.toUInt64).toInt64)) * (-2960836687051489901 : Int64)) ^^^ (((((((((0 : Int64) ^^^ uA) * (-7046029254386353131 : Int64)) ^^^ uB) * (-7046029254386353131 : Int64)) ^^^ (((((((0 : Int64) ^^^ uA) * (-7046029254386353131 : Int64)) ^^^ uB) * (-7046029254386353131 : Int64)).toUInt64 >>> ((32 : Int32) &&& 0x3f).toInt64.toUInt64).toInt64)) * (-2960836687051489901 : Int64)).toUInt64 >>> ((32 : Int32) &&& 0x3f).toInt64.toUInt64).toInt64)).toInt32)), (.int (((((((((0 : Int64) ^^^ uA) * (-7046029254386353131 : Int64)) ^^^ uB) * (-7046029254386353131 : Int64)) ^^^ (((((((0 : Int64) ^^^ uA) * (-7046029254386353131 : Int64)) ^^^ uB) * (-7046029254386353131 : Int64)).toUInt64 >>> ((32 : Int32) &&& 0x3f).toInt64.toUInt64).toInt64)) * (-2960836687051489901 : Int64)) ^^^ (((((((((0 : Int64) ^^^ uA) * (-7046029254386353131 : Int64)) ^^^ uB) * (-7046029254386353131 : Int64)) ^^^ (((((((0 : Int64) ^^^ uA) * (-7046029254386353131 : Int64)) ^^^ uB) * (-7046029254386353131 : Int64)).toUInt64 >>> ((32 : Int32) &&& 0x3f).toInt64.toUInt64).toInt64)) * (-2960836687051489901 : Int64)).toUInt64 >>> ((32 : Int32) &&& 0x3f).toInt64.toUInt64).toInt64)).toInt32))])) _
    refine XS.icmpNo X11.here hx rfl (hb hby at_118) rfl (teq rfl).2 ?_
    show Steps p.tables e below (T11.setTop (mkF m 121 #[.val (.long uA), .second, .val (.long uB), .second, .val (.long uC), .second, .val (.long uJ), .second, .val (.int us), .val (.int (us &&& (3 : Int32))), .val (.int uo), .val (.ref bb), .val (.int (((((((((0 : Int64) ^^^ uA) * (-7046029254386353131 : Int64)) ^^^ uB) * (-7046029254386353131 : Int64)) ^^^ (((((((0 : Int64) ^^^ uA) * (-7046029254386353131 : Int64)) ^^^ uB) * (-7046029254386353131 : Int64)).toUInt64 >>> ((32 : Int32) &&& 0x3f).toInt64.toUInt64).toInt64)) * (-2960836687051489901 : Int64)) ^^^ (((((((((0 : Int64) ^^^ uA) * (-7046029254386353131 : Int64)) ^^^ uB) * (-7046029254386353131 : Int64)) ^^^ (((((((0 : Int64) ^^^ uA) * (-7046029254386353131 : Int64)) ^^^ uB) * (-7046029254386353131 : Int64)).toUInt64 >>> ((32 : Int32) &&& 0x3f).toInt64.toUInt64).toInt64)) * (-2960836687051489901 : Int64)).toUInt64 >>> ((32 : Int32) &&& 0x3f).toInt64.toUInt64).toInt64)).toInt32))] [])) _
    refine XS.iconst X11.here hx rfl (hb hby at_121) ?_
    show Steps p.tables e below (T11.setTop (mkF m 122 #[.val (.long uA), .second, .val (.long uB), .second, .val (.long uC), .second, .val (.long uJ), .second, .val (.int us), .val (.int (us &&& (3 : Int32))), .val (.int uo), .val (.ref bb), .val (.int (((((((((0 : Int64) ^^^ uA) * (-7046029254386353131 : Int64)) ^^^ uB) * (-7046029254386353131 : Int64)) ^^^ (((((((0 : Int64) ^^^ uA) * (-7046029254386353131 : Int64)) ^^^ uB) * (-7046029254386353131 : Int64)).toUInt64 >>> ((32 : Int32) &&& 0x3f).toInt64.toUInt64).toInt64)) * (-2960836687051489901 : Int64)) ^^^ (((((((((0 : Int64) ^^^ uA) * (-7046029254386353131 : Int64)) ^^^ uB) * (-7046029254386353131 : Int64)) ^^^ (((((((0 : Int64) ^^^ uA) * (-7046029254386353131 : Int64)) ^^^ uB) * (-7046029254386353131 : Int64)).toUInt64 >>> ((32 : Int32) &&& 0x3f).toInt64.toUInt64).toInt64)) * (-2960836687051489901 : Int64)).toUInt64 >>> ((32 : Int32) &&& 0x3f).toInt64.toUInt64).toInt64)).toInt32))] [(.int (1 : Int32))])) _
    refine XS.goto X11.here hx rfl (pc0 := 122) (pc' := 126) rfl (hb hby at_122) (by decide) (by decide) ?_
    show Steps p.tables e below (T11.setTop (mkF m 126 #[.val (.long uA), .second, .val (.long uB), .second, .val (.long uC), .second, .val (.long uJ), .second, .val (.int us), .val (.int (us &&& (3 : Int32))), .val (.int uo), .val (.ref bb), .val (.int (((((((((0 : Int64) ^^^ uA) * (-7046029254386353131 : Int64)) ^^^ uB) * (-7046029254386353131 : Int64)) ^^^ (((((((0 : Int64) ^^^ uA) * (-7046029254386353131 : Int64)) ^^^ uB) * (-7046029254386353131 : Int64)).toUInt64 >>> ((32 : Int32) &&& 0x3f).toInt64.toUInt64).toInt64)) * (-2960836687051489901 : Int64)) ^^^ (((((((((0 : Int64) ^^^ uA) * (-7046029254386353131 : Int64)) ^^^ uB) * (-7046029254386353131 : Int64)) ^^^ (((((((0 : Int64) ^^^ uA) * (-7046029254386353131 : Int64)) ^^^ uB) * (-7046029254386353131 : Int64)).toUInt64 >>> ((32 : Int32) &&& 0x3f).toInt64.toUInt64).toInt64)) * (-2960836687051489901 : Int64)).toUInt64 >>> ((32 : Int32) &&& 0x3f).toInt64.toUInt64).toInt64)).toInt32))] [(.int (1 : Int32))])) _
    exact retN X11 hx (t := .boolean) Bd.returns (by simp) (hb hby at_126) hr
  · show Q0a Z uA uB uC uJ us h0 n0 _ T11.heap _
    rw [e11q]
    exact ⟨rfl, N11⟩
theorem ef_0d (m : MethodId) (x0 : Int64) (x1 : Int64) (x2 : Int64) (x3 : Int64) (x4 : Int32) : entryFrame m #[(.long x0), (.long x1), (.long x2), (.long x3), (.int x4)] maxLocals = mkF m 0 #[.val (.long x0), .second, .val (.long x1), .second, .val (.long x2), .second, .val (.long x3), .second, .val (.int x4), .unset, .unset, .unset, .unset] [] := by first | (simp [entryFrame, mkF, argsToLocals, Value.category, maxLocals]; done) | rfl
set_option maxRecDepth 65536 in
set_option maxHeartbeats 40000000 in
theorem rm0d (l : Launch) (Z : State) (a0 : Array Value) (hw : ∀ d ∈ tables_1, d.before a0 Z = true) (ws : List Jvm.Cond) (uA : Int64) (uB : Int64) (uC : Int64) (uJ : Int64) (us : Int32) (h0 : Heap) (n0 : Nat) (Z0 : n0 ≤ h0.size) (hk : (us &&& (3 : Int32)).toInt = 3) :
    MetFree l x (head1 (Jvm.Cond.code x code maxLocals ret :: ws) room_1) (fun a U => a = #[(.long uA), (.long uB), (.long uC), (.long uJ), (.int us)] ∧ Z.Warmed39 U.vm ∧ U.heap = h0) (fun _ _ _ _ _ => True) (fun _ U o U' => ∃ v L, o = .returned v ∧ Q0a Z uA uB uC uJ us h0 n0 v U'.heap L ∧ FrameEnd U o U' L 1 5) := by
  refine MetFree.of_bodySF (plainFor_of_name pn_0) hisR ?_
  intro p e s m args below meth c s₁ Bd hml0 hP hK
  obtain ⟨rfl, hZ, hh⟩ := hP
  have hx := Bd.exec
  have hby := Bd.bytes
  have hml : c.maxLocals = 13 := hml0
  have hown : s.vm.findClass "com/example/assured_timing/assuredtiming/simulation/ConfigurationHashPinLaw" = some m.cls := findClass_of_methodNamed Bd.named
  have hnm := (name_of_methodNamed Bd.named Bd.method).1
  have X0 : Stand p l e room_1 s m #[(.long uA), (.long uB), (.long uC), (.long uJ), (.int us)] below meth c s₁ [] 0 0 := Stand.of_body Bd
  have e0 : s₁.heap = h0 := by rw [← hh, Bd.state]; rfl
  have N0 := Fr.nil n0
  have pre0 : ∀ t, Steps p.tables e below (s₁.setTop (mkF m 0 #[.val (.long uA), .second, .val (.long uB), .second, .val (.long uC), .second, .val (.long uJ), .second, .val (.int us), .unset, .unset, .unset, .unset] [])) t → Steps p.tables e below (s₁.setTop (entryFrame m #[(.long uA), (.long uB), (.long uC), (.long uJ), (.int us)] maxLocals)) t := fun t k => castTop (ef_0d m uA uB uC uJ us) k
  have ho := own_off us
  obtain ⟨uo, huo⟩ : ∃ z, z = ((((us.toUInt32 >>> ((2 : Int32) &&& 31).toUInt32).toInt32) &&& (2147483647 : Int32)) % (3 : Int32)) := ⟨_, rfl⟩
  rw [← huo] at ho
  have k1 : (1 : Int32).toInt = 1 := rfl
  have k2 : (2 : Int32).toInt = 2 := rfl
  have k3 : (3 : Int32).toInt = 3 := rfl
  have a1 := own_add uo 1 ho.1 (by omega) (by decide) (by decide)
  have a2 := own_add uo 2 ho.1 (by omega) (by decide) (by decide)
  have b2 := own_add (uo + 1) 1 (by omega) (by omega) (by decide) (by decide)
  have b3 := own_add ((uo + 1) + 1) 1 (by omega) (by omega) (by decide) (by decide)
  have an := own_add uo (us &&& (3 : Int32)) ho.1 (by omega) (by omega) (by omega)
  rw [hk] at an
  have c0 := own_nat uo uo.toInt.toNat (by omega)
  have c1 := own_nat (uo + 1) (uo.toInt.toNat + 1) (by omega)
  have c2 := own_nat (uo + 2) (uo.toInt.toNat + 2) (by omega)
  have d2 := own_nat ((uo + 1) + 1) (uo.toInt.toNat + 2) (by omega)
  obtain ⟨T1, h1, k1, X1, e1, E1, A1, st1⟩ := newP X0 hx hZ (hw _ (List.mem_of_getElem? (i := 1) rfl)) e0 (g := (mkF m 18 #[.val (.long uA), .second, .val (.long uB), .second, .val (.long uC), .second, .val (.long uJ), .second, .val (.int us), .val (.int (us &&& (3 : Int32))), .val (.int uo), .unset, .unset] [(.int (5 : Int32))])) rfl (hb hby at_18) rfl (by decide) (cap := 5) (by decide) (by decide) (by decide) (by decide)
  obtain ⟨bb, sz_bb⟩ : ∃ z, z = h0.size := ⟨_, rfl⟩
  rw [← sz_bb] at A1 st1
  have g_bb : n0 ≤ bb := Nat.le_trans Z0 (Nat.le_of_eq sz_bb.symm)
  have Zp2 : n0 ≤ h1.size := Nat.le_trans Z0 E1.1
  have Vn := own_C_new A1 (n := 5) rfl
  obtain ⟨cl3, Ar3, S3, I3⟩ := Vn
  obtain ⟨T3, h3, X3, e3, W3, st3⟩ := stJ X1 hx hZ e1 Ar3 (j := (0 : Int32)) (by rw [S3]; decide) (g := (mkF m 27 #[.val (.long uA), .second, .val (.long uB), .second, .val (.long uC), .second, .val (.long uJ), .second, .val (.int us), .val (.int (us &&& (3 : Int32))), .val (.int uo), .val (.ref bb), .unset] [(.long uJ), (.int (0 : Int32)), (.ref bb)])) rfl rfl (hb hby at_27)
  have V3 := own_C_set0 Ar3 S3 I3 W3
  have N3f := Fr.snoc X3 N0 g_bb
  obtain ⟨cl4, Ar4, S4, I4⟩ := V3
  obtain ⟨T4, h4, X4, e4, W4, st4⟩ := stJ X3 hx hZ e3 Ar4 (j := (1 : Int32)) (by rw [S4]; decide) (g := (mkF m 33 #[.val (.long uA), .second, .val (.long uB), .second, .val (.long uC), .second, .val (.long uJ), .second, .val (.int us), .val (.int (us &&& (3 : Int32))), .val (.int uo), .val (.ref bb), .unset] [(.long uJ), (.int (1 : Int32)), (.ref bb)])) rfl rfl (hb hby at_33)
  have V4 := own_C_set0 Ar4 S4 I4 W4
  have N4f := Fr.snoc X4 N3f g_bb
  obtain ⟨cl5, Ar5, S5, I5⟩ := V4
  obtain ⟨T5, h5, X5, e5, W5, st5⟩ := stJ X4 hx hZ e4 Ar5 (j := (2 : Int32)) (by rw [S5]; decide) (g := (mkF m 39 #[.val (.long uA), .second, .val (.long uB), .second, .val (.long uC), .second, .val (.long uJ), .second, .val (.int us), .val (.int (us &&& (3 : Int32))), .val (.int uo), .val (.ref bb), .unset] [(.long uJ), (.int (2 : Int32)), (.ref bb)])) rfl rfl (hb hby at_39)
  have V5 := own_C_set0 Ar5 S5 I5 W5
  have N5f := Fr.snoc X5 N4f g_bb
  obtain ⟨cl6, Ar6, S6, I6⟩ := V5
  obtain ⟨T6, h6, X6, e6, W6, st6⟩ := stJ X5 hx hZ e5 Ar6 (j := (3 : Int32)) (by rw [S6]; decide) (g := (mkF m 45 #[.val (.long uA), .second, .val (.long uB), .second, .val (.long uC), .second, .val (.long uJ), .second, .val (.int us), .val (.int (us &&& (3 : Int32))), .val (.int uo), .val (.ref bb), .unset] [(.long uJ), (.int (3 : Int32)), (.ref bb)])) rfl rfl (hb hby at_45)
  have V6 := own_C_set0 Ar6 S6 I6 W6
  have N6f := Fr.snoc X6 N5f g_bb
  obtain ⟨cl7, Ar7, S7, I7⟩ := V6
  obtain ⟨T7, h7, X7, e7, W7, st7⟩ := stJ X6 hx hZ e6 Ar7 (j := (4 : Int32)) (by rw [S7]; decide) (g := (mkF m 51 #[.val (.long uA), .second, .val (.long uB), .second, .val (.long uC), .second, .val (.long uJ), .second, .val (.int us), .val (.int (us &&& (3 : Int32))), .val (.int uo), .val (.ref bb), .unset] [(.long uJ), (.int (4 : Int32)), (.ref bb)])) rfl rfl (hb hby at_51)
  have V7 := own_C_set0 Ar7 S7 I7 W7
  have N7f := Fr.snoc X7 N6f g_bb
  obtain ⟨cl8, Ar8, S8, I8⟩ := V7
  obtain ⟨T8, h8, X8, e8, W8, st8⟩ := stJ X7 hx hZ e7 Ar8 (j := uo) (own_in S8 (by omega) (by omega)) (g := (mkF m 63 #[.val (.long uA), .second, .val (.long uB), .second, .val (.long uC), .second, .val (.long uJ), .second, .val (.int us), .val (.int (us &&& (3 : Int32))), .val (.int uo), .val (.ref bb), .unset] [(.long uA), (.int uo), (.ref bb)])) rfl rfl (hb hby at_63)
  have V8 := own_C_set (n := 5) (by omega) (by intro q hq; exact absurd hq List.not_mem_nil) Ar8 S8 I8 W8
  have N8f := Fr.snoc X8 N7f g_bb
  obtain ⟨cl9, Ar9, S9, I9⟩ := V8
  obtain ⟨T9, h9, X9, e9, W9, st9⟩ := stJ X8 hx hZ e8 Ar9 (j := (uo + (1 : Int32))) (own_in S9 (by omega) (by omega)) (g := (mkF m 77 #[.val (.long uA), .second, .val (.long uB), .second, .val (.long uC), .second, .val (.long uJ), .second, .val (.int us), .val (.int (us &&& (3 : Int32))), .val (.int uo), .val (.ref bb), .unset] [(.long uB), (.int (uo + (1 : Int32))), (.ref bb)])) rfl rfl (hb hby at_77)
  have V9 := own_C_set (n := 5) (by omega) (by
    intro q hq
    simp only [List.mem_cons, List.not_mem_nil, or_false] at hq
    rcases hq with rfl <;> (dsimp only; omega)) Ar9 S9 I9 W9
  have N9f := Fr.snoc X9 N8f g_bb
  obtain ⟨cl10, Ar10, S10, I10⟩ := V9
  obtain ⟨T10, h10, X10, e10, W10, st10⟩ := stJ X9 hx hZ e9 Ar10 (j := (uo + (2 : Int32))) (own_in S10 (by omega) (by omega)) (g := (mkF m 92 #[.val (.long uA), .second, .val (.long uB), .second, .val (.long uC), .second, .val (.long uJ), .second, .val (.int us), .val (.int (us &&& (3 : Int32))), .val (.int uo), .val (.ref bb), .unset] [(.long uC), (.int (uo + (2 : Int32))), (.ref bb)])) rfl rfl (hb hby at_92)
  have V10 := own_C_set (n := 5) (by omega) (by
    intro q hq
    simp only [List.mem_cons, List.not_mem_nil, or_false] at hq
    rcases hq with rfl | rfl <;> (dsimp only; omega)) Ar10 S10 I10 W10
  have N10f := Fr.snoc X10 N9f g_bb
  obtain ⟨clz, Arz, Sz, Iz⟩ := V10
  have hat0 : clz.slots[(uo).toNatClampNeg]? = some (.long uA) := by rw [show (uo).toNatClampNeg = (uo).toNatClampNeg from rfl]; exact Iz (_, _) (List.mem_of_getElem? (i := 2) rfl)
  have hat1 : clz.slots[((uo + (1 : Int32))).toNatClampNeg]? = some (.long uB) := by rw [show ((uo + (1 : Int32))).toNatClampNeg = ((uo + (1 : Int32))).toNatClampNeg from rfl]; exact Iz (_, _) (List.mem_of_getElem? (i := 1) rfl)
  have hat2 : clz.slots[(((uo + (1 : Int32)) + (1 : Int32))).toNatClampNeg]? = some (.long uC) := by rw [show ((uo + (1 : Int32)) + (1 : Int32)).toNatClampNeg = (uo + (2 : Int32)).toNatClampNeg by omega]; exact Iz (_, _) (List.mem_of_getElem? (i := 0) rfl)
  obtain ⟨_, _, ⟨T11, L11, k11, n11⟩, -, X11, ⟨Lc11, hQ11, l11, y11, z11⟩, st11⟩ := Jvm.LawKit.callS X10 hx (y := (⟨"com/example/assured_timing/assuredtiming/simulation/Configuration", "hash", "([JII)I"⟩ : MethodName)) hown (mvT hZ (hw _ (List.mem_of_getElem? (i := 2) rfl))) (mvT hZ (hw _ (List.mem_of_getElem? (i := 3) rfl))) (mvT hZ (hw _ (List.mem_of_getElem? (i := 4) rfl))) (mvT hZ (hw _ (List.mem_of_getElem? (i := 5) rfl))) (by decide) (backOf (W := 0) (rm1d l Z a0 hw [] bb uo (uo + (us &&& (3 : Int32))) clz uA uB uC h10 n0 Arz (by rw [Int32.lt_iff_toInt_lt]; omega) (by rw [Int32.lt_iff_toInt_lt]; omega) (by rw [Int32.lt_iff_toInt_lt]; omega) (by rw [Int32.lt_iff_toInt_lt]; omega) (own_in Sz (by omega) (by omega)) (own_in Sz (by omega) (by omega)) (own_in Sz (by omega) (by omega)) hat0 hat1 hat2) hZ (hw _ (List.mem_of_getElem? (i := 5) rfl)) (hw _ (List.mem_of_getElem? (i := 4) rfl)) (by decide) (by decide)) (g := (mkF m 102 #[.val (.long uA), .second, .val (.long uB), .second, .val (.long uC), .second, .val (.long uJ), .second, .val (.int us), .val (.int (us &&& (3 : Int32))), .val (.int uo), .val (.ref bb), .unset] [(.int (uo + (us &&& (3 : Int32)))), (.int uo), (.ref bb)])) rfl (by rw [hml]; rfl) (argsL := [(.ref bb), (.int uo), (.int (uo + (us &&& (3 : Int32))))]) (rest := []) (lenOf pd_1 rfl) rfl (by show 2 * 0 + _ ≤ _; exact Nat.le_of_eq rfl) (hb hby at_102) (fun _ _ => ⟨rfl, e10, (by decide : 1 + 0 ≤ _), (by decide : 5 + 0 ≤ _)⟩)
  dsimp only [Pt.U, Pt.locs, Pt.cells, Pt.slots] at X11 l11 y11 z11 st11 hQ11
  subst l11 y11 z11
  obtain ⟨rfl, N11q, e11q⟩ := hQ11
  have N11 := Fr.app N10f N11q
  obtain ⟨_, _, ⟨T12, L12, k12, n12⟩, -, X12, ⟨Lc12, hQ12, l12, y12, z12⟩, st12⟩ := Jvm.LawKit.callS X11 hx (y := (⟨"com/example/assured_timing/assuredtiming/simulation/ConfigurationHashPinLaw", "expected", "(JJJI)I"⟩ : MethodName)) hown (mvT hZ (hw _ (List.mem_of_getElem? (i := 8) rfl))) (mvT hZ (hw _ (List.mem_of_getElem? (i := 9) rfl))) (mvT hZ (hw _ (List.mem_of_getElem? (i := 10) rfl))) (mvT hZ (hw _ (List.mem_of_getElem? (i := 11) rfl))) (by decide) (backOf (W := 1) (rm3d l Z a0 hw [] uA uB uC (us &&& (3 : Int32)) h10 n0 (by rw [Int32.lt_iff_toInt_lt]; omega) (by rw [Int32.lt_iff_toInt_lt]; omega) (by rw [Int32.lt_iff_toInt_lt]; omega)) hZ (hw _ (List.mem_of_getElem? (i := 11) rfl)) (hw _ (List.mem_of_getElem? (i := 10) rfl)) (by decide) (by decide)) (g := (mkF m 115 #[.val (.long uA), .second, .val (.long uB), .second, .val (.long uC), .second, .val (.long uJ), .second, .val (.int us), .val (.int (us &&& (3 : Int32))), .val (.int uo), .val (.ref bb), .val (.int (((((((((((0 : Int64) ^^^ uA) * (-7046029254386353131 : Int64)) ^^^ uB) * (-7046029254386353131 : Int64)) ^^^ uC) * (-7046029254386353131 : Int64)) ^^^ (((((((((0 : Int64) ^^^ uA) * (-7046029254386353131 : Int64)) ^^^ uB) * (-7046029254386353131 : Int64)) ^^^ uC) * (-7046029254386353131 : Int64)).toUInt64 >>> ((32 : Int32) &&& 0x3f).toInt64.toUInt64).toInt64)) * (-2960836687051489901 : Int64)) ^^^ (((((((((((0 : Int64) ^^^ uA) * (-7046029254386353131 : Int64)) ^^^ uB) * (-7046029254386353131 : Int64)) ^^^ uC) * (-7046029254386353131 : Int64)) ^^^ (((((((((0 : Int64) ^^^ uA) * (-7046029254386353131 : Int64)) ^^^ uB) * (-7046029254386353131 : Int64)) ^^^ uC) * (-7046029254386353131 : Int64)).toUInt64 >>> ((32 : Int32) &&& 0x3f).toInt64.toUInt64).toInt64)) * (-2960836687051489901 : Int64)).toUInt64 >>> ((32 : Int32) &&& 0x3f).toInt64.toUInt64).toInt64)).toInt32))] [(.int (us &&& (3 : Int32))), (.long uC), (.long uB), (.long uA), (.int (((((((((((0 : Int64) ^^^ uA) * (-7046029254386353131 : Int64)) ^^^ uB) * (-7046029254386353131 : Int64)) ^^^ uC) * (-7046029254386353131 : Int64)) ^^^ (((((((((0 : Int64) ^^^ uA) * (-7046029254386353131 : Int64)) ^^^ uB) * (-7046029254386353131 : Int64)) ^^^ uC) * (-7046029254386353131 : Int64)).toUInt64 >>> ((32 : Int32) &&& 0x3f).toInt64.toUInt64).toInt64)) * (-2960836687051489901 : Int64)) ^^^ (((((((((((0 : Int64) ^^^ uA) * (-7046029254386353131 : Int64)) ^^^ uB) * (-7046029254386353131 : Int64)) ^^^ uC) * (-7046029254386353131 : Int64)) ^^^ (((((((((0 : Int64) ^^^ uA) * (-7046029254386353131 : Int64)) ^^^ uB) * (-7046029254386353131 : Int64)) ^^^ uC) * (-7046029254386353131 : Int64)).toUInt64 >>> ((32 : Int32) &&& 0x3f).toInt64.toUInt64).toInt64)) * (-2960836687051489901 : Int64)).toUInt64 >>> ((32 : Int32) &&& 0x3f).toInt64.toUInt64).toInt64)).toInt32))])) rfl (by rw [hml]; rfl) (argsL := [(.long uA), (.long uB), (.long uC), (.int (us &&& (3 : Int32)))]) (rest := [(.int (((((((((((0 : Int64) ^^^ uA) * (-7046029254386353131 : Int64)) ^^^ uB) * (-7046029254386353131 : Int64)) ^^^ uC) * (-7046029254386353131 : Int64)) ^^^ (((((((((0 : Int64) ^^^ uA) * (-7046029254386353131 : Int64)) ^^^ uB) * (-7046029254386353131 : Int64)) ^^^ uC) * (-7046029254386353131 : Int64)).toUInt64 >>> ((32 : Int32) &&& 0x3f).toInt64.toUInt64).toInt64)) * (-2960836687051489901 : Int64)) ^^^ (((((((((((0 : Int64) ^^^ uA) * (-7046029254386353131 : Int64)) ^^^ uB) * (-7046029254386353131 : Int64)) ^^^ uC) * (-7046029254386353131 : Int64)) ^^^ (((((((((0 : Int64) ^^^ uA) * (-7046029254386353131 : Int64)) ^^^ uB) * (-7046029254386353131 : Int64)) ^^^ uC) * (-7046029254386353131 : Int64)).toUInt64 >>> ((32 : Int32) &&& 0x3f).toInt64.toUInt64).toInt64)) * (-2960836687051489901 : Int64)).toUInt64 >>> ((32 : Int32) &&& 0x3f).toInt64.toUInt64).toInt64)).toInt32))]) (lenOf pd_2 rfl) rfl (by show 2 * 0 + _ ≤ _; exact Nat.le_of_eq rfl) (hb hby at_115) (fun _ _ => ⟨rfl, e11q, (by decide : 1 + 0 ≤ _), (by decide : 5 + 0 ≤ _)⟩)
  dsimp only [Pt.U, Pt.locs, Pt.cells, Pt.slots] at X12 l12 y12 z12 st12 hQ12
  subst l12 y12 z12
  obtain ⟨rfl, N12q, e12q⟩ := hQ12
  have N12 := Fr.app N11 N12q
  obtain ⟨fs, hr, hrun, hended, hW, hsame⟩ := X12.leave (v := some (.int (1 : Int32))) (fun h => by rw [Bd.returns] at h; cases h)
  refine ⟨_, _, pre0 _ ?_, hrun, hended, _, _, rfl, ?_, ⟨_, rfl⟩, hW, hsame.mono (by decide) (by decide)⟩
  · show Steps p.tables e below (s₁.setTop (mkF m 0 #[.val (.long uA), .second, .val (.long uB), .second, .val (.long uC), .second, .val (.long uJ), .second, .val (.int us), .unset, .unset, .unset, .unset] [])) _
    refine XS.iload X0.here hx rfl (hb hby at_0) rfl ?_
    show Steps p.tables e below (s₁.setTop (mkF m 2 #[.val (.long uA), .second, .val (.long uB), .second, .val (.long uC), .second, .val (.long uJ), .second, .val (.int us), .unset, .unset, .unset, .unset] [(.int us)])) _
    refine XS.iconst X0.here hx rfl (hb hby at_2) ?_
    show Steps p.tables e below (s₁.setTop (mkF m 3 #[.val (.long uA), .second, .val (.long uB), .second, .val (.long uC), .second, .val (.long uJ), .second, .val (.int us), .unset, .unset, .unset, .unset] [(.int (3 : Int32)), (.int us)])) _
    refine XS.iand X0.here hx rfl (hb hby at_3) rfl ?_
    show Steps p.tables e below (s₁.setTop (mkF m 4 #[.val (.long uA), .second, .val (.long uB), .second, .val (.long uC), .second, .val (.long uJ), .second, .val (.int us), .unset, .unset, .unset, .unset] [(.int (us &&& (3 : Int32)))])) _
    refine XS.istore X0.here hx rfl (hb hby at_4) rfl (l' := #[.val (.long uA), .second, .val (.long uB), .second, .val (.long uC), .second, .val (.long uJ), .second, .val (.int us), .val (.int (us &&& (3 : Int32))), .unset, .unset, .unset]) rfl ?_
    show Steps p.tables e below (s₁.setTop (mkF m 6 #[.val (.long uA), .second, .val (.long uB), .second, .val (.long uC), .second, .val (.long uJ), .second, .val (.int us), .val (.int (us &&& (3 : Int32))), .unset, .unset, .unset] [])) _
    refine XS.iload X0.here hx rfl (hb hby at_6) rfl ?_
    show Steps p.tables e below (s₁.setTop (mkF m 8 #[.val (.long uA), .second, .val (.long uB), .second, .val (.long uC), .second, .val (.long uJ), .second, .val (.int us), .val (.int (us &&& (3 : Int32))), .unset, .unset, .unset] [(.int us)])) _
    refine XS.iconst X0.here hx rfl (hb hby at_8) ?_
    show Steps p.tables e below (s₁.setTop (mkF m 9 #[.val (.long uA), .second, .val (.long uB), .second, .val (.long uC), .second, .val (.long uJ), .second, .val (.int us), .val (.int (us &&& (3 : Int32))), .unset, .unset, .unset] [(.int (2 : Int32)), (.int us)])) _
    refine XS.iushr X0.here hx rfl (hb hby at_9) rfl ?_
    show Steps p.tables e below (s₁.setTop (mkF m 10 #[.val (.long uA), .second, .val (.long uB), .second, .val (.long uC), .second, .val (.long uJ), .second, .val (.int us), .val (.int (us &&& (3 : Int32))), .unset, .unset, .unset] [(.int ((us.toUInt32 >>> ((2 : Int32) &&& 31).toUInt32).toInt32))])) _
    refine X0.ldcInt hx hown (mvT hZ (hw _ (List.mem_of_getElem? (i := 0) rfl))) (g := (mkF m 10 #[.val (.long uA), .second, .val (.long uB), .second, .val (.long uC), .second, .val (.long uJ), .second, .val (.int us), .val (.int (us &&& (3 : Int32))), .unset, .unset, .unset] [(.int ((us.toUInt32 >>> ((2 : Int32) &&& 31).toUInt32).toInt32))])) rfl (hb hby at_10) _ ?_
    show Steps p.tables e below (s₁.setTop (mkF m 12 #[.val (.long uA), .second, .val (.long uB), .second, .val (.long uC), .second, .val (.long uJ), .second, .val (.int us), .val (.int (us &&& (3 : Int32))), .unset, .unset, .unset] [(.int (2147483647 : Int32)), (.int ((us.toUInt32 >>> ((2 : Int32) &&& 31).toUInt32).toInt32))])) _
    refine XS.iand X0.here hx rfl (hb hby at_12) rfl ?_
    show Steps p.tables e below (s₁.setTop (mkF m 13 #[.val (.long uA), .second, .val (.long uB), .second, .val (.long uC), .second, .val (.long uJ), .second, .val (.int us), .val (.int (us &&& (3 : Int32))), .unset, .unset, .unset] [(.int (((us.toUInt32 >>> ((2 : Int32) &&& 31).toUInt32).toInt32) &&& (2147483647 : Int32)))])) _
    refine XS.iconst X0.here hx rfl (hb hby at_13) ?_
    show Steps p.tables e below (s₁.setTop (mkF m 14 #[.val (.long uA), .second, .val (.long uB), .second, .val (.long uC), .second, .val (.long uJ), .second, .val (.int us), .val (.int (us &&& (3 : Int32))), .unset, .unset, .unset] [(.int (3 : Int32)), (.int (((us.toUInt32 >>> ((2 : Int32) &&& 31).toUInt32).toInt32) &&& (2147483647 : Int32)))])) _
    refine iremM X0 hx rfl (hb hby at_14) rfl (by decide) ?_
    show Steps p.tables e below (s₁.setTop (mkF m 15 #[.val (.long uA), .second, .val (.long uB), .second, .val (.long uC), .second, .val (.long uJ), .second, .val (.int us), .val (.int (us &&& (3 : Int32))), .unset, .unset, .unset] [(.int ((((us.toUInt32 >>> ((2 : Int32) &&& 31).toUInt32).toInt32) &&& (2147483647 : Int32)) % (3 : Int32)))])) _
    rw [← huo]
    show Steps p.tables e below (s₁.setTop (mkF m 15 #[.val (.long uA), .second, .val (.long uB), .second, .val (.long uC), .second, .val (.long uJ), .second, .val (.int us), .val (.int (us &&& (3 : Int32))), .unset, .unset, .unset] [(.int uo)])) _
    refine XS.istore X0.here hx rfl (hb hby at_15) rfl (l' := #[.val (.long uA), .second, .val (.long uB), .second, .val (.long uC), .second, .val (.long uJ), .second, .val (.int us), .val (.int (us &&& (3 : Int32))), .val (.int uo), .unset, .unset]) rfl ?_
    show Steps p.tables e below (s₁.setTop (mkF m 17 #[.val (.long uA), .second, .val (.long uB), .second, .val (.long uC), .second, .val (.long uJ), .second, .val (.int us), .val (.int (us &&& (3 : Int32))), .val (.int uo), .unset, .unset] [])) _
    refine XS.iconst X0.here hx rfl (hb hby at_17) ?_
    show Steps p.tables e below (s₁.setTop (mkF m 18 #[.val (.long uA), .second, .val (.long uB), .second, .val (.long uC), .second, .val (.long uJ), .second, .val (.int us), .val (.int (us &&& (3 : Int32))), .val (.int uo), .unset, .unset] [(.int (5 : Int32))])) _
    refine st1 _ ?_
    show Steps p.tables e below (T1.setTop (mkF m 20 #[.val (.long uA), .second, .val (.long uB), .second, .val (.long uC), .second, .val (.long uJ), .second, .val (.int us), .val (.int (us &&& (3 : Int32))), .val (.int uo), .unset, .unset] [(.ref bb)])) _
    refine XS.astore X1.here hx rfl (hb hby at_20) rfl rfl (l' := #[.val (.long uA), .second, .val (.long uB), .second, .val (.long uC), .second, .val (.long uJ), .second, .val (.int us), .val (.int (us &&& (3 : Int32))), .val (.int uo), .val (.ref bb), .unset]) rfl ?_
    show Steps p.tables e below (T1.setTop (mkF m 22 #[.val (.long uA), .second, .val (.long uB), .second, .val (.long uC), .second, .val (.long uJ), .second, .val (.int us), .val (.int (us &&& (3 : Int32))), .val (.int uo), .val (.ref bb), .unset] [])) _
    refine XS.aload X1.here hx rfl (hb hby at_22) rfl rfl ?_
    show Steps p.tables e below (T1.setTop (mkF m 24 #[.val (.long uA), .second, .val (.long uB), .second, .val (.long uC), .second, .val (.long uJ), .second, .val (.int us), .val (.int (us &&& (3 : Int32))), .val (.int uo), .val (.ref bb), .unset] [(.ref bb)])) _
    refine XS.iconst X1.here hx rfl (hb hby at_24) ?_
    show Steps p.tables e below (T1.setTop (mkF m 25 #[.val (.long uA), .second, .val (.long uB), .second, .val (.long uC), .second, .val (.long uJ), .second, .val (.int us), .val (.int (us &&& (3 : Int32))), .val (.int uo), .val (.ref bb), .unset] [(.int (0 : Int32)), (.ref bb)])) _
    refine XS.lload X1.here hx rfl (hb hby at_25) rfl ?_
    show Steps p.tables e below (T1.setTop (mkF m 27 #[.val (.long uA), .second, .val (.long uB), .second, .val (.long uC), .second, .val (.long uJ), .second, .val (.int us), .val (.int (us &&& (3 : Int32))), .val (.int uo), .val (.ref bb), .unset] [(.long uJ), (.int (0 : Int32)), (.ref bb)])) _
    refine st3 _ ?_
    show Steps p.tables e below (T3.setTop (mkF m 28 #[.val (.long uA), .second, .val (.long uB), .second, .val (.long uC), .second, .val (.long uJ), .second, .val (.int us), .val (.int (us &&& (3 : Int32))), .val (.int uo), .val (.ref bb), .unset] [])) _
    refine XS.aload X3.here hx rfl (hb hby at_28) rfl rfl ?_
    show Steps p.tables e below (T3.setTop (mkF m 30 #[.val (.long uA), .second, .val (.long uB), .second, .val (.long uC), .second, .val (.long uJ), .second, .val (.int us), .val (.int (us &&& (3 : Int32))), .val (.int uo), .val (.ref bb), .unset] [(.ref bb)])) _
    refine XS.iconst X3.here hx rfl (hb hby at_30) ?_
    show Steps p.tables e below (T3.setTop (mkF m 31 #[.val (.long uA), .second, .val (.long uB), .second, .val (.long uC), .second, .val (.long uJ), .second, .val (.int us), .val (.int (us &&& (3 : Int32))), .val (.int uo), .val (.ref bb), .unset] [(.int (1 : Int32)), (.ref bb)])) _
    refine XS.lload X3.here hx rfl (hb hby at_31) rfl ?_
    show Steps p.tables e below (T3.setTop (mkF m 33 #[.val (.long uA), .second, .val (.long uB), .second, .val (.long uC), .second, .val (.long uJ), .second, .val (.int us), .val (.int (us &&& (3 : Int32))), .val (.int uo), .val (.ref bb), .unset] [(.long uJ), (.int (1 : Int32)), (.ref bb)])) _
    refine st4 _ ?_
    show Steps p.tables e below (T4.setTop (mkF m 34 #[.val (.long uA), .second, .val (.long uB), .second, .val (.long uC), .second, .val (.long uJ), .second, .val (.int us), .val (.int (us &&& (3 : Int32))), .val (.int uo), .val (.ref bb), .unset] [])) _
    refine XS.aload X4.here hx rfl (hb hby at_34) rfl rfl ?_
    show Steps p.tables e below (T4.setTop (mkF m 36 #[.val (.long uA), .second, .val (.long uB), .second, .val (.long uC), .second, .val (.long uJ), .second, .val (.int us), .val (.int (us &&& (3 : Int32))), .val (.int uo), .val (.ref bb), .unset] [(.ref bb)])) _
    refine XS.iconst X4.here hx rfl (hb hby at_36) ?_
    show Steps p.tables e below (T4.setTop (mkF m 37 #[.val (.long uA), .second, .val (.long uB), .second, .val (.long uC), .second, .val (.long uJ), .second, .val (.int us), .val (.int (us &&& (3 : Int32))), .val (.int uo), .val (.ref bb), .unset] [(.int (2 : Int32)), (.ref bb)])) _
    refine XS.lload X4.here hx rfl (hb hby at_37) rfl ?_
    show Steps p.tables e below (T4.setTop (mkF m 39 #[.val (.long uA), .second, .val (.long uB), .second, .val (.long uC), .second, .val (.long uJ), .second, .val (.int us), .val (.int (us &&& (3 : Int32))), .val (.int uo), .val (.ref bb), .unset] [(.long uJ), (.int (2 : Int32)), (.ref bb)])) _
    refine st5 _ ?_
    show Steps p.tables e below (T5.setTop (mkF m 40 #[.val (.long uA), .second, .val (.long uB), .second, .val (.long uC), .second, .val (.long uJ), .second, .val (.int us), .val (.int (us &&& (3 : Int32))), .val (.int uo), .val (.ref bb), .unset] [])) _
    refine XS.aload X5.here hx rfl (hb hby at_40) rfl rfl ?_
    show Steps p.tables e below (T5.setTop (mkF m 42 #[.val (.long uA), .second, .val (.long uB), .second, .val (.long uC), .second, .val (.long uJ), .second, .val (.int us), .val (.int (us &&& (3 : Int32))), .val (.int uo), .val (.ref bb), .unset] [(.ref bb)])) _
    refine XS.iconst X5.here hx rfl (hb hby at_42) ?_
    show Steps p.tables e below (T5.setTop (mkF m 43 #[.val (.long uA), .second, .val (.long uB), .second, .val (.long uC), .second, .val (.long uJ), .second, .val (.int us), .val (.int (us &&& (3 : Int32))), .val (.int uo), .val (.ref bb), .unset] [(.int (3 : Int32)), (.ref bb)])) _
    refine XS.lload X5.here hx rfl (hb hby at_43) rfl ?_
    show Steps p.tables e below (T5.setTop (mkF m 45 #[.val (.long uA), .second, .val (.long uB), .second, .val (.long uC), .second, .val (.long uJ), .second, .val (.int us), .val (.int (us &&& (3 : Int32))), .val (.int uo), .val (.ref bb), .unset] [(.long uJ), (.int (3 : Int32)), (.ref bb)])) _
    refine st6 _ ?_
    show Steps p.tables e below (T6.setTop (mkF m 46 #[.val (.long uA), .second, .val (.long uB), .second, .val (.long uC), .second, .val (.long uJ), .second, .val (.int us), .val (.int (us &&& (3 : Int32))), .val (.int uo), .val (.ref bb), .unset] [])) _
    refine XS.aload X6.here hx rfl (hb hby at_46) rfl rfl ?_
    show Steps p.tables e below (T6.setTop (mkF m 48 #[.val (.long uA), .second, .val (.long uB), .second, .val (.long uC), .second, .val (.long uJ), .second, .val (.int us), .val (.int (us &&& (3 : Int32))), .val (.int uo), .val (.ref bb), .unset] [(.ref bb)])) _
    refine XS.iconst X6.here hx rfl (hb hby at_48) ?_
    show Steps p.tables e below (T6.setTop (mkF m 49 #[.val (.long uA), .second, .val (.long uB), .second, .val (.long uC), .second, .val (.long uJ), .second, .val (.int us), .val (.int (us &&& (3 : Int32))), .val (.int uo), .val (.ref bb), .unset] [(.int (4 : Int32)), (.ref bb)])) _
    refine XS.lload X6.here hx rfl (hb hby at_49) rfl ?_
    show Steps p.tables e below (T6.setTop (mkF m 51 #[.val (.long uA), .second, .val (.long uB), .second, .val (.long uC), .second, .val (.long uJ), .second, .val (.int us), .val (.int (us &&& (3 : Int32))), .val (.int uo), .val (.ref bb), .unset] [(.long uJ), (.int (4 : Int32)), (.ref bb)])) _
    refine st7 _ ?_
    show Steps p.tables e below (T7.setTop (mkF m 52 #[.val (.long uA), .second, .val (.long uB), .second, .val (.long uC), .second, .val (.long uJ), .second, .val (.int us), .val (.int (us &&& (3 : Int32))), .val (.int uo), .val (.ref bb), .unset] [])) _
    refine XS.iload X7.here hx rfl (hb hby at_52) rfl ?_
    show Steps p.tables e below (T7.setTop (mkF m 54 #[.val (.long uA), .second, .val (.long uB), .second, .val (.long uC), .second, .val (.long uJ), .second, .val (.int us), .val (.int (us &&& (3 : Int32))), .val (.int uo), .val (.ref bb), .unset] [(.int (us &&& (3 : Int32)))])) _
    refine XS.iconst X7.here hx rfl (hb hby at_54) ?_
    show Steps p.tables e below (T7.setTop (mkF m 55 #[.val (.long uA), .second, .val (.long uB), .second, .val (.long uC), .second, .val (.long uJ), .second, .val (.int us), .val (.int (us &&& (3 : Int32))), .val (.int uo), .val (.ref bb), .unset] [(.int (1 : Int32)), (.int (us &&& (3 : Int32)))])) _
    refine XS.icmpNo X7.here hx rfl (hb hby at_55) rfl (flt (by rw [Int32.lt_iff_toInt_lt]; omega)).1 ?_
    show Steps p.tables e below (T7.setTop (mkF m 58 #[.val (.long uA), .second, .val (.long uB), .second, .val (.long uC), .second, .val (.long uJ), .second, .val (.int us), .val (.int (us &&& (3 : Int32))), .val (.int uo), .val (.ref bb), .unset] [])) _
    refine XS.aload X7.here hx rfl (hb hby at_58) rfl rfl ?_
    show Steps p.tables e below (T7.setTop (mkF m 60 #[.val (.long uA), .second, .val (.long uB), .second, .val (.long uC), .second, .val (.long uJ), .second, .val (.int us), .val (.int (us &&& (3 : Int32))), .val (.int uo), .val (.ref bb), .unset] [(.ref bb)])) _
    refine XS.iload X7.here hx rfl (hb hby at_60) rfl ?_
    show Steps p.tables e below (T7.setTop (mkF m 62 #[.val (.long uA), .second, .val (.long uB), .second, .val (.long uC), .second, .val (.long uJ), .second, .val (.int us), .val (.int (us &&& (3 : Int32))), .val (.int uo), .val (.ref bb), .unset] [(.int uo), (.ref bb)])) _
    refine XS.lloadN X7.here hx rfl (hb hby at_62) rfl ?_
    show Steps p.tables e below (T7.setTop (mkF m 63 #[.val (.long uA), .second, .val (.long uB), .second, .val (.long uC), .second, .val (.long uJ), .second, .val (.int us), .val (.int (us &&& (3 : Int32))), .val (.int uo), .val (.ref bb), .unset] [(.long uA), (.int uo), (.ref bb)])) _
    refine st8 _ ?_
    show Steps p.tables e below (T8.setTop (mkF m 64 #[.val (.long uA), .second, .val (.long uB), .second, .val (.long uC), .second, .val (.long uJ), .second, .val (.int us), .val (.int (us &&& (3 : Int32))), .val (.int uo), .val (.ref bb), .unset] [])) _
    refine XS.iload X8.here hx rfl (hb hby at_64) rfl ?_
    show Steps p.tables e below (T8.setTop (mkF m 66 #[.val (.long uA), .second, .val (.long uB), .second, .val (.long uC), .second, .val (.long uJ), .second, .val (.int us), .val (.int (us &&& (3 : Int32))), .val (.int uo), .val (.ref bb), .unset] [(.int (us &&& (3 : Int32)))])) _
    refine XS.iconst X8.here hx rfl (hb hby at_66) ?_
    show Steps p.tables e below (T8.setTop (mkF m 67 #[.val (.long uA), .second, .val (.long uB), .second, .val (.long uC), .second, .val (.long uJ), .second, .val (.int us), .val (.int (us &&& (3 : Int32))), .val (.int uo), .val (.ref bb), .unset] [(.int (2 : Int32)), (.int (us &&& (3 : Int32)))])) _
    refine XS.icmpNo X8.here hx rfl (hb hby at_67) rfl (flt (by rw [Int32.lt_iff_toInt_lt]; omega)).1 ?_
    show Steps p.tables e below (T8.setTop (mkF m 70 #[.val (.long uA), .second, .val (.long uB), .second, .val (.long uC), .second, .val (.long uJ), .second, .val (.int us), .val (.int (us &&& (3 : Int32))), .val (.int uo), .val (.ref bb), .unset] [])) _
    refine XS.aload X8.here hx rfl (hb hby at_70) rfl rfl ?_
    show Steps p.tables e below (T8.setTop (mkF m 72 #[.val (.long uA), .second, .val (.long uB), .second, .val (.long uC), .second, .val (.long uJ), .second, .val (.int us), .val (.int (us &&& (3 : Int32))), .val (.int uo), .val (.ref bb), .unset] [(.ref bb)])) _
    refine XS.iload X8.here hx rfl (hb hby at_72) rfl ?_
    show Steps p.tables e below (T8.setTop (mkF m 74 #[.val (.long uA), .second, .val (.long uB), .second, .val (.long uC), .second, .val (.long uJ), .second, .val (.int us), .val (.int (us &&& (3 : Int32))), .val (.int uo), .val (.ref bb), .unset] [(.int uo), (.ref bb)])) _
    refine XS.iconst X8.here hx rfl (hb hby at_74) ?_
    show Steps p.tables e below (T8.setTop (mkF m 75 #[.val (.long uA), .second, .val (.long uB), .second, .val (.long uC), .second, .val (.long uJ), .second, .val (.int us), .val (.int (us &&& (3 : Int32))), .val (.int uo), .val (.ref bb), .unset] [(.int (1 : Int32)), (.int uo), (.ref bb)])) _
    refine XS.iadd X8.here hx rfl (hb hby at_75) rfl ?_
    show Steps p.tables e below (T8.setTop (mkF m 76 #[.val (.long uA), .second, .val (.long uB), .second, .val (.long uC), .second, .val (.long uJ), .second, .val (.int us), .val (.int (us &&& (3 : Int32))), .val (.int uo), .val (.ref bb), .unset] [(.int (uo + (1 : Int32))), (.ref bb)])) _
    refine XS.lloadN X8.here hx rfl (hb hby at_76) rfl ?_
    show Steps p.tables e below (T8.setTop (mkF m 77 #[.val (.long uA), .second, .val (.long uB), .second, .val (.long uC), .second, .val (.long uJ), .second, .val (.int us), .val (.int (us &&& (3 : Int32))), .val (.int uo), .val (.ref bb), .unset] [(.long uB), (.int (uo + (1 : Int32))), (.ref bb)])) _
    refine st9 _ ?_
    show Steps p.tables e below (T9.setTop (mkF m 78 #[.val (.long uA), .second, .val (.long uB), .second, .val (.long uC), .second, .val (.long uJ), .second, .val (.int us), .val (.int (us &&& (3 : Int32))), .val (.int uo), .val (.ref bb), .unset] [])) _
    refine XS.iload X9.here hx rfl (hb hby at_78) rfl ?_
    show Steps p.tables e below (T9.setTop (mkF m 80 #[.val (.long uA), .second, .val (.long uB), .second, .val (.long uC), .second, .val (.long uJ), .second, .val (.int us), .val (.int (us &&& (3 : Int32))), .val (.int uo), .val (.ref bb), .unset] [(.int (us &&& (3 : Int32)))])) _
    refine XS.iconst X9.here hx rfl (hb hby at_80) ?_
    show Steps p.tables e below (T9.setTop (mkF m 81 #[.val (.long uA), .second, .val (.long uB), .second, .val (.long uC), .second, .val (.long uJ), .second, .val (.int us), .val (.int (us &&& (3 : Int32))), .val (.int uo), .val (.ref bb), .unset] [(.int (3 : Int32)), (.int (us &&& (3 : Int32)))])) _
    refine XS.icmpNo X9.here hx rfl (hb hby at_81) rfl (flt (by rw [Int32.lt_iff_toInt_lt]; omega)).1 ?_
    show Steps p.tables e below (T9.setTop (mkF m 84 #[.val (.long uA), .second, .val (.long uB), .second, .val (.long uC), .second, .val (.long uJ), .second, .val (.int us), .val (.int (us &&& (3 : Int32))), .val (.int uo), .val (.ref bb), .unset] [])) _
    refine XS.aload X9.here hx rfl (hb hby at_84) rfl rfl ?_
    show Steps p.tables e below (T9.setTop (mkF m 86 #[.val (.long uA), .second, .val (.long uB), .second, .val (.long uC), .second, .val (.long uJ), .second, .val (.int us), .val (.int (us &&& (3 : Int32))), .val (.int uo), .val (.ref bb), .unset] [(.ref bb)])) _
    refine XS.iload X9.here hx rfl (hb hby at_86) rfl ?_
    show Steps p.tables e below (T9.setTop (mkF m 88 #[.val (.long uA), .second, .val (.long uB), .second, .val (.long uC), .second, .val (.long uJ), .second, .val (.int us), .val (.int (us &&& (3 : Int32))), .val (.int uo), .val (.ref bb), .unset] [(.int uo), (.ref bb)])) _
    refine XS.iconst X9.here hx rfl (hb hby at_88) ?_
    show Steps p.tables e below (T9.setTop (mkF m 89 #[.val (.long uA), .second, .val (.long uB), .second, .val (.long uC), .second, .val (.long uJ), .second, .val (.int us), .val (.int (us &&& (3 : Int32))), .val (.int uo), .val (.ref bb), .unset] [(.int (2 : Int32)), (.int uo), (.ref bb)])) _
    refine XS.iadd X9.here hx rfl (hb hby at_89) rfl ?_
    show Steps p.tables e below (T9.setTop (mkF m 90 #[.val (.long uA), .second, .val (.long uB), .second, .val (.long uC), .second, .val (.long uJ), .second, .val (.int us), .val (.int (us &&& (3 : Int32))), .val (.int uo), .val (.ref bb), .unset] [(.int (uo + (2 : Int32))), (.ref bb)])) _
    refine XS.lload X9.here hx rfl (hb hby at_90) rfl ?_
    show Steps p.tables e below (T9.setTop (mkF m 92 #[.val (.long uA), .second, .val (.long uB), .second, .val (.long uC), .second, .val (.long uJ), .second, .val (.int us), .val (.int (us &&& (3 : Int32))), .val (.int uo), .val (.ref bb), .unset] [(.long uC), (.int (uo + (2 : Int32))), (.ref bb)])) _
    refine st10 _ ?_
    show Steps p.tables e below (T10.setTop (mkF m 93 #[.val (.long uA), .second, .val (.long uB), .second, .val (.long uC), .second, .val (.long uJ), .second, .val (.int us), .val (.int (us &&& (3 : Int32))), .val (.int uo), .val (.ref bb), .unset] [])) _
    refine XS.aload X10.here hx rfl (hb hby at_93) rfl rfl ?_
    show Steps p.tables e below (T10.setTop (mkF m 95 #[.val (.long uA), .second, .val (.long uB), .second, .val (.long uC), .second, .val (.long uJ), .second, .val (.int us), .val (.int (us &&& (3 : Int32))), .val (.int uo), .val (.ref bb), .unset] [(.ref bb)])) _
    refine XS.iload X10.here hx rfl (hb hby at_95) rfl ?_
    show Steps p.tables e below (T10.setTop (mkF m 97 #[.val (.long uA), .second, .val (.long uB), .second, .val (.long uC), .second, .val (.long uJ), .second, .val (.int us), .val (.int (us &&& (3 : Int32))), .val (.int uo), .val (.ref bb), .unset] [(.int uo), (.ref bb)])) _
    refine XS.iload X10.here hx rfl (hb hby at_97) rfl ?_
    show Steps p.tables e below (T10.setTop (mkF m 99 #[.val (.long uA), .second, .val (.long uB), .second, .val (.long uC), .second, .val (.long uJ), .second, .val (.int us), .val (.int (us &&& (3 : Int32))), .val (.int uo), .val (.ref bb), .unset] [(.int uo), (.int uo), (.ref bb)])) _
    refine XS.iload X10.here hx rfl (hb hby at_99) rfl ?_
    show Steps p.tables e below (T10.setTop (mkF m 101 #[.val (.long uA), .second, .val (.long uB), .second, .val (.long uC), .second, .val (.long uJ), .second, .val (.int us), .val (.int (us &&& (3 : Int32))), .val (.int uo), .val (.ref bb), .unset] [(.int (us &&& (3 : Int32))), (.int uo), (.int uo), (.ref bb)])) _
    refine XS.iadd X10.here hx rfl (hb hby at_101) rfl ?_
    show Steps p.tables e below (T10.setTop (mkF m 102 #[.val (.long uA), .second, .val (.long uB), .second, .val (.long uC), .second, .val (.long uJ), .second, .val (.int us), .val (.int (us &&& (3 : Int32))), .val (.int uo), .val (.ref bb), .unset] [(.int (uo + (us &&& (3 : Int32)))), (.int uo), (.ref bb)])) _
    refine st11 _ ?_
    show Steps p.tables e below (T11.setTop (mkF m 105 #[.val (.long uA), .second, .val (.long uB), .second, .val (.long uC), .second, .val (.long uJ), .second, .val (.int us), .val (.int (us &&& (3 : Int32))), .val (.int uo), .val (.ref bb), .unset] [(.int (((((((((((0 : Int64) ^^^ uA) * (-7046029254386353131 : Int64)) ^^^ uB) * (-7046029254386353131 : Int64)) ^^^ uC) * (-7046029254386353131 : Int64)) ^^^ (((((((((0 : Int64) ^^^ uA) * (-7046029254386353131 : Int64)) ^^^ uB) * (-7046029254386353131 : Int64)) ^^^ uC) * (-7046029254386353131 : Int64)).toUInt64 >>> ((32 : Int32) &&& 0x3f).toInt64.toUInt64).toInt64)) * (-2960836687051489901 : Int64)) ^^^ (((((((((((0 : Int64) ^^^ uA) * (-7046029254386353131 : Int64)) ^^^ uB) * (-7046029254386353131 : Int64)) ^^^ uC) * (-7046029254386353131 : Int64)) ^^^ (((((((((0 : Int64) ^^^ uA) * (-7046029254386353131 : Int64)) ^^^ uB) * (-7046029254386353131 : Int64)) ^^^ uC) * (-7046029254386353131 : Int64)).toUInt64 >>> ((32 : Int32) &&& 0x3f).toInt64.toUInt64).toInt64)) * (-2960836687051489901 : Int64)).toUInt64 >>> ((32 : Int32) &&& 0x3f).toInt64.toUInt64).toInt64)).toInt32))])) _
    refine XS.istore X11.here hx rfl (hb hby at_105) rfl (l' := #[.val (.long uA), .second, .val (.long uB), .second, .val (.long uC), .second, .val (.long uJ), .second, .val (.int us), .val (.int (us &&& (3 : Int32))), .val (.int uo), .val (.ref bb), .val (.int (((((((((((0 : Int64) ^^^ uA) * (-7046029254386353131 : Int64)) ^^^ uB) * (-7046029254386353131 : Int64)) ^^^ uC) * (-7046029254386353131 : Int64)) ^^^ (((((((((0 : Int64) ^^^ uA) * (-7046029254386353131 : Int64)) ^^^ uB) * (-7046029254386353131 : Int64)) ^^^ uC) * (-7046029254386353131 : Int64)).toUInt64 >>> ((32 : Int32) &&& 0x3f).toInt64.toUInt64).toInt64)) * (-2960836687051489901 : Int64)) ^^^ (((((((((((0 : Int64) ^^^ uA) * (-7046029254386353131 : Int64)) ^^^ uB) * (-7046029254386353131 : Int64)) ^^^ uC) * (-7046029254386353131 : Int64)) ^^^ (((((((((0 : Int64) ^^^ uA) * (-7046029254386353131 : Int64)) ^^^ uB) * (-7046029254386353131 : Int64)) ^^^ uC) * (-7046029254386353131 : Int64)).toUInt64 >>> ((32 : Int32) &&& 0x3f).toInt64.toUInt64).toInt64)) * (-2960836687051489901 : Int64)).toUInt64 >>> ((32 : Int32) &&& 0x3f).toInt64.toUInt64).toInt64)).toInt32))]) rfl ?_
    show Steps p.tables e below (T11.setTop (mkF m 107 #[.val (.long uA), .second, .val (.long uB), .second, .val (.long uC), .second, .val (.long uJ), .second, .val (.int us), .val (.int (us &&& (3 : Int32))), .val (.int uo), .val (.ref bb), .val (.int (((((((((((0 : Int64) ^^^ uA) * (-7046029254386353131 : Int64)) ^^^ uB) * (-7046029254386353131 : Int64)) ^^^ uC) * (-7046029254386353131 : Int64)) ^^^ (((((((((0 : Int64) ^^^ uA) * (-7046029254386353131 : Int64)) ^^^ uB) * (-7046029254386353131 : Int64)) ^^^ uC) * (-7046029254386353131 : Int64)).toUInt64 >>> ((32 : Int32) &&& 0x3f).toInt64.toUInt64).toInt64)) * (-2960836687051489901 : Int64)) ^^^ (((((((((((0 : Int64) ^^^ uA) * (-7046029254386353131 : Int64)) ^^^ uB) * (-7046029254386353131 : Int64)) ^^^ uC) * (-7046029254386353131 : Int64)) ^^^ (((((((((0 : Int64) ^^^ uA) * (-7046029254386353131 : Int64)) ^^^ uB) * (-7046029254386353131 : Int64)) ^^^ uC) * (-7046029254386353131 : Int64)).toUInt64 >>> ((32 : Int32) &&& 0x3f).toInt64.toUInt64).toInt64)) * (-2960836687051489901 : Int64)).toUInt64 >>> ((32 : Int32) &&& 0x3f).toInt64.toUInt64).toInt64)).toInt32))] [])) _
    refine XS.iload X11.here hx rfl (hb hby at_107) rfl ?_
    show Steps p.tables e below (T11.setTop (mkF m 109 #[.val (.long uA), .second, .val (.long uB), .second, .val (.long uC), .second, .val (.long uJ), .second, .val (.int us), .val (.int (us &&& (3 : Int32))), .val (.int uo), .val (.ref bb), .val (.int (((((((((((0 : Int64) ^^^ uA) * (-7046029254386353131 : Int64)) ^^^ uB) * (-7046029254386353131 : Int64)) ^^^ uC) * (-7046029254386353131 : Int64)) ^^^ (((((((((0 : Int64) ^^^ uA) * (-7046029254386353131 : Int64)) ^^^ uB) * (-7046029254386353131 : Int64)) ^^^ uC) * (-7046029254386353131 : Int64)).toUInt64 >>> ((32 : Int32) &&& 0x3f).toInt64.toUInt64).toInt64)) * (-2960836687051489901 : Int64)) ^^^ (((((((((((0 : Int64) ^^^ uA) * (-7046029254386353131 : Int64)) ^^^ uB) * (-7046029254386353131 : Int64)) ^^^ uC) * (-7046029254386353131 : Int64)) ^^^ (((((((((0 : Int64) ^^^ uA) * (-7046029254386353131 : Int64)) ^^^ uB) * (-7046029254386353131 : Int64)) ^^^ uC) * (-7046029254386353131 : Int64)).toUInt64 >>> ((32 : Int32) &&& 0x3f).toInt64.toUInt64).toInt64)) * (-2960836687051489901 : Int64)).toUInt64 >>> ((32 : Int32) &&& 0x3f).toInt64.toUInt64).toInt64)).toInt32))] [(.int (((((((((((0 : Int64) ^^^ uA) * (-7046029254386353131 : Int64)) ^^^ uB) * (-7046029254386353131 : Int64)) ^^^ uC) * (-7046029254386353131 : Int64)) ^^^ (((((((((0 : Int64) ^^^ uA) * (-7046029254386353131 : Int64)) ^^^ uB) * (-7046029254386353131 : Int64)) ^^^ uC) * (-7046029254386353131 : Int64)).toUInt64 >>> ((32 : Int32) &&& 0x3f).toInt64.toUInt64).toInt64)) * (-2960836687051489901 : Int64)) ^^^ (((((((((((0 : Int64) ^^^ uA) * (-7046029254386353131 : Int64)) ^^^ uB) * (-7046029254386353131 : Int64)) ^^^ uC) * (-7046029254386353131 : Int64)) ^^^ (((((((((0 : Int64) ^^^ uA) * (-7046029254386353131 : Int64)) ^^^ uB) * (-7046029254386353131 : Int64)) ^^^ uC) * (-7046029254386353131 : Int64)).toUInt64 >>> ((32 : Int32) &&& 0x3f).toInt64.toUInt64).toInt64)) * (-2960836687051489901 : Int64)).toUInt64 >>> ((32 : Int32) &&& 0x3f).toInt64.toUInt64).toInt64)).toInt32))])) _
    refine XS.lloadN X11.here hx rfl (hb hby at_109) rfl ?_
    show Steps p.tables e below (T11.setTop (mkF m 110 #[.val (.long uA), .second, .val (.long uB), .second, .val (.long uC), .second, .val (.long uJ), .second, .val (.int us), .val (.int (us &&& (3 : Int32))), .val (.int uo), .val (.ref bb), .val (.int (((((((((((0 : Int64) ^^^ uA) * (-7046029254386353131 : Int64)) ^^^ uB) * (-7046029254386353131 : Int64)) ^^^ uC) * (-7046029254386353131 : Int64)) ^^^ (((((((((0 : Int64) ^^^ uA) * (-7046029254386353131 : Int64)) ^^^ uB) * (-7046029254386353131 : Int64)) ^^^ uC) * (-7046029254386353131 : Int64)).toUInt64 >>> ((32 : Int32) &&& 0x3f).toInt64.toUInt64).toInt64)) * (-2960836687051489901 : Int64)) ^^^ (((((((((((0 : Int64) ^^^ uA) * (-7046029254386353131 : Int64)) ^^^ uB) * (-7046029254386353131 : Int64)) ^^^ uC) * (-7046029254386353131 : Int64)) ^^^ (((((((((0 : Int64) ^^^ uA) * (-7046029254386353131 : Int64)) ^^^ uB) * (-7046029254386353131 : Int64)) ^^^ uC) * (-7046029254386353131 : Int64)).toUInt64 >>> ((32 : Int32) &&& 0x3f).toInt64.toUInt64).toInt64)) * (-2960836687051489901 : Int64)).toUInt64 >>> ((32 : Int32) &&& 0x3f).toInt64.toUInt64).toInt64)).toInt32))] [(.long uA), (.int (((((((((((0 : Int64) ^^^ uA) * (-7046029254386353131 : Int64)) ^^^ uB) * (-7046029254386353131 : Int64)) ^^^ uC) * (-7046029254386353131 : Int64)) ^^^ (((((((((0 : Int64) ^^^ uA) * (-7046029254386353131 : Int64)) ^^^ uB) * (-7046029254386353131 : Int64)) ^^^ uC) * (-7046029254386353131 : Int64)).toUInt64 >>> ((32 : Int32) &&& 0x3f).toInt64.toUInt64).toInt64)) * (-2960836687051489901 : Int64)) ^^^ (((((((((((0 : Int64) ^^^ uA) * (-7046029254386353131 : Int64)) ^^^ uB) * (-7046029254386353131 : Int64)) ^^^ uC) * (-7046029254386353131 : Int64)) ^^^ (((((((((0 : Int64) ^^^ uA) * (-7046029254386353131 : Int64)) ^^^ uB) * (-7046029254386353131 : Int64)) ^^^ uC) * (-7046029254386353131 : Int64)).toUInt64 >>> ((32 : Int32) &&& 0x3f).toInt64.toUInt64).toInt64)) * (-2960836687051489901 : Int64)).toUInt64 >>> ((32 : Int32) &&& 0x3f).toInt64.toUInt64).toInt64)).toInt32))])) _
    refine XS.lloadN X11.here hx rfl (hb hby at_110) rfl ?_
    show Steps p.tables e below (T11.setTop (mkF m 111 #[.val (.long uA), .second, .val (.long uB), .second, .val (.long uC), .second, .val (.long uJ), .second, .val (.int us), .val (.int (us &&& (3 : Int32))), .val (.int uo), .val (.ref bb), .val (.int (((((((((((0 : Int64) ^^^ uA) * (-7046029254386353131 : Int64)) ^^^ uB) * (-7046029254386353131 : Int64)) ^^^ uC) * (-7046029254386353131 : Int64)) ^^^ (((((((((0 : Int64) ^^^ uA) * (-7046029254386353131 : Int64)) ^^^ uB) * (-7046029254386353131 : Int64)) ^^^ uC) * (-7046029254386353131 : Int64)).toUInt64 >>> ((32 : Int32) &&& 0x3f).toInt64.toUInt64).toInt64)) * (-2960836687051489901 : Int64)) ^^^ (((((((((((0 : Int64) ^^^ uA) * (-7046029254386353131 : Int64)) ^^^ uB) * (-7046029254386353131 : Int64)) ^^^ uC) * (-7046029254386353131 : Int64)) ^^^ (((((((((0 : Int64) ^^^ uA) * (-7046029254386353131 : Int64)) ^^^ uB) * (-7046029254386353131 : Int64)) ^^^ uC) * (-7046029254386353131 : Int64)).toUInt64 >>> ((32 : Int32) &&& 0x3f).toInt64.toUInt64).toInt64)) * (-2960836687051489901 : Int64)).toUInt64 >>> ((32 : Int32) &&& 0x3f).toInt64.toUInt64).toInt64)).toInt32))] [(.long uB), (.long uA), (.int (((((((((((0 : Int64) ^^^ uA) * (-7046029254386353131 : Int64)) ^^^ uB) * (-7046029254386353131 : Int64)) ^^^ uC) * (-7046029254386353131 : Int64)) ^^^ (((((((((0 : Int64) ^^^ uA) * (-7046029254386353131 : Int64)) ^^^ uB) * (-7046029254386353131 : Int64)) ^^^ uC) * (-7046029254386353131 : Int64)).toUInt64 >>> ((32 : Int32) &&& 0x3f).toInt64.toUInt64).toInt64)) * (-2960836687051489901 : Int64)) ^^^ (((((((((((0 : Int64) ^^^ uA) * (-7046029254386353131 : Int64)) ^^^ uB) * (-7046029254386353131 : Int64)) ^^^ uC) * (-7046029254386353131 : Int64)) ^^^ (((((((((0 : Int64) ^^^ uA) * (-7046029254386353131 : Int64)) ^^^ uB) * (-7046029254386353131 : Int64)) ^^^ uC) * (-7046029254386353131 : Int64)).toUInt64 >>> ((32 : Int32) &&& 0x3f).toInt64.toUInt64).toInt64)) * (-2960836687051489901 : Int64)).toUInt64 >>> ((32 : Int32) &&& 0x3f).toInt64.toUInt64).toInt64)).toInt32))])) _
    refine XS.lload X11.here hx rfl (hb hby at_111) rfl ?_
    show Steps p.tables e below (T11.setTop (mkF m 113 #[.val (.long uA), .second, .val (.long uB), .second, .val (.long uC), .second, .val (.long uJ), .second, .val (.int us), .val (.int (us &&& (3 : Int32))), .val (.int uo), .val (.ref bb), .val (.int (((((((((((0 : Int64) ^^^ uA) * (-7046029254386353131 : Int64)) ^^^ uB) * (-7046029254386353131 : Int64)) ^^^ uC) * (-7046029254386353131 : Int64)) ^^^ (((((((((0 : Int64) ^^^ uA) * (-7046029254386353131 : Int64)) ^^^ uB) * (-7046029254386353131 : Int64)) ^^^ uC) * (-7046029254386353131 : Int64)).toUInt64 >>> ((32 : Int32) &&& 0x3f).toInt64.toUInt64).toInt64)) * (-2960836687051489901 : Int64)) ^^^ (((((((((((0 : Int64) ^^^ uA) * (-7046029254386353131 : Int64)) ^^^ uB) * (-7046029254386353131 : Int64)) ^^^ uC) * (-7046029254386353131 : Int64)) ^^^ (((((((((0 : Int64) ^^^ uA) * (-7046029254386353131 : Int64)) ^^^ uB) * (-7046029254386353131 : Int64)) ^^^ uC) * (-7046029254386353131 : Int64)).toUInt64 >>> ((32 : Int32) &&& 0x3f).toInt64.toUInt64).toInt64)) * (-2960836687051489901 : Int64)).toUInt64 >>> ((32 : Int32) &&& 0x3f).toInt64.toUInt64).toInt64)).toInt32))] [(.long uC), (.long uB), (.long uA), (.int (((((((((((0 : Int64) ^^^ uA) * (-7046029254386353131 : Int64)) ^^^ uB) * (-7046029254386353131 : Int64)) ^^^ uC) * (-7046029254386353131 : Int64)) ^^^ (((((((((0 : Int64) ^^^ uA) * (-7046029254386353131 : Int64)) ^^^ uB) * (-7046029254386353131 : Int64)) ^^^ uC) * (-7046029254386353131 : Int64)).toUInt64 >>> ((32 : Int32) &&& 0x3f).toInt64.toUInt64).toInt64)) * (-2960836687051489901 : Int64)) ^^^ (((((((((((0 : Int64) ^^^ uA) * (-7046029254386353131 : Int64)) ^^^ uB) * (-7046029254386353131 : Int64)) ^^^ uC) * (-7046029254386353131 : Int64)) ^^^ (((((((((0 : Int64) ^^^ uA) * (-7046029254386353131 : Int64)) ^^^ uB) * (-7046029254386353131 : Int64)) ^^^ uC) * (-7046029254386353131 : Int64)).toUInt64 >>> ((32 : Int32) &&& 0x3f).toInt64.toUInt64).toInt64)) * (-2960836687051489901 : Int64)).toUInt64 >>> ((32 : Int32) &&& 0x3f).toInt64.toUInt64).toInt64)).toInt32))])) _
    refine XS.iload X11.here hx rfl (hb hby at_113) rfl ?_
    show Steps p.tables e below (T11.setTop (mkF m 115 #[.val (.long uA), .second, .val (.long uB), .second, .val (.long uC), .second, .val (.long uJ), .second, .val (.int us), .val (.int (us &&& (3 : Int32))), .val (.int uo), .val (.ref bb), .val (.int (((((((((((0 : Int64) ^^^ uA) * (-7046029254386353131 : Int64)) ^^^ uB) * (-7046029254386353131 : Int64)) ^^^ uC) * (-7046029254386353131 : Int64)) ^^^ (((((((((0 : Int64) ^^^ uA) * (-7046029254386353131 : Int64)) ^^^ uB) * (-7046029254386353131 : Int64)) ^^^ uC) * (-7046029254386353131 : Int64)).toUInt64 >>> ((32 : Int32) &&& 0x3f).toInt64.toUInt64).toInt64)) * (-2960836687051489901 : Int64)) ^^^ (((((((((((0 : Int64) ^^^ uA) * (-7046029254386353131 : Int64)) ^^^ uB) * (-7046029254386353131 : Int64)) ^^^ uC) * (-7046029254386353131 : Int64)) ^^^ (((((((((0 : Int64) ^^^ uA) * (-7046029254386353131 : Int64)) ^^^ uB) * (-7046029254386353131 : Int64)) ^^^ uC) * (-7046029254386353131 : Int64)).toUInt64 >>> ((32 : Int32) &&& 0x3f).toInt64.toUInt64).toInt64)) * (-2960836687051489901 : Int64)).toUInt64 >>> ((32 : Int32) &&& 0x3f).toInt64.toUInt64).toInt64)).toInt32))] [(.int (us &&& (3 : Int32))), (.long uC), (.long uB), (.long uA), (.int (((((((((((0 : Int64) ^^^ uA) * (-7046029254386353131 : Int64)) ^^^ uB) * (-7046029254386353131 : Int64)) ^^^ uC) * (-7046029254386353131 : Int64)) ^^^ (((((((((0 : Int64) ^^^ uA) * (-7046029254386353131 : Int64)) ^^^ uB) * (-7046029254386353131 : Int64)) ^^^ uC) * (-7046029254386353131 : Int64)).toUInt64 >>> ((32 : Int32) &&& 0x3f).toInt64.toUInt64).toInt64)) * (-2960836687051489901 : Int64)) ^^^ (((((((((((0 : Int64) ^^^ uA) * (-7046029254386353131 : Int64)) ^^^ uB) * (-7046029254386353131 : Int64)) ^^^ uC) * (-7046029254386353131 : Int64)) ^^^ (((((((((0 : Int64) ^^^ uA) * (-7046029254386353131 : Int64)) ^^^ uB) * (-7046029254386353131 : Int64)) ^^^ uC) * (-7046029254386353131 : Int64)).toUInt64 >>> ((32 : Int32) &&& 0x3f).toInt64.toUInt64).toInt64)) * (-2960836687051489901 : Int64)).toUInt64 >>> ((32 : Int32) &&& 0x3f).toInt64.toUInt64).toInt64)).toInt32))])) _
    refine st12 _ ?_
    show Steps p.tables e below (T12.setTop (mkF m 118 #[.val (.long uA), .second, .val (.long uB), .second, .val (.long uC), .second, .val (.long uJ), .second, .val (.int us), .val (.int (us &&& (3 : Int32))), .val (.int uo), .val (.ref bb), .val (.int (((((((((((0 : Int64) ^^^ uA) * (-7046029254386353131 : Int64)) ^^^ uB) * (-7046029254386353131 : Int64)) ^^^ uC) * (-7046029254386353131 : Int64)) ^^^ (((((((((0 : Int64) ^^^ uA) * (-7046029254386353131 : Int64)) ^^^ uB) * (-7046029254386353131 : Int64)) ^^^ uC) * (-7046029254386353131 : Int64)).toUInt64 >>> ((32 : Int32) &&& 0x3f).toInt64.toUInt64).toInt64)) * (-2960836687051489901 : Int64)) ^^^ (((((((((((0 : Int64) ^^^ uA) * (-7046029254386353131 : Int64)) ^^^ uB) * (-7046029254386353131 : Int64)) ^^^ uC) * (-7046029254386353131 : Int64)) ^^^ (((((((((0 : Int64) ^^^ uA) * (-7046029254386353131 : Int64)) ^^^ uB) * (-7046029254386353131 : Int64)) ^^^ uC) * (-7046029254386353131 : Int64)).toUInt64 >>> ((32 : Int32) &&& 0x3f).toInt64.toUInt64).toInt64)) * (-2960836687051489901 : Int64)).toUInt64 >>> ((32 : Int32) &&& 0x3f).toInt64.toUInt64).toInt64)).toInt32))] [(.int (((((((((((0 : Int64) ^^^ uA) * (-7046029254386353131 : Int64)) ^^^ uB) * (-7046029254386353131 : Int64)) ^^^ uC) * (-7046029254386353131 : Int64)) ^^^ (((((((((0 : Int64) ^^^ uA) * (-7046029254386353131 : Int64)) ^^^ uB) * (-7046029254386353131 : Int64)) ^^^ uC) * (-7046029254386353131 : Int64)).toUInt64 >>> ((32 : Int32) &&& 0x3f).toInt64.toUInt64).toInt64)) * (-2960836687051489901 : Int64)) ^^^ (((((((((((0 : Int64) ^^^ uA) * (-7046029254386353131 : Int64)) ^^^ uB) * (-7046029254386353131 : Int64)) ^^^ uC) * (-7046029254386353131 : Int64)) ^^^ (((((((((0 : Int64) ^^^ uA) * (-7046029254386353131 : Int64)) ^^^ uB) * (-7046029254386353131 : Int64)) ^^^ uC) * (-7046029254386353131 : Int64)).toUInt64 >>> ((32 : Int32) &&& 0x3f).toInt64.toUInt64).toInt64)) * (-2960836687051489901 : Int64)).toUInt64 >>> ((32 : Int32) &&& 0x3f).toInt64.toUInt64).toInt64)).toInt32)), (.int (((((((((((0 : Int64) ^^^ uA) * (-7046029254386353131 : Int64)) ^^^ uB) * (-7046029254386353131 : Int64)) ^^^ uC) * (-7046029254386353131 : Int64)) ^^^ (((((((((0 : Int64) ^^^ uA) * (-7046029254386353131 : Int64)) ^^^ uB) * (-7046029254386353131 : Int64)) ^^^ uC) * (-7046029254386353131 : Int64)).toUInt64 >>> ((32 : Int32) &&& 0x3f).toInt64.toUInt64).toInt64)) * (-2960836687051489901 : Int64)) ^^^ (((((((((((0 : Int64) ^^^ uA) * (-7046029254386353131 : Int64)) ^^^ uB) * (-7046029254386353131 : Int64)) ^^^ uC) * (-7046029254386353131 : Int64)) ^^^ (((((((((0 : Int64) ^^^ uA) * (-7046029254386353131 : Int64)) ^^^ uB) * (-7046029254386353131 : Int64)) ^^^ uC) * (-7046029254386353131 : Int64)).toUInt64 >>> ((32 : Int32) &&& 0x3f).toInt64.toUInt64).toInt64)) * (-2960836687051489901 : Int64)).toUInt64 >>> ((32 : Int32) &&& 0x3f).toInt64.toUInt64).toInt64)).toInt32))])) _
    refine XS.icmpNo X12.here hx rfl (hb hby at_118) rfl (teq rfl).2 ?_
    show Steps p.tables e below (T12.setTop (mkF m 121 #[.val (.long uA), .second, .val (.long uB), .second, .val (.long uC), .second, .val (.long uJ), .second, .val (.int us), .val (.int (us &&& (3 : Int32))), .val (.int uo), .val (.ref bb), .val (.int (((((((((((0 : Int64) ^^^ uA) * (-7046029254386353131 : Int64)) ^^^ uB) * (-7046029254386353131 : Int64)) ^^^ uC) * (-7046029254386353131 : Int64)) ^^^ (((((((((0 : Int64) ^^^ uA) * (-7046029254386353131 : Int64)) ^^^ uB) * (-7046029254386353131 : Int64)) ^^^ uC) * (-7046029254386353131 : Int64)).toUInt64 >>> ((32 : Int32) &&& 0x3f).toInt64.toUInt64).toInt64)) * (-2960836687051489901 : Int64)) ^^^ (((((((((((0 : Int64) ^^^ uA) * (-7046029254386353131 : Int64)) ^^^ uB) * (-7046029254386353131 : Int64)) ^^^ uC) * (-7046029254386353131 : Int64)) ^^^ (((((((((0 : Int64) ^^^ uA) * (-7046029254386353131 : Int64)) ^^^ uB) * (-7046029254386353131 : Int64)) ^^^ uC) * (-7046029254386353131 : Int64)).toUInt64 >>> ((32 : Int32) &&& 0x3f).toInt64.toUInt64).toInt64)) * (-2960836687051489901 : Int64)).toUInt64 >>> ((32 : Int32) &&& 0x3f).toInt64.toUInt64).toInt64)).toInt32))] [])) _
    refine XS.iconst X12.here hx rfl (hb hby at_121) ?_
    show Steps p.tables e below (T12.setTop (mkF m 122 #[.val (.long uA), .second, .val (.long uB), .second, .val (.long uC), .second, .val (.long uJ), .second, .val (.int us), .val (.int (us &&& (3 : Int32))), .val (.int uo), .val (.ref bb), .val (.int (((((((((((0 : Int64) ^^^ uA) * (-7046029254386353131 : Int64)) ^^^ uB) * (-7046029254386353131 : Int64)) ^^^ uC) * (-7046029254386353131 : Int64)) ^^^ (((((((((0 : Int64) ^^^ uA) * (-7046029254386353131 : Int64)) ^^^ uB) * (-7046029254386353131 : Int64)) ^^^ uC) * (-7046029254386353131 : Int64)).toUInt64 >>> ((32 : Int32) &&& 0x3f).toInt64.toUInt64).toInt64)) * (-2960836687051489901 : Int64)) ^^^ (((((((((((0 : Int64) ^^^ uA) * (-7046029254386353131 : Int64)) ^^^ uB) * (-7046029254386353131 : Int64)) ^^^ uC) * (-7046029254386353131 : Int64)) ^^^ (((((((((0 : Int64) ^^^ uA) * (-7046029254386353131 : Int64)) ^^^ uB) * (-7046029254386353131 : Int64)) ^^^ uC) * (-7046029254386353131 : Int64)).toUInt64 >>> ((32 : Int32) &&& 0x3f).toInt64.toUInt64).toInt64)) * (-2960836687051489901 : Int64)).toUInt64 >>> ((32 : Int32) &&& 0x3f).toInt64.toUInt64).toInt64)).toInt32))] [(.int (1 : Int32))])) _
    refine XS.goto X12.here hx rfl (pc0 := 122) (pc' := 126) rfl (hb hby at_122) (by decide) (by decide) ?_
    show Steps p.tables e below (T12.setTop (mkF m 126 #[.val (.long uA), .second, .val (.long uB), .second, .val (.long uC), .second, .val (.long uJ), .second, .val (.int us), .val (.int (us &&& (3 : Int32))), .val (.int uo), .val (.ref bb), .val (.int (((((((((((0 : Int64) ^^^ uA) * (-7046029254386353131 : Int64)) ^^^ uB) * (-7046029254386353131 : Int64)) ^^^ uC) * (-7046029254386353131 : Int64)) ^^^ (((((((((0 : Int64) ^^^ uA) * (-7046029254386353131 : Int64)) ^^^ uB) * (-7046029254386353131 : Int64)) ^^^ uC) * (-7046029254386353131 : Int64)).toUInt64 >>> ((32 : Int32) &&& 0x3f).toInt64.toUInt64).toInt64)) * (-2960836687051489901 : Int64)) ^^^ (((((((((((0 : Int64) ^^^ uA) * (-7046029254386353131 : Int64)) ^^^ uB) * (-7046029254386353131 : Int64)) ^^^ uC) * (-7046029254386353131 : Int64)) ^^^ (((((((((0 : Int64) ^^^ uA) * (-7046029254386353131 : Int64)) ^^^ uB) * (-7046029254386353131 : Int64)) ^^^ uC) * (-7046029254386353131 : Int64)).toUInt64 >>> ((32 : Int32) &&& 0x3f).toInt64.toUInt64).toInt64)) * (-2960836687051489901 : Int64)).toUInt64 >>> ((32 : Int32) &&& 0x3f).toInt64.toUInt64).toInt64)).toInt32))] [(.int (1 : Int32))])) _
    exact retN X12 hx (t := .boolean) Bd.returns (by simp) (hb hby at_126) hr
  · show Q0a Z uA uB uC uJ us h0 n0 _ T12.heap _
    rw [e12q]
    exact ⟨rfl, N12⟩
theorem rm0 (l : Launch) (Z : State) (a0 : Array Value) (hw : ∀ d ∈ tables_1, d.before a0 Z = true) (ws : List Jvm.Cond) (uA : Int64) (uB : Int64) (uC : Int64) (uJ : Int64) (us : Int32) (h0 : Heap) (n0 : Nat) (Z0 : n0 ≤ h0.size) :
    MetFree l x (head1 (Jvm.Cond.code x code maxLocals ret :: ws) room_1) (fun a U => a = #[(.long uA), (.long uB), (.long uC), (.long uJ), (.int us)] ∧ Z.Warmed39 U.vm ∧ U.heap = h0) (fun _ _ _ _ _ => True) (fun _ U o U' => ∃ v L, o = .returned v ∧ Q0a Z uA uB uC uJ us h0 n0 v U'.heap L ∧ FrameEnd U o U' L 1 5) := by
  rcases own_n us with h | h | h | h
  · exact rm0a l Z a0 hw ws uA uB uC uJ us h0 n0 Z0 h
  · exact rm0b l Z a0 hw ws uA uB uC uJ us h0 n0 Z0 h
  · exact rm0c l Z a0 hw ws uA uB uC uJ us h0 n0 Z0 h
  · exact rm0d l Z a0 hw ws uA uB uC uJ us h0 n0 Z0 h
set_option maxRecDepth 65536 in
set_option maxHeartbeats 40000000 in
theorem comes_1 {Post : Tables → Env → Array Value → State → Outcome → State → Prop} (hpost : ∀ tb e args s v u, (limb_1_1.after args s (.returned v) u = true ∧ limb_1_2.after args s (.returned v) u = true ∧ True) → FrameEnd s (.returned v) u (Jvm.fieldLocs frame_1_writes args s ++ Jvm.arrayLocs frame_1_arrays args s ++ Jvm.staticLocs frame_1_statics s) 16 128 → Post tb e args s (.returned v) u) :
    ArmFor flags0 classFile x code maxLocals ret World_1 tables_1 room_1 Calls_1 rest_1 Pre_1 Post := by
  intro l hfl _ _ p e ha hc hk s m args below hf hA hF happ hP
  obtain ⟨hcalls, hrest, hpre⟩ := hP
  obtain ⟨-, -, -, hnamed, -, -, -, hat⟩ := (Spec.applies_iff hf).mp happ
  obtain ⟨hg, hn⟩ := and_e (Cond.before_iff.mp (show (Jvm.Cond.and given_1 narrow_1).before args s = true from hpre))
  obtain ⟨h1, r0⟩ := and_e hg
  obtain ⟨g0, r1⟩ := and_e r0
  obtain ⟨g1, r2⟩ := and_e r1
  obtain ⟨g2, r3⟩ := and_e r2
  obtain ⟨g3, r4⟩ := and_e r3
  obtain ⟨w0, w1, w2, w3, w4, rfl⟩ : ∃ w0 w1 w2 w3 w4 : Value, args = #[w0, w1, w2, w3, w4] := by
    have hs : args.size = 5 := by simpa [Cond.value, given_1] using h1
    obtain ⟨L⟩ := args
    match L, hs with
    | [w0, w1, w2, w3, w4], _ => exact ⟨w0, w1, w2, w3, w4, rfl⟩
  have hw := fun d (hd : d ∈ tables_1) => atoms_spec (ws := Jvm.Cond.code x code maxLocals ret :: tables_1) hat d (List.mem_cons_of_mem _ hd)
  obtain ⟨i0, ei0⟩ := isL_v g0
  obtain rfl : w0 = (.long i0) := Option.some.inj ei0
  obtain ⟨i1, ei1⟩ := isL_v g1
  obtain rfl : w1 = (.long i1) := Option.some.inj ei1
  obtain ⟨i2, ei2⟩ := isL_v g2
  obtain rfl : w2 = (.long i2) := Option.some.inj ei2
  obtain ⟨i3, ei3⟩ := isL_v g3
  obtain rfl : w3 = (.long i3) := Option.some.inj ei3
  obtain ⟨i4, ei4⟩ := is_v r4
  obtain rfl : w4 = (.int i4) := Option.some.inj ei4
  obtain ⟨n, o, h1, h2, h3, _, L, rfl, ⟨rfl, N⟩, hq⟩ := rm0 l s _ hw tables_1 i0 i1 i2 i3 i4 s.heap s.heap.size (Nat.le_refl _) p e ha hc hk s m _ below hf ((Spec.applies_iff_loose hf).mp happ).1 ⟨rfl, State.Warmed39.refl s, rfl⟩ trivial
  refine ⟨n, _, h1, h2, h3, hpost _ _ _ _ _ _ ⟨Cond.after_iff.mpr rfl, Cond.after_iff.mpr (eq_i res_at (Term.int_eval (1)) rfl), trivial⟩ ⟨hq.1, hq.2.1, (hq.2.2.sift fun y hy => Or.inr (N y hy)).mono (by decide) (by decide)⟩⟩
theorem main_1_1 : Claimed_1_1 := comes_1 fun _ _ _ _ _ _ h hF => ⟨h.1, hF⟩
theorem main_1_2 : Claimed_1_2 := comes_1 fun _ _ _ _ _ _ h hF => ⟨h.2.1, hF⟩
end Jvm.Pilot.@@N@@
namespace Jvm.Pilot.@@N@@
open Jvm Jvm.ClassFile Sem Op Lib Jvm.Free Jvm.Stand Jvm.Pilot.@@N@@.Jvm.D
/-! MADE BY PROGRAM (witnessworld.py) out of the Statement's table words and the real class files: 11 classes; the members and pool entries that the words name. The judged class is class 1, her method 3. -/
namespace start1
open Jvm.ClassFile
def u (s : String) : CpInfo := .utf8 (stringToUtf16 s)
/-- a pool by its gaps: so many unusable entries, then the entry; so many at the end -/
def gap : Nat → List CpInfo → List CpInfo
  | 0, r => r
  | n + 1, r => .unusable :: gap n r
def poolList (es : List (Nat × CpInfo)) (last : Nat) : List CpInfo := es.foldr (fun e r => gap e.1 (e.2 :: r)) (gap last [])
def pool (es : List (Nat × CpInfo)) (last : Nat) : Array CpInfo := ⟨poolList es last⟩
def fileOf (pool : Array CpInfo) (this : Nat) (attrs : Array Attribute := #[]) (ms : Array MethodInfo := #[]) (fl : Nat := 33) (sup : Nat := 0) (ifs : Array Nat := #[]) (fds : Array FieldInfo := #[]) : ClassFile where
  minorVersion := 0
  majorVersion := 65
  constantPool := pool
  accessFlags := fl
  thisClass := this
  superClass := sup
  interfaces := ifs
  fields := fds
  methods := ms
  attributes := attrs
def plain (name : String) (sup : Option ClassId) : Class where
  name := name
  kind := .ordinary
  loader := none
  accessFlags := 33
  super := sup
  interfaces := #[]
  cf := none
  fields := #[]
  methods := #[]
  instanceTypes := #[]
  staticTypes := #[]
  resolved := #[]
  callSites := []
  init := .initialized
  statics := none
  mirror := none

def pool0 : Array CpInfo := pool [(5, u "<init>"), (0, u "()V"), (1, .class_ 10), (1, u "java/lang/Object")] 113

def k0m0 : Method := { name := "<init>", desc := "()V", sig := { parameters := [], returnType := none }, accessFlags := 1, code := none }
/-- java/lang/Object -/
def k0 : Class := { plain "java/lang/Object" none with
  accessFlags := 33
  interfaces := #[]
  cf := some (fileOf pool0 8 #[] #[{ accessFlags := 1, nameIndex := 5, descriptorIndex := 6, attributes := #[] }] 33 0 #[] #[])
  fields := #[]
  methods := #[k0m0]
  instanceTypes := #[]
  staticTypes := #[]
  resolved := Array.replicate 124 none
  statics := none }

def pool1 : Array CpInfo := pool [(2, .class_ 4), (1, u "java/lang/Object"), (0, u "<init>"), (0, u "()V"), (0, .class_ 8), (0, u "com/example/assured_timing/assuredtiming/simulation/ConfigurationHashPinLaw"), (0, .long 11400714819323198485), (1, .methodref 7 12), (0, .nameAndType 13 14), (0, u "step"), (0, u "(JJ)J"), (0, .long 15485907386658061715), (1, .integer 2147483647), (0, .methodref 19 20), (0, .class_ 21), (0, .nameAndType 22 23), (0, u "com/example/assured_timing/assuredtiming/simulation/Configuration"), (0, u "hash"), (0, u "([JII)I"), (0, .methodref 7 25), (0, .nameAndType 26 27), (0, u "expected"), (0, u "(JJJI)I"), (0, u "K1"), (0, u "J"), (1, u "K2"), (3, u "law"), (0, u "(JJJJI)Z")] 4

def k1m0 : Method := { name := "<init>", desc := "()V", sig := { parameters := [], returnType := none }, accessFlags := 1, code := none }
def k1c1 : Code := { maxStack := 4, maxLocals := 4, code := method_2_code, exceptionTable := #[], attributes := #[] }
def k1m1 : Method := { name := "step", desc := "(JJ)J", sig := { parameters := [.long, .long], returnType := some .long }, accessFlags := 10, code := some k1c1 }
def k1c2 : Code := { maxStack := 5, maxLocals := 11, code := method_3_code, exceptionTable := #[], attributes := #[] }
def k1m2 : Method := { name := "expected", desc := "(JJJI)I", sig := { parameters := [.long, .long, .long, .int], returnType := some .int }, accessFlags := 10, code := some k1c2 }
def k1c3 : Code := { maxStack := 8, maxLocals := 13, code := code, exceptionTable := #[], attributes := #[] }
def k1m3 : Method := { name := "law", desc := "(JJJJI)Z", sig := { parameters := [.long, .long, .long, .long, .int], returnType := some .boolean }, accessFlags := 9, code := some k1c3 }
/-- com/example/assured_timing/assuredtiming/simulation/ConfigurationHashPinLaw -/
def k1 : Class := { plain "com/example/assured_timing/assuredtiming/simulation/ConfigurationHashPinLaw" (some 0) with
  accessFlags := 49
  interfaces := #[]
  cf := some (fileOf pool1 7 #[] #[{ accessFlags := 1, nameIndex := 5, descriptorIndex := 6, attributes := #[] }, { accessFlags := 10, nameIndex := 13, descriptorIndex := 14, attributes := #[] }, { accessFlags := 10, nameIndex := 26, descriptorIndex := 27, attributes := #[] }, { accessFlags := 9, nameIndex := 35, descriptorIndex := 36, attributes := #[] }] 49 2 #[] #[{ accessFlags := 26, nameIndex := 28, descriptorIndex := 29, attributes := #[] }, { accessFlags := 26, nameIndex := 31, descriptorIndex := 29, attributes := #[] }])
  fields := #[{ name := "K1", type := .long, accessFlags := 26, slot := 0, constantValue := 0 }, { name := "K2", type := .long, accessFlags := 26, slot := 1, constantValue := 0 }]
  methods := #[k1m0, k1m1, k1m2, k1m3]
  instanceTypes := #[]
  staticTypes := #[.long, .long]
  resolved := Array.replicate 41 none
  statics := none }

def pool2 : Array CpInfo := pool [(2, .class_ 4), (1, u "java/lang/Object"), (8, .class_ 14), (0, u "com/example/assured_timing/assuredtiming/simulation/Configuration$Layout"), (4, .class_ 21), (1, u "com/example/assured_timing/assuredtiming/simulation/Configuration"), (0, u "layout"), (0, u "Lcom/example/assured_timing/assuredtiming/simulation/Configuration$Layout;"), (12, u "words"), (0, u "[J"), (52, u "NONE"), (23, u "hash"), (0, u "([JII)I"), (0, .long 11400714819323198485), (1, .long 15485907386658061715)] 32

def k2c0 : Code := { maxStack := 5, maxLocals := 6, code := prog_101_method_19_code, exceptionTable := #[], attributes := #[] }
def k2m0 : Method := { name := "hash", desc := "([JII)I", sig := { parameters := [(.array .long), .int, .int], returnType := some .int }, accessFlags := 8, code := some k2c0 }
/-- com/example/assured_timing/assuredtiming/simulation/Configuration -/
def k2 : Class := { plain "com/example/assured_timing/assuredtiming/simulation/Configuration" (some 0) with
  accessFlags := 49
  interfaces := #[]
  cf := some (fileOf pool2 19 #[.nestMembers #[13]] #[{ accessFlags := 8, nameIndex := 114, descriptorIndex := 115, attributes := #[] }] 49 2 #[] #[{ accessFlags := 26, nameIndex := 90, descriptorIndex := 37, attributes := #[] }, { accessFlags := 18, nameIndex := 36, descriptorIndex := 37, attributes := #[] }, { accessFlags := 18, nameIndex := 22, descriptorIndex := 23, attributes := #[] }])
  fields := #[{ name := "NONE", type := (.array .long), accessFlags := 26, slot := 0, constantValue := 0 }, { name := "words", type := (.array .long), accessFlags := 18, slot := 0, constantValue := 0 }, { name := "layout", type := (.object "com/example/assured_timing/assuredtiming/simulation/Configuration$Layout"), accessFlags := 18, slot := 1, constantValue := 0 }]
  methods := #[k2m0]
  instanceTypes := #[(.array .long), (.object "com/example/assured_timing/assuredtiming/simulation/Configuration$Layout")]
  staticTypes := #[(.array .long)]
  resolved := Array.replicate 151 none
  statics := none }

def pool3 : Array CpInfo := pool [(1, u "java/lang/Cloneable"), (0, .class_ 1), (0, u "java/lang/Object"), (0, .class_ 3)] 3

/-- java/lang/Cloneable -/
def k3 : Class := { plain "java/lang/Cloneable" (some 0) with
  accessFlags := 1537
  interfaces := #[]
  cf := some (fileOf pool3 2 #[] #[] 1537 4 #[] #[])
  fields := #[]
  methods := #[]
  instanceTypes := #[]
  staticTypes := #[]
  resolved := Array.replicate 8 none
  statics := none }

def pool4 : Array CpInfo := pool [(1, u "java/io/Serializable"), (0, .class_ 1), (0, u "java/lang/Object"), (0, .class_ 3)] 3

/-- java/io/Serializable -/
def k4 : Class := { plain "java/io/Serializable" (some 0) with
  accessFlags := 1537
  interfaces := #[]
  cf := some (fileOf pool4 2 #[] #[] 1537 4 #[] #[])
  fields := #[]
  methods := #[]
  instanceTypes := #[]
  staticTypes := #[]
  resolved := Array.replicate 8 none
  statics := none }

/-- the primitive byte -/
def k5 : Class := { plain "byte" none with kind := .primitive 'B', accessFlags := 0x411 }
/-- [B -/
def k6 : Class := { plain "[B" (some 0) with kind := .array 5 .byte, interfaces := #[3, 4], accessFlags := 1041 }

/-- the primitive int -/
def k7 : Class := { plain "int" none with kind := .primitive 'I', accessFlags := 0x411 }
/-- [I -/
def k8 : Class := { plain "[I" (some 0) with kind := .array 7 .int, interfaces := #[3, 4], accessFlags := 1041 }

/-- the primitive long -/
def k9 : Class := { plain "long" none with kind := .primitive 'J', accessFlags := 0x411 }
/-- [J -/
def k10 : Class := { plain "[J" (some 0) with kind := .array 9 .long, interfaces := #[3, 4], accessFlags := 1041 }

def heap : Heap := #[]
def classes : Array Class := #[k0, k1, k2, k3, k4, k5, k6, k7, k8, k9, k10]
def interned : List (Array UInt16 × Addr) := []
def slotsUsed : Nat := 0
def theMethod : MethodId := ⟨1, 3⟩
def args0 : Array Value := #[.long 5, .long 7, .long 1, .long 9, .int 6]
def aboutOver (below : List Frame) : State where
  vm := { classes := classes, interned := interned.toArray }
  heap := heap
  slotsUsed := slotsUsed
  threads := #[{ frames := .invoking theMethod args0 :: below }]
def below0 : List Frame := [.native { method := ⟨0, 0⟩, args := #[] }]
def about1 : State := aboutOver below0
def p0 : Program := .bare "" "" ""
def e0 : Env := launch0.env 0 0 0
theorem w_frames : about1.frames = Frame.invoking theMethod args0 :: below0 := rfl
set_option maxRecDepth 65536 in
theorem w_args : argsFit about1.vm theMethod args0 = true := by decide +kernel
set_option maxRecDepth 65536 in
theorem w_heap : heapFits about1 = true := by decide +kernel
set_option maxRecDepth 65536 in
theorem w_runnable : about1.curStatus? = some .runnable := by decide +kernel
set_option maxRecDepth 65536 in
theorem w_alone : about1.alone = true := by decide +kernel
set_option maxRecDepth 65536 in
theorem w_named : about1.methodNamed? x = some theMethod := by decide +kernel
set_option maxRecDepth 65536 in
theorem w_hears : about1.hears theMethod below0 = true := by decide +kernel
set_option maxRecDepth 65536 in
theorem w_ripe : about1.ripe theMethod args0 below0 = true := by decide +kernel
theorem w_running : about1.status = .running := rfl
set_option maxRecDepth 65536 in
theorem w_room : about1.hasRoom e0.platform room_1 = true :=
  launch0.hasRoom_least _ room_1 (by decide +kernel) (by decide +kernel) (by decide +kernel) (by decide +kernel) (by decide +kernel) (by decide +kernel)
theorem allAtoms_all (ts : List Jvm.Cond) (a : Array Jvm.Value) (st : Jvm.State) : (allAtoms ts).before a st = ts.all (fun c => c.before a st) := by
  induction ts with
  | nil => rfl
  | cons c t ih =>
    show (Jvm.Cond.and c (allAtoms t)).before a st = _
    rw [Jvm.Cond.before_and, ih, List.all_cons]
def words1 : List Jvm.Cond := Jvm.Cond.code x code maxLocals ret :: tables_1
/-- a 'code' word, met by the world's own term for the bytes: nothing is compared byte by byte -/
theorem code_word {y : MethodName} {bytes : ByteArray} {mx : Nat} {rt : Option FieldType} {a : Array Value} {s : State} {m : MethodId} {meth : Method} {c : Code} (h1 : s.methodNamed? y = some m) (h2 : s.vm.method? m = some meth) (h3 : meth.code = some c) (h4 : c.code = bytes)
    (h5 : (c.maxLocals == mx && c.exceptionTable.isEmpty && decide (c.maxStack ≤ mostOperands) && decide (meth.sig.returnType = rt) && !meth.locks && decide (parseMethodDescriptor y.desc = some meth.sig)) = true) : (Jvm.Cond.code y bytes mx rt).before a s = true := by
  simp only [Bool.and_eq_true, beq_iff_eq, Bool.not_eq_true', decide_eq_true_eq] at h5
  obtain ⟨⟨⟨⟨⟨g1, g2⟩, g3⟩, g4⟩, g5⟩, g6⟩ := h5
  simp [Cond.before, Cond.holds, Cond.value, h1, h2, h3, h4, g1, g2, g3, g4, g5, g6]
def isCode : Jvm.Cond → Bool
  | .code _ _ _ _ => true
  | _ => false
theorem all_split {L : List Jvm.Cond} {P : Jvm.Cond → Bool} (h1 : L.all (fun c => isCode c || P c) = true) (h2 : ∀ c ∈ L.filter isCode, P c = true) : L.all P = true := by
  refine List.all_eq_true.mpr fun c hc => ?_
  have h := List.all_eq_true.mp h1 c hc
  rcases Bool.eq_false_or_eq_true (isCode c) with hi | hi
  · exact h2 c (List.mem_filter.mpr ⟨hc, hi⟩)
  · simpa [hi] using h
set_option maxRecDepth 65536 in
theorem w_c0 : (Jvm.Cond.code x code maxLocals ret).before args0 about1 = true := code_word (m := ⟨1, 3⟩) (meth := k1m3) (c := k1c3) (by decide +kernel) rfl rfl rfl (by decide +kernel)
set_option maxRecDepth 65536 in
theorem w_c1 : (Jvm.Cond.code ({ cls := "com/example/assured_timing/assuredtiming/simulation/Configuration", name := "hash", desc := "([JII)I" } : Jvm.MethodName) prog_101_method_19_code (6 : Nat) (Option.some Jvm.ClassFile.FieldType.int)).before args0 about1 = true := code_word (m := ⟨2, 0⟩) (meth := k2m0) (c := k2c0) (by decide +kernel) rfl rfl rfl (by decide +kernel)
set_option maxRecDepth 65536 in
theorem w_c2 : (Jvm.Cond.code ({ cls := "com/example/assured_timing/assuredtiming/simulation/ConfigurationHashPinLaw", name := "expected", desc := "(JJJI)I" } : Jvm.MethodName) method_3_code (11 : Nat) (Option.some Jvm.ClassFile.FieldType.int)).before args0 about1 = true := code_word (m := ⟨1, 2⟩) (meth := k1m2) (c := k1c2) (by decide +kernel) rfl rfl rfl (by decide +kernel)
set_option maxRecDepth 65536 in
theorem w_c3 : (Jvm.Cond.code ({ cls := "com/example/assured_timing/assuredtiming/simulation/ConfigurationHashPinLaw", name := "step", desc := "(JJ)J" } : Jvm.MethodName) method_2_code (4 : Nat) (Option.some Jvm.ClassFile.FieldType.long)).before args0 about1 = true := code_word (m := ⟨1, 1⟩) (meth := k1m1) (c := k1c1) (by decide +kernel) rfl rfl rfl (by decide +kernel)
def codes1 : List Jvm.Cond := [Jvm.Cond.code x code maxLocals ret, Jvm.Cond.code ({ cls := "com/example/assured_timing/assuredtiming/simulation/Configuration", name := "hash", desc := "([JII)I" } : Jvm.MethodName) prog_101_method_19_code (6 : Nat) (Option.some Jvm.ClassFile.FieldType.int), Jvm.Cond.code ({ cls := "com/example/assured_timing/assuredtiming/simulation/ConfigurationHashPinLaw", name := "expected", desc := "(JJJI)I" } : Jvm.MethodName) method_3_code (11 : Nat) (Option.some Jvm.ClassFile.FieldType.int), Jvm.Cond.code ({ cls := "com/example/assured_timing/assuredtiming/simulation/ConfigurationHashPinLaw", name := "step", desc := "(JJ)J" } : Jvm.MethodName) method_2_code (4 : Nat) (Option.some Jvm.ClassFile.FieldType.long)]
set_option maxRecDepth 65536 in
theorem codes_eq : words1.filter isCode = codes1 := rfl
theorem w_codes : ∀ c ∈ words1.filter isCode, c.before args0 about1 = true := by
  rw [codes_eq]
  intro c hc
  simp only [codes1, List.mem_cons, List.not_mem_nil, or_false] at hc
  rcases hc with rfl | rfl | rfl | rfl
  · exact w_c0
  · exact w_c1
  · exact w_c2
  · exact w_c3
set_option maxRecDepth 65536 in
theorem w_t1 : words1.all (fun c => isCode c || c.before args0 about1) = true := by decide +kernel
theorem w_tables : (allAtoms (Jvm.Cond.code x code maxLocals ret :: tables_1)).before args0 about1 = true := by
  rw [allAtoms_all]
  show words1.all (fun c => c.before args0 about1) = true
  refine all_split ?_ w_codes
  rw [w_t1]
set_option maxRecDepth 65536 in
theorem w_case : (Jvm.Cond.and given_1 narrow_1).before args0 about1 = true := by decide +kernel
theorem w_applies : (headSpec (Jvm.Cond.code x code maxLocals ret :: tables_1) room_1).applies x e0.platform about1 = true :=
  (Spec.applies_iff w_frames).mpr ⟨w_running, w_runnable, w_alone, w_named, w_hears, w_ripe, w_room, w_tables⟩
theorem atStart : AtStart classFile x code maxLocals ret World_1 tables_1 room_1 Calls_1 rest_1 Pre_1 launch0 p0 e0 about1 theMethod args0 below0 :=
  ⟨lists_1, trivial, launch0.admits_env _ _ _, launch0.least_env, fairChoices_fair.cas, fairChoices_fair.clock, w_frames, w_args, w_heap, w_applies, trivial, trivial, w_case⟩
end start1
theorem witness_1 : WitnessClaimed_1 := ⟨start1.p0, start1.e0, start1.about1, start1.theMethod, start1.args0, start1.below0, start1.atStart⟩
end Jvm.Pilot.@@N@@
