import JvmDerived
import JvmDerived.Pilot.@@N@@Statement
import JvmDerived.Pilot.@@N@@Code
set_option linter.unusedVariables false
set_option linter.unusedSimpArgs false
namespace Jvm.RoadKit
open Sem ClassFile Op Lib Jvm.Stand Jvm.Free Jvm.LawKit
section New
variable {p : Program} {l : Launch} {e : Env} {R : Room} {s : State} {m : MethodId} {args : Array Value} {below : List Frame} {meth : Method} {c : Code} {T : State} {locs : List Loc} {cells slots : Nat}
theorem retI (X : Stand p l e R s m args below meth c T locs cells slots) (hx : p.tables.exec = Jvm.exec) {pc : Nat} {Ls : Array Slot} {z : Int32} {rest : List Value} (hret : meth.sig.returnType = some .int) (hd : decode c.code pc = .ok (.ireturn, 1)) {fs : List Frame}
    (hl : ∀ (f : JFrame) (acts : List Action), f.method = m → f.locked = none → f.entered = [] → (doReturn e (T.setTop f) acts (some (.int z))).1 = T.setFrames fs) : Steps p.tables e below (T.setTop (mkF m pc Ls (.int z :: rest))) (T.setFrames fs) := by
  have hm' : T.vm.method? m = some meth := X.method'
  have hn : narrow .int (.int z) = .int z := rfl
  show Steps p.tables e below (T.setTop { method := m, pc := pc, locals := Ls, stack := _ :: rest, locked := none }) _
  jvm_step X.here [X.here.top, hx, hd, hm', hret, hn]
  first | (intro acts; rw [hl _ acts rfl rfl rfl]) | rw [hl _ _ rfl rfl rfl]
  exact Steps.refl _
end New
end Jvm.RoadKit
namespace Jvm.Pilot.@@N@@
open Jvm Jvm.ClassFile Sem Op Lib Jvm.Free Jvm.Stand Jvm.LawKit Jvm.RoadKit Bundle Jvm.Pilot.@@N@@.Jvm.D
/-- what the return with the value v leads to -/
def own_RetTo (e : Env) (T : State) (m : MethodId) (v : Option Value) (fs : List Frame) : Prop := ∀ (f : JFrame) (acts : List Action), f.method = m → f.locked = none → f.entered = [] → (doReturn e (T.setTop f) acts v).1 = T.setFrames fs
/-- an array by its length and the places that L names -/
def own_C (Z : State) (h : Heap) (a : Addr) (ty : FieldType) (n : Nat) (L : List (Nat × Value)) : Prop := ∃ c : Cell, Arr Z h a c ty ∧ c.slots.size = n ∧ ∀ q ∈ L, c.slots[q.1]? = some q.2
theorem own_C_new {Z : State} {h : Heap} {a : Addr} {k : ClassId} {z : Int32} {n : Nat} {ty : FieldType} (A : Arr Z h a (newA k ty z) ty) (q : z.toNatClampNeg = n) : own_C Z h a ty n [] := ⟨_, A, by rw [sz_new]; exact q, fun _ hq => nomatch hq⟩
theorem own_C_set0 {Z : State} {h h' : Heap} {a : Addr} {c : Cell} {n j : Nat} {ty : FieldType} {v : Value} {L : List (Nat × Value)} (A : Arr Z h a c ty) (S : c.slots.size = n) (I : ∀ q ∈ L, c.slots[q.1]? = some q.2) (W : Wr h h' a j v) : own_C Z h' a ty n [] :=
  ⟨_, A.same W, by show (c.slots.setIfInBounds j v).size = n; rw [Array.size_setIfInBounds]; exact S, fun _ hq => nomatch hq⟩
theorem own_C_set {Z : State} {h h' : Heap} {a : Addr} {c : Cell} {n j : Nat} {ty : FieldType} {v : Value} {L : List (Nat × Value)} (hj : j < n) (hne : ∀ q ∈ L, q.1 ≠ j) (A : Arr Z h a c ty) (S : c.slots.size = n) (I : ∀ q ∈ L, c.slots[q.1]? = some q.2) (W : Wr h h' a j v) : own_C Z h' a ty n ((j, v) :: L) :=
  ⟨_, A.same W, by show (c.slots.setIfInBounds j v).size = n; rw [Array.size_setIfInBounds]; exact S, fun q hq => by
    show (c.slots.setIfInBounds j v)[q.1]? = some q.2
    rw [Array.getElem?_setIfInBounds]
    rcases List.mem_cons.mp hq with rfl | hq
    · rw [if_pos rfl, if_pos (by rw [S]; exact hj)]
    · rw [if_neg (fun r => hne q hq r.symm)]; exact I q hq⟩
/-- a place of an array, as the machine asks it -/
theorem own_in {c : Cell} {n : Nat} {j : Int32} (S : c.slots.size = n) (h1 : 0 ≤ j.toInt) (h2 : j.toNatClampNeg < n) : ¬ (j < 0 ∨ c.slots.size ≤ j.toNatClampNeg) := by
  rw [S, Int32.lt_iff_toInt_lt, show (0 : Int32).toInt = 0 from rfl]; omega
theorem d1_0 : decode prog_41_method_6_code 0 = .ok (.aload_n 0, 1) := by decide +kernel
theorem d1_1 : decode prog_41_method_6_code 1 = .ok (.iload_n 1, 1) := by decide +kernel
theorem d1_2 : decode prog_41_method_6_code 2 = .ok (.baload, 1) := by decide +kernel
theorem d1_3 : decode prog_41_method_6_code 3 = .ok (.sipush 255, 3) := by decide +kernel
theorem d1_6 : decode prog_41_method_6_code 6 = .ok (.iand, 1) := by decide +kernel
theorem d1_7 : decode prog_41_method_6_code 7 = .ok (.aload_n 0, 1) := by decide +kernel
theorem d1_8 : decode prog_41_method_6_code 8 = .ok (.iload_n 1, 1) := by decide +kernel
theorem d1_9 : decode prog_41_method_6_code 9 = .ok (.iconst 1, 1) := by decide +kernel
theorem d1_10 : decode prog_41_method_6_code 10 = .ok (.iadd, 1) := by decide +kernel
theorem d1_11 : decode prog_41_method_6_code 11 = .ok (.baload, 1) := by decide +kernel
theorem d1_12 : decode prog_41_method_6_code 12 = .ok (.sipush 255, 3) := by decide +kernel
theorem d1_15 : decode prog_41_method_6_code 15 = .ok (.iand, 1) := by decide +kernel
theorem d1_16 : decode prog_41_method_6_code 16 = .ok (.bipush 8, 2) := by decide +kernel
theorem d1_18 : decode prog_41_method_6_code 18 = .ok (.ishl, 1) := by decide +kernel
theorem d1_19 : decode prog_41_method_6_code 19 = .ok (.ior, 1) := by decide +kernel
theorem d1_20 : decode prog_41_method_6_code 20 = .ok (.aload_n 0, 1) := by decide +kernel
theorem d1_21 : decode prog_41_method_6_code 21 = .ok (.iload_n 1, 1) := by decide +kernel
theorem d1_22 : decode prog_41_method_6_code 22 = .ok (.iconst 2, 1) := by decide +kernel
theorem d1_23 : decode prog_41_method_6_code 23 = .ok (.iadd, 1) := by decide +kernel
theorem d1_24 : decode prog_41_method_6_code 24 = .ok (.baload, 1) := by decide +kernel
theorem d1_25 : decode prog_41_method_6_code 25 = .ok (.sipush 255, 3) := by decide +kernel
theorem d1_28 : decode prog_41_method_6_code 28 = .ok (.iand, 1) := by decide +kernel
theorem d1_29 : decode prog_41_method_6_code 29 = .ok (.bipush 16, 2) := by decide +kernel
theorem d1_31 : decode prog_41_method_6_code 31 = .ok (.ishl, 1) := by decide +kernel
theorem d1_32 : decode prog_41_method_6_code 32 = .ok (.ior, 1) := by decide +kernel
theorem d1_33 : decode prog_41_method_6_code 33 = .ok (.aload_n 0, 1) := by decide +kernel
theorem d1_34 : decode prog_41_method_6_code 34 = .ok (.iload_n 1, 1) := by decide +kernel
theorem d1_35 : decode prog_41_method_6_code 35 = .ok (.iconst 3, 1) := by decide +kernel
theorem d1_36 : decode prog_41_method_6_code 36 = .ok (.iadd, 1) := by decide +kernel
theorem d1_37 : decode prog_41_method_6_code 37 = .ok (.baload, 1) := by decide +kernel
theorem d1_38 : decode prog_41_method_6_code 38 = .ok (.sipush 255, 3) := by decide +kernel
theorem d1_41 : decode prog_41_method_6_code 41 = .ok (.iand, 1) := by decide +kernel
theorem d1_42 : decode prog_41_method_6_code 42 = .ok (.bipush 24, 2) := by decide +kernel
theorem d1_44 : decode prog_41_method_6_code 44 = .ok (.ishl, 1) := by decide +kernel
theorem d1_45 : decode prog_41_method_6_code 45 = .ok (.ior, 1) := by decide +kernel
theorem d1_46 : decode prog_41_method_6_code 46 = .ok (.ireturn, 1) := by decide +kernel
theorem pn_0 : plainName "com/example/joinwright/joinwright/ParquetColumn" = true := by first | (simp [plainName, overriddenIn]; done) | decide +kernel
theorem ef_1 (m : MethodId) (x0 : Addr) (x1 : Int32) : entryFrame m #[(.ref x0), (.int x1)] 2 = mkF m 0 #[.val (.ref x0), .val (.int x1)] [] := by first | (simp [entryFrame, mkF, argsToLocals, Value.category]; done) | rfl
def Q1 (Z : State) (o0 : Addr) (i1 : Int32) (cl : Cell) (w0 : Int32) (w1 : Int32) (w2 : Int32) (w3 : Int32) (h0 : Heap) (n0 : Nat) (v : Option Value) (h : Heap) (L : List Loc) : Prop := v = some (.int ((((w0 &&& (255 : Int32)) ||| ((w1 &&& (255 : Int32)) <<< ((8 : Int32) &&& 31))) ||| ((w2 &&& (255 : Int32)) <<< ((16 : Int32) &&& 31))) ||| ((w3 &&& (255 : Int32)) <<< ((24 : Int32) &&& 31)))) ∧ Fr n0 L ∧ h = h0
set_option maxRecDepth 65536 in
set_option maxHeartbeats 40000000 in
theorem rm1 (l : Launch) (Z : State) (a0 : Array Value) (hw : ∀ d ∈ tables_1, d.before a0 Z = true) (ws : List Jvm.Cond) (o0 : Addr) (i1 : Int32) (cl : Cell) (w0 : Int32) (w1 : Int32) (w2 : Int32) (w3 : Int32) (h0 : Heap) (n0 : Nat) (Ar : Arr Z h0 o0 cl .byte) (hin0 : ¬ (i1 < 0 ∨ cl.slots.size ≤ (i1).toNatClampNeg)) (hin1 : ¬ ((i1 + (1 : Int32)) < 0 ∨ cl.slots.size ≤ ((i1 + (1 : Int32))).toNatClampNeg)) (hin2 : ¬ ((i1 + (2 : Int32)) < 0 ∨ cl.slots.size ≤ ((i1 + (2 : Int32))).toNatClampNeg)) (hin3 : ¬ ((i1 + (3 : Int32)) < 0 ∨ cl.slots.size ≤ ((i1 + (3 : Int32))).toNatClampNeg)) (hat0 : cl.slots[(i1).toNatClampNeg]? = some (.int w0)) (hat1 : cl.slots[((i1 + (1 : Int32))).toNatClampNeg]? = some (.int w1)) (hat2 : cl.slots[((i1 + (2 : Int32))).toNatClampNeg]? = some (.int w2)) (hat3 : cl.slots[((i1 + (3 : Int32))).toNatClampNeg]? = some (.int w3)) :
    MetFree l (⟨"com/example/joinwright/joinwright/ParquetColumn", "littleInt", "([BI)I"⟩ : MethodName) (head1 (Jvm.Cond.code (⟨"com/example/joinwright/joinwright/ParquetColumn", "littleInt", "([BI)I"⟩ : MethodName) prog_41_method_6_code 2 (some .int) :: ws) ({ frames := 0, cells := 0, slots := 0, locals := 0 } : Room)) (fun a U => a = #[(.ref o0), (.int i1)] ∧ Z.Warmed39 U.vm ∧ U.heap = h0) (fun _ _ _ _ _ => True) (fun _ U o U' => ∃ v L, o = .returned v ∧ Q1 Z o0 i1 cl w0 w1 w2 w3 h0 n0 v U'.heap L ∧ FrameEnd U o U' L ({ frames := 0, cells := 0, slots := 0, locals := 0 } : Room).cells ({ frames := 0, cells := 0, slots := 0, locals := 0 } : Room).slots) := by
  refine MetFree.of_bodySF (plainFor_of_name pn_0) hisR ?_
  intro p e s m args below meth c s₁ Bd hml0 hP hK
  obtain ⟨rfl, hZ, hh⟩ := hP
  have hx := Bd.exec
  have hby := Bd.bytes
  have hml : c.maxLocals = 2 := hml0
  have hown : s.vm.findClass "com/example/joinwright/joinwright/ParquetColumn" = some m.cls := findClass_of_methodNamed Bd.named
  have hnm := (name_of_methodNamed Bd.named Bd.method).1
  have X0 : Stand p l e ({ frames := 0, cells := 0, slots := 0, locals := 0 } : Room) s m #[(.ref o0), (.int i1)] below meth c s₁ [] 0 0 := Stand.of_body Bd
  have e0 : s₁.heap = h0 := by rw [← hh, Bd.state]; rfl
  have N0 := Fr.nil n0
  have pre0 : ∀ t, Steps p.tables e below (s₁.setTop (mkF m 0 #[.val (.ref o0), .val (.int i1)] [])) t → Steps p.tables e below (s₁.setTop (entryFrame m #[(.ref o0), (.int i1)] 2)) t := fun t k => castTop (ef_1 m o0 i1) k
  obtain ⟨fs, hr, hrun, hended, hW, hsame⟩ := X0.leave (v := some (.int ((((w0 &&& (255 : Int32)) ||| ((w1 &&& (255 : Int32)) <<< ((8 : Int32) &&& 31))) ||| ((w2 &&& (255 : Int32)) <<< ((16 : Int32) &&& 31))) ||| ((w3 &&& (255 : Int32)) <<< ((24 : Int32) &&& 31))))) (fun h => by rw [Bd.returns] at h; cases h)
  refine ⟨_, _, pre0 _ ?_, hrun, hended, _, _, rfl, ?_, ⟨_, rfl⟩, hW, hsame.mono (by decide) (by decide)⟩
  · show Steps p.tables e below (s₁.setTop (mkF m 0 #[.val (.ref o0), .val (.int i1)] [])) _
    refine XS.aloadN X0.here hx rfl (hb hby d1_0) rfl rfl ?_
    show Steps p.tables e below (s₁.setTop (mkF m 1 #[.val (.ref o0), .val (.int i1)] [(.ref o0)])) _
    refine XS.iloadN X0.here hx rfl (hb hby d1_1) rfl ?_
    show Steps p.tables e below (s₁.setTop (mkF m 2 #[.val (.ref o0), .val (.int i1)] [(.int i1), (.ref o0)])) _
    refine X0.baloadBytes hx (j := i1) (v := (.int w0)) (by rw [e0]; exact Ar.1) (State.isArrayOf_alike hZ.alike Ar.2.1) Ar.2.2 hin0 hat0 (g := (mkF m 2 #[.val (.ref o0), .val (.int i1)] [(.int i1), (.ref o0)])) rfl rfl (hb hby d1_2) _ ?_
    show Steps p.tables e below (s₁.setTop (mkF m 3 #[.val (.ref o0), .val (.int i1)] [(.int w0)])) _
    refine XS.sipush X0.here hx rfl (hb hby d1_3) ?_
    show Steps p.tables e below (s₁.setTop (mkF m 6 #[.val (.ref o0), .val (.int i1)] [(.int (255 : Int32)), (.int w0)])) _
    refine XS.iand X0.here hx rfl (hb hby d1_6) rfl ?_
    show Steps p.tables e below (s₁.setTop (mkF m 7 #[.val (.ref o0), .val (.int i1)] [(.int (w0 &&& (255 : Int32)))])) _
    refine XS.aloadN X0.here hx rfl (hb hby d1_7) rfl rfl ?_
    show Steps p.tables e below (s₁.setTop (mkF m 8 #[.val (.ref o0), .val (.int i1)] [(.ref o0), (.int (w0 &&& (255 : Int32)))])) _
    refine XS.iloadN X0.here hx rfl (hb hby d1_8) rfl ?_
    show Steps p.tables e below (s₁.setTop (mkF m 9 #[.val (.ref o0), .val (.int i1)] [(.int i1), (.ref o0), (.int (w0 &&& (255 : Int32)))])) _
    refine XS.iconst X0.here hx rfl (hb hby d1_9) ?_
    show Steps p.tables e below (s₁.setTop (mkF m 10 #[.val (.ref o0), .val (.int i1)] [(.int (1 : Int32)), (.int i1), (.ref o0), (.int (w0 &&& (255 : Int32)))])) _
    refine XS.iadd X0.here hx rfl (hb hby d1_10) rfl ?_
    show Steps p.tables e below (s₁.setTop (mkF m 11 #[.val (.ref o0), .val (.int i1)] [(.int (i1 + (1 : Int32))), (.ref o0), (.int (w0 &&& (255 : Int32)))])) _
    refine X0.baloadBytes hx (j := (i1 + (1 : Int32))) (v := (.int w1)) (by rw [e0]; exact Ar.1) (State.isArrayOf_alike hZ.alike Ar.2.1) Ar.2.2 hin1 hat1 (g := (mkF m 11 #[.val (.ref o0), .val (.int i1)] [(.int (i1 + (1 : Int32))), (.ref o0), (.int (w0 &&& (255 : Int32)))])) rfl rfl (hb hby d1_11) _ ?_
    show Steps p.tables e below (s₁.setTop (mkF m 12 #[.val (.ref o0), .val (.int i1)] [(.int w1), (.int (w0 &&& (255 : Int32)))])) _
    refine XS.sipush X0.here hx rfl (hb hby d1_12) ?_
    show Steps p.tables e below (s₁.setTop (mkF m 15 #[.val (.ref o0), .val (.int i1)] [(.int (255 : Int32)), (.int w1), (.int (w0 &&& (255 : Int32)))])) _
    refine XS.iand X0.here hx rfl (hb hby d1_15) rfl ?_
    show Steps p.tables e below (s₁.setTop (mkF m 16 #[.val (.ref o0), .val (.int i1)] [(.int (w1 &&& (255 : Int32))), (.int (w0 &&& (255 : Int32)))])) _
    refine XS.bipush X0.here hx rfl (hb hby d1_16) ?_
    show Steps p.tables e below (s₁.setTop (mkF m 18 #[.val (.ref o0), .val (.int i1)] [(.int (8 : Int32)), (.int (w1 &&& (255 : Int32))), (.int (w0 &&& (255 : Int32)))])) _
    refine XS.ishl X0.here hx rfl (hb hby d1_18) rfl ?_
    show Steps p.tables e below (s₁.setTop (mkF m 19 #[.val (.ref o0), .val (.int i1)] [(.int ((w1 &&& (255 : Int32)) <<< ((8 : Int32) &&& 31))), (.int (w0 &&& (255 : Int32)))])) _
    refine XS.ior X0.here hx rfl (hb hby d1_19) rfl ?_
    show Steps p.tables e below (s₁.setTop (mkF m 20 #[.val (.ref o0), .val (.int i1)] [(.int ((w0 &&& (255 : Int32)) ||| ((w1 &&& (255 : Int32)) <<< ((8 : Int32) &&& 31))))])) _
    refine XS.aloadN X0.here hx rfl (hb hby d1_20) rfl rfl ?_
    show Steps p.tables e below (s₁.setTop (mkF m 21 #[.val (.ref o0), .val (.int i1)] [(.ref o0), (.int ((w0 &&& (255 : Int32)) ||| ((w1 &&& (255 : Int32)) <<< ((8 : Int32) &&& 31))))])) _
    refine XS.iloadN X0.here hx rfl (hb hby d1_21) rfl ?_
    show Steps p.tables e below (s₁.setTop (mkF m 22 #[.val (.ref o0), .val (.int i1)] [(.int i1), (.ref o0), (.int ((w0 &&& (255 : Int32)) ||| ((w1 &&& (255 : Int32)) <<< ((8 : Int32) &&& 31))))])) _
    refine XS.iconst X0.here hx rfl (hb hby d1_22) ?_
    show Steps p.tables e below (s₁.setTop (mkF m 23 #[.val (.ref o0), .val (.int i1)] [(.int (2 : Int32)), (.int i1), (.ref o0), (.int ((w0 &&& (255 : Int32)) ||| ((w1 &&& (255 : Int32)) <<< ((8 : Int32) &&& 31))))])) _
    refine XS.iadd X0.here hx rfl (hb hby d1_23) rfl ?_
    show Steps p.tables e below (s₁.setTop (mkF m 24 #[.val (.ref o0), .val (.int i1)] [(.int (i1 + (2 : Int32))), (.ref o0), (.int ((w0 &&& (255 : Int32)) ||| ((w1 &&& (255 : Int32)) <<< ((8 : Int32) &&& 31))))])) _
    refine X0.baloadBytes hx (j := (i1 + (2 : Int32))) (v := (.int w2)) (by rw [e0]; exact Ar.1) (State.isArrayOf_alike hZ.alike Ar.2.1) Ar.2.2 hin2 hat2 (g := (mkF m 24 #[.val (.ref o0), .val (.int i1)] [(.int (i1 + (2 : Int32))), (.ref o0), (.int ((w0 &&& (255 : Int32)) ||| ((w1 &&& (255 : Int32)) <<< ((8 : Int32) &&& 31))))])) rfl rfl (hb hby d1_24) _ ?_
    show Steps p.tables e below (s₁.setTop (mkF m 25 #[.val (.ref o0), .val (.int i1)] [(.int w2), (.int ((w0 &&& (255 : Int32)) ||| ((w1 &&& (255 : Int32)) <<< ((8 : Int32) &&& 31))))])) _
    refine XS.sipush X0.here hx rfl (hb hby d1_25) ?_
    show Steps p.tables e below (s₁.setTop (mkF m 28 #[.val (.ref o0), .val (.int i1)] [(.int (255 : Int32)), (.int w2), (.int ((w0 &&& (255 : Int32)) ||| ((w1 &&& (255 : Int32)) <<< ((8 : Int32) &&& 31))))])) _
    refine XS.iand X0.here hx rfl (hb hby d1_28) rfl ?_
    show Steps p.tables e below (s₁.setTop (mkF m 29 #[.val (.ref o0), .val (.int i1)] [(.int (w2 &&& (255 : Int32))), (.int ((w0 &&& (255 : Int32)) ||| ((w1 &&& (255 : Int32)) <<< ((8 : Int32) &&& 31))))])) _
    refine XS.bipush X0.here hx rfl (hb hby d1_29) ?_
    show Steps p.tables e below (s₁.setTop (mkF m 31 #[.val (.ref o0), .val (.int i1)] [(.int (16 : Int32)), (.int (w2 &&& (255 : Int32))), (.int ((w0 &&& (255 : Int32)) ||| ((w1 &&& (255 : Int32)) <<< ((8 : Int32) &&& 31))))])) _
    refine XS.ishl X0.here hx rfl (hb hby d1_31) rfl ?_
    show Steps p.tables e below (s₁.setTop (mkF m 32 #[.val (.ref o0), .val (.int i1)] [(.int ((w2 &&& (255 : Int32)) <<< ((16 : Int32) &&& 31))), (.int ((w0 &&& (255 : Int32)) ||| ((w1 &&& (255 : Int32)) <<< ((8 : Int32) &&& 31))))])) _
    refine XS.ior X0.here hx rfl (hb hby d1_32) rfl ?_
    show Steps p.tables e below (s₁.setTop (mkF m 33 #[.val (.ref o0), .val (.int i1)] [(.int (((w0 &&& (255 : Int32)) ||| ((w1 &&& (255 : Int32)) <<< ((8 : Int32) &&& 31))) ||| ((w2 &&& (255 : Int32)) <<< ((16 : Int32) &&& 31))))])) _
    refine XS.aloadN X0.here hx rfl (hb hby d1_33) rfl rfl ?_
    show Steps p.tables e below (s₁.setTop (mkF m 34 #[.val (.ref o0), .val (.int i1)] [(.ref o0), (.int (((w0 &&& (255 : Int32)) ||| ((w1 &&& (255 : Int32)) <<< ((8 : Int32) &&& 31))) ||| ((w2 &&& (255 : Int32)) <<< ((16 : Int32) &&& 31))))])) _
    refine XS.iloadN X0.here hx rfl (hb hby d1_34) rfl ?_
    show Steps p.tables e below (s₁.setTop (mkF m 35 #[.val (.ref o0), .val (.int i1)] [(.int i1), (.ref o0), (.int (((w0 &&& (255 : Int32)) ||| ((w1 &&& (255 : Int32)) <<< ((8 : Int32) &&& 31))) ||| ((w2 &&& (255 : Int32)) <<< ((16 : Int32) &&& 31))))])) _
    refine XS.iconst X0.here hx rfl (hb hby d1_35) ?_
    show Steps p.tables e below (s₁.setTop (mkF m 36 #[.val (.ref o0), .val (.int i1)] [(.int (3 : Int32)), (.int i1), (.ref o0), (.int (((w0 &&& (255 : Int32)) ||| ((w1 &&& (255 : Int32)) <<< ((8 : Int32) &&& 31))) ||| ((w2 &&& (255 : Int32)) <<< ((16 : Int32) &&& 31))))])) _
    refine XS.iadd X0.here hx rfl (hb hby d1_36) rfl ?_
    show Steps p.tables e below (s₁.setTop (mkF m 37 #[.val (.ref o0), .val (.int i1)] [(.int (i1 + (3 : Int32))), (.ref o0), (.int (((w0 &&& (255 : Int32)) ||| ((w1 &&& (255 : Int32)) <<< ((8 : Int32) &&& 31))) ||| ((w2 &&& (255 : Int32)) <<< ((16 : Int32) &&& 31))))])) _
    refine X0.baloadBytes hx (j := (i1 + (3 : Int32))) (v := (.int w3)) (by rw [e0]; exact Ar.1) (State.isArrayOf_alike hZ.alike Ar.2.1) Ar.2.2 hin3 hat3 (g := (mkF m 37 #[.val (.ref o0), .val (.int i1)] [(.int (i1 + (3 : Int32))), (.ref o0), (.int (((w0 &&& (255 : Int32)) ||| ((w1 &&& (255 : Int32)) <<< ((8 : Int32) &&& 31))) ||| ((w2 &&& (255 : Int32)) <<< ((16 : Int32) &&& 31))))])) rfl rfl (hb hby d1_37) _ ?_
    show Steps p.tables e below (s₁.setTop (mkF m 38 #[.val (.ref o0), .val (.int i1)] [(.int w3), (.int (((w0 &&& (255 : Int32)) ||| ((w1 &&& (255 : Int32)) <<< ((8 : Int32) &&& 31))) ||| ((w2 &&& (255 : Int32)) <<< ((16 : Int32) &&& 31))))])) _
    refine XS.sipush X0.here hx rfl (hb hby d1_38) ?_
    show Steps p.tables e below (s₁.setTop (mkF m 41 #[.val (.ref o0), .val (.int i1)] [(.int (255 : Int32)), (.int w3), (.int (((w0 &&& (255 : Int32)) ||| ((w1 &&& (255 : Int32)) <<< ((8 : Int32) &&& 31))) ||| ((w2 &&& (255 : Int32)) <<< ((16 : Int32) &&& 31))))])) _
    refine XS.iand X0.here hx rfl (hb hby d1_41) rfl ?_
    show Steps p.tables e below (s₁.setTop (mkF m 42 #[.val (.ref o0), .val (.int i1)] [(.int (w3 &&& (255 : Int32))), (.int (((w0 &&& (255 : Int32)) ||| ((w1 &&& (255 : Int32)) <<< ((8 : Int32) &&& 31))) ||| ((w2 &&& (255 : Int32)) <<< ((16 : Int32) &&& 31))))])) _
    refine XS.bipush X0.here hx rfl (hb hby d1_42) ?_
    show Steps p.tables e below (s₁.setTop (mkF m 44 #[.val (.ref o0), .val (.int i1)] [(.int (24 : Int32)), (.int (w3 &&& (255 : Int32))), (.int (((w0 &&& (255 : Int32)) ||| ((w1 &&& (255 : Int32)) <<< ((8 : Int32) &&& 31))) ||| ((w2 &&& (255 : Int32)) <<< ((16 : Int32) &&& 31))))])) _
    refine XS.ishl X0.here hx rfl (hb hby d1_44) rfl ?_
    show Steps p.tables e below (s₁.setTop (mkF m 45 #[.val (.ref o0), .val (.int i1)] [(.int ((w3 &&& (255 : Int32)) <<< ((24 : Int32) &&& 31))), (.int (((w0 &&& (255 : Int32)) ||| ((w1 &&& (255 : Int32)) <<< ((8 : Int32) &&& 31))) ||| ((w2 &&& (255 : Int32)) <<< ((16 : Int32) &&& 31))))])) _
    refine XS.ior X0.here hx rfl (hb hby d1_45) rfl ?_
    show Steps p.tables e below (s₁.setTop (mkF m 46 #[.val (.ref o0), .val (.int i1)] [(.int ((((w0 &&& (255 : Int32)) ||| ((w1 &&& (255 : Int32)) <<< ((8 : Int32) &&& 31))) ||| ((w2 &&& (255 : Int32)) <<< ((16 : Int32) &&& 31))) ||| ((w3 &&& (255 : Int32)) <<< ((24 : Int32) &&& 31))))])) _
    exact retI X0 hx Bd.returns (hb hby d1_46) hr
  · show Q1 Z o0 i1 cl w0 w1 w2 w3 h0 n0 _ s₁.heap _
    rw [e0]
    exact ⟨rfl, N0, rfl⟩
theorem own_at (uw : Int32) : 0 ≤ ((uw &&& (2147483647 : Int32)) % (5 : Int32)).toInt ∧ ((uw &&& (2147483647 : Int32)) % (5 : Int32)).toInt ≤ 4 := by
  have h1 := c_mask uw 2147483647 31 (by decide) (by decide)
  have h2 := (c_irem (uw &&& 2147483647) 5 5 rfl).1
  omega
theorem own_add (a : Int32) (h1 : 0 ≤ a.toInt) (h2 : a.toInt ≤ 4) (k : Int32) (h3 : 0 ≤ k.toInt) (h4 : k.toInt ≤ 3) : 0 ≤ (a + k).toInt ∧ (a + k).toInt = a.toInt + k.toInt := by
  have q := c_iadd a k
  have r := rng32 (a + k)
  omega
theorem own_pl (uw k : Int32) (h3 : 0 ≤ k.toInt) (h4 : k.toInt ≤ 3) : 0 ≤ (((uw &&& (2147483647 : Int32)) % (5 : Int32)) + k).toInt ∧ (((uw &&& (2147483647 : Int32)) % (5 : Int32)) + k).toNatClampNeg = ((uw &&& (2147483647 : Int32)) % (5 : Int32)).toNatClampNeg + k.toInt.toNat ∧ (((uw &&& (2147483647 : Int32)) % (5 : Int32)) + k).toNatClampNeg < 8 := by
  have a := own_at uw
  have b := own_add _ a.1 a.2 k h3 h4
  simp only [Int32.toNatClampNeg]
  omega
theorem own_p0 (uw : Int32) : ((uw &&& (2147483647 : Int32)) % (5 : Int32)).toNatClampNeg < 8 := by
  have a := own_at uw
  simp only [Int32.toNatClampNeg]
  omega
theorem own_m255 : ∀ i : Fin 32, (255#32).getLsbD i.val = decide (i.val < 8) := by decide
theorem own_bits (b : BitVec 32) : (((b &&& 255#32) ||| (((b >>> 8) &&& 255#32) <<< 8)) ||| (((b >>> 16) &&& 255#32) <<< 16)) ||| (((b >>> 24) &&& 255#32) <<< 24) = b := by
  apply BitVec.eq_of_getLsbD_eq
  intro i hi
  have m : ∀ j, j < 32 → (255#32).getLsbD j = decide (j < 8) := fun j hj => own_m255 ⟨j, hj⟩
  simp only [BitVec.getLsbD_or, BitVec.getLsbD_and, BitVec.getLsbD_shiftLeft, BitVec.getLsbD_ushiftRight]
  rw [m i hi, m (i - 8) (by omega), m (i - 16) (by omega), m (i - 24) (by omega)]
  by_cases h1 : i < 8
  · have a1 : i < 16 := by omega
    have a2 : i < 24 := by omega
    simp [h1, a1, a2]
  · by_cases h2 : i < 16
    · have a0 : 8 + (i - 8) = i := by omega
      have a1 : i - 8 < 8 := by omega
      have a2 : i < 24 := by omega
      simp [h1, h2, a0, a1, a2, hi]
    · by_cases h3 : i < 24
      · have a0 : 16 + (i - 16) = i := by omega
        have a1 : i - 16 < 8 := by omega
        have a2 : ¬ i - 8 < 8 := by omega
        simp [h1, h2, h3, a0, a1, a2, hi]
      · have a0 : 24 + (i - 24) = i := by omega
        have a1 : i - 24 < 8 := by omega
        have a2 : ¬ i - 8 < 8 := by omega
        have a3 : ¬ i - 16 < 8 := by omega
        simp [h1, h2, h3, a0, a1, a2, a3, hi]
theorem own_byte (y : Int32) : (nar .byte (y.toInt8.toInt32) &&& (255 : Int32)).toInt = y.toInt % 256 := by
  show ((y.toInt8.toInt32).toInt8.toInt32 &&& (255 : Int32)).toInt = _
  have h1 := c_mask ((y.toInt8.toInt32).toInt8.toInt32) 255 8 (by decide) (by decide)
  have h2 := c_i2b (y.toInt8.toInt32)
  have h3 := c_i2b y
  omega
theorem own_bv (uv y : Int32) (k : Nat) (h : y.toInt = (uv.toInt % 4294967296) / (2 ^ k : Nat) % 256) : y.toBitVec = (uv.toBitVec >>> k) &&& 255#32 := by
  apply BitVec.eq_of_toNat_eq
  rw [BitVec.toNat_and, BitVec.toNat_ushiftRight, Nat.shiftRight_eq_div_pow, show (255#32).toNat = 2 ^ 8 - 1 from rfl, Nat.and_two_pow_sub_one_eq_mod]
  have e1 : y.toInt = y.toBitVec.toInt := rfl
  have e2 : uv.toInt = uv.toBitVec.toInt := rfl
  rw [e1, e2, BitVec.toInt_eq_toNat_cond, BitVec.toInt_eq_toNat_cond] at h
  have q1 := y.toBitVec.isLt
  have q2 := uv.toBitVec.isLt
  have e3 : (if 2 * uv.toBitVec.toNat < 2 ^ 32 then (uv.toBitVec.toNat : Int) else (uv.toBitVec.toNat : Int) - ((2 ^ 32 : Nat) : Int)) % 4294967296 = (uv.toBitVec.toNat : Int) := by split <;> omega
  rw [e3, ← Int.natCast_ediv] at h
  generalize uv.toBitVec.toNat / 2 ^ k = z at *
  split at h <;> omega
theorem own_sh8 : ((8 : Int32) &&& 31).toBitVec.smod 32 = 8#32 := by decide
theorem own_sh16 : ((16 : Int32) &&& 31).toBitVec.smod 32 = 16#32 := by decide
theorem own_sh24 : ((24 : Int32) &&& 31).toBitVec.smod 32 = 24#32 := by decide
theorem own_whole (uv : Int32) : (((((nar .byte (uv.toInt8.toInt32)) &&& (255 : Int32)) ||| (((nar .byte (((uv.toUInt32 >>> ((8 : Int32) &&& 31).toUInt32).toInt32).toInt8.toInt32)) &&& (255 : Int32)) <<< ((8 : Int32) &&& 31))) ||| (((nar .byte (((uv.toUInt32 >>> ((16 : Int32) &&& 31).toUInt32).toInt32).toInt8.toInt32)) &&& (255 : Int32)) <<< ((16 : Int32) &&& 31))) ||| (((nar .byte (((uv.toUInt32 >>> ((24 : Int32) &&& 31).toUInt32).toInt32).toInt8.toInt32)) &&& (255 : Int32)) <<< ((24 : Int32) &&& 31))) = uv := by
  have a0 := own_byte uv
  have a1 := own_byte ((uv.toUInt32 >>> ((8 : Int32) &&& 31).toUInt32).toInt32)
  have a2 := own_byte ((uv.toUInt32 >>> ((16 : Int32) &&& 31).toUInt32).toInt32)
  have a3 := own_byte ((uv.toUInt32 >>> ((24 : Int32) &&& 31).toUInt32).toInt32)
  rw [c_iushr uv 8 8 (by decide) (by decide)] at a1
  rw [c_iushr uv 16 16 (by decide) (by decide)] at a2
  rw [c_iushr uv 24 24 (by decide) (by decide)] at a3
  have b0 := own_bv uv _ 0 (by rw [a0]; omega)
  have b1 := own_bv uv _ 8 a1
  have b2 := own_bv uv _ 16 a2
  have b3 := own_bv uv _ 24 a3
  apply Int32.toBitVec_inj.mp
  have e := own_bits uv.toBitVec
  rw [← b1, ← b2, ← b3] at e
  rw [show uv.toBitVec &&& 255#32 = (uv.toBitVec >>> 0) &&& 255#32 from rfl, ← b0] at e
  refine Eq.trans ?_ e
  simp only [Int32.toBitVec_or, Int32.toBitVec_shiftLeft, own_sh8, own_sh16, own_sh24]
  rfl
theorem pd_0 : parseMethodDescriptor "([BI)I" = some ⟨[(.array .byte), .int], some .int⟩ := by decide +kernel
theorem pn_1 : plainName "com/example/joinwright/joinwright/ParquetColumnLittleIntPinLaw" = true := by first | (simp [plainName, overriddenIn]; done) | decide +kernel
theorem ef_0 (m : MethodId) (x0 : Int32) (x1 : Int32) (x2 : Int64) : entryFrame m #[(.int x0), (.int x1), (.long x2)] maxLocals = mkF m 0 #[.val (.int x0), .val (.int x1), .val (.long x2), .second, .unset, .unset] [] := by first | (simp [entryFrame, mkF, argsToLocals, Value.category, maxLocals]; done) | rfl
def Q0 (Z : State) (uv : Int32) (uw : Int32) (un : Int64) (h0 : Heap) (n0 : Nat) (v : Option Value) (h : Heap) (L : List Loc) : Prop := v = some (.int (1 : Int32)) ∧ Fr n0 L
set_option maxRecDepth 65536 in
set_option maxHeartbeats 40000000 in
theorem rm0 (l : Launch) (Z : State) (a0 : Array Value) (hw : ∀ d ∈ tables_1, d.before a0 Z = true) (ws : List Jvm.Cond) (uv : Int32) (uw : Int32) (un : Int64) (h0 : Heap) (n0 : Nat) (Z0 : n0 ≤ h0.size) :
    MetFree l x (head1 (Jvm.Cond.code x code maxLocals ret :: ws) room_1) (fun a U => a = #[(.int uv), (.int uw), (.long un)] ∧ Z.Warmed39 U.vm ∧ U.heap = h0) (fun _ _ _ _ _ => True) (fun _ U o U' => ∃ v L, o = .returned v ∧ Q0 Z uv uw un h0 n0 v U'.heap L ∧ FrameEnd U o U' L 1 8) := by
  refine MetFree.of_bodySF (plainFor_of_name pn_1) hisR ?_
  intro p e s m args below meth c s₁ Bd hml0 hP hK
  obtain ⟨rfl, hZ, hh⟩ := hP
  have hx := Bd.exec
  have hby := Bd.bytes
  have hml : c.maxLocals = 6 := hml0
  have hown : s.vm.findClass "com/example/joinwright/joinwright/ParquetColumnLittleIntPinLaw" = some m.cls := findClass_of_methodNamed Bd.named
  have hnm := (name_of_methodNamed Bd.named Bd.method).1
  have X0 : Stand p l e room_1 s m #[(.int uv), (.int uw), (.long un)] below meth c s₁ [] 0 0 := Stand.of_body Bd
  have e0 : s₁.heap = h0 := by rw [← hh, Bd.state]; rfl
  have N0 := Fr.nil n0
  have pre0 : ∀ t, Steps p.tables e below (s₁.setTop (mkF m 0 #[.val (.int uv), .val (.int uw), .val (.long un), .second, .unset, .unset] [])) t → Steps p.tables e below (s₁.setTop (entryFrame m #[(.int uv), (.int uw), (.long un)] maxLocals)) t := fun t k => castTop (ef_0 m uv uw un) k
  obtain ⟨T1, h1, k1, X1, e1, E1, A1, st1⟩ := newP X0 hx hZ (hw _ (List.mem_of_getElem? (i := 0) rfl)) e0 (g := (mkF m 2 #[.val (.int uv), .val (.int uw), .val (.long un), .second, .unset, .unset] [(.int (8 : Int32))])) rfl (hb hby at_2) rfl (by decide) (cap := 8) (by decide) (by decide) (by decide) (by decide)
  obtain ⟨bb, sz_bb⟩ : ∃ z, z = h0.size := ⟨_, rfl⟩
  rw [← sz_bb] at A1 st1
  have g_bb : n0 ≤ bb := Nat.le_trans Z0 (Nat.le_of_eq sz_bb.symm)
  have Zp2 : n0 ≤ h1.size := Nat.le_trans Z0 E1.1
  have Vn := own_C_new A1 (n := 8) rfl
  obtain ⟨cl3, Ar3, S3, I3⟩ := Vn
  obtain ⟨T3, h3, X3, e3, W3, st3⟩ := stB X1 hx hZ e1 Ar3 (j := (0 : Int32)) (by rw [S3]; decide) (g := (mkF m 12 #[.val (.int uv), .val (.int uw), .val (.long un), .second, .val (.ref bb), .unset] [(.int ((un.toInt32).toInt8.toInt32)), (.int (0 : Int32)), (.ref bb)])) rfl rfl (hb hby at_12)
  have V3 := own_C_set0 Ar3 S3 I3 W3
  have N3f := Fr.snoc X3 N0 g_bb
  obtain ⟨cl4, Ar4, S4, I4⟩ := V3
  obtain ⟨T4, h4, X4, e4, W4, st4⟩ := stB X3 hx hZ e3 Ar4 (j := (1 : Int32)) (by rw [S4]; decide) (g := (mkF m 22 #[.val (.int uv), .val (.int uw), .val (.long un), .second, .val (.ref bb), .unset] [(.int ((((un.toUInt64 >>> ((8 : Int32) &&& 0x3f).toInt64.toUInt64).toInt64).toInt32).toInt8.toInt32)), (.int (1 : Int32)), (.ref bb)])) rfl rfl (hb hby at_22)
  have V4 := own_C_set0 Ar4 S4 I4 W4
  have N4f := Fr.snoc X4 N3f g_bb
  obtain ⟨cl5, Ar5, S5, I5⟩ := V4
  obtain ⟨T5, h5, X5, e5, W5, st5⟩ := stB X4 hx hZ e4 Ar5 (j := (2 : Int32)) (by rw [S5]; decide) (g := (mkF m 32 #[.val (.int uv), .val (.int uw), .val (.long un), .second, .val (.ref bb), .unset] [(.int ((((un.toUInt64 >>> ((16 : Int32) &&& 0x3f).toInt64.toUInt64).toInt64).toInt32).toInt8.toInt32)), (.int (2 : Int32)), (.ref bb)])) rfl rfl (hb hby at_32)
  have V5 := own_C_set0 Ar5 S5 I5 W5
  have N5f := Fr.snoc X5 N4f g_bb
  obtain ⟨cl6, Ar6, S6, I6⟩ := V5
  obtain ⟨T6, h6, X6, e6, W6, st6⟩ := stB X5 hx hZ e5 Ar6 (j := (3 : Int32)) (by rw [S6]; decide) (g := (mkF m 42 #[.val (.int uv), .val (.int uw), .val (.long un), .second, .val (.ref bb), .unset] [(.int ((((un.toUInt64 >>> ((24 : Int32) &&& 0x3f).toInt64.toUInt64).toInt64).toInt32).toInt8.toInt32)), (.int (3 : Int32)), (.ref bb)])) rfl rfl (hb hby at_42)
  have V6 := own_C_set0 Ar6 S6 I6 W6
  have N6f := Fr.snoc X6 N5f g_bb
  obtain ⟨cl7, Ar7, S7, I7⟩ := V6
  obtain ⟨T7, h7, X7, e7, W7, st7⟩ := stB X6 hx hZ e6 Ar7 (j := (4 : Int32)) (by rw [S7]; decide) (g := (mkF m 52 #[.val (.int uv), .val (.int uw), .val (.long un), .second, .val (.ref bb), .unset] [(.int ((((un.toUInt64 >>> ((32 : Int32) &&& 0x3f).toInt64.toUInt64).toInt64).toInt32).toInt8.toInt32)), (.int (4 : Int32)), (.ref bb)])) rfl rfl (hb hby at_52)
  have V7 := own_C_set0 Ar7 S7 I7 W7
  have N7f := Fr.snoc X7 N6f g_bb
  obtain ⟨cl8, Ar8, S8, I8⟩ := V7
  obtain ⟨T8, h8, X8, e8, W8, st8⟩ := stB X7 hx hZ e7 Ar8 (j := (5 : Int32)) (by rw [S8]; decide) (g := (mkF m 62 #[.val (.int uv), .val (.int uw), .val (.long un), .second, .val (.ref bb), .unset] [(.int ((((un.toUInt64 >>> ((40 : Int32) &&& 0x3f).toInt64.toUInt64).toInt64).toInt32).toInt8.toInt32)), (.int (5 : Int32)), (.ref bb)])) rfl rfl (hb hby at_62)
  have V8 := own_C_set0 Ar8 S8 I8 W8
  have N8f := Fr.snoc X8 N7f g_bb
  obtain ⟨cl9, Ar9, S9, I9⟩ := V8
  obtain ⟨T9, h9, X9, e9, W9, st9⟩ := stB X8 hx hZ e8 Ar9 (j := (6 : Int32)) (by rw [S9]; decide) (g := (mkF m 73 #[.val (.int uv), .val (.int uw), .val (.long un), .second, .val (.ref bb), .unset] [(.int ((((un.toUInt64 >>> ((48 : Int32) &&& 0x3f).toInt64.toUInt64).toInt64).toInt32).toInt8.toInt32)), (.int (6 : Int32)), (.ref bb)])) rfl rfl (hb hby at_73)
  have V9 := own_C_set0 Ar9 S9 I9 W9
  have N9f := Fr.snoc X9 N8f g_bb
  obtain ⟨cl10, Ar10, S10, I10⟩ := V9
  obtain ⟨T10, h10, X10, e10, W10, st10⟩ := stB X9 hx hZ e9 Ar10 (j := (7 : Int32)) (by rw [S10]; decide) (g := (mkF m 84 #[.val (.int uv), .val (.int uw), .val (.long un), .second, .val (.ref bb), .unset] [(.int ((((un.toUInt64 >>> ((56 : Int32) &&& 0x3f).toInt64.toUInt64).toInt64).toInt32).toInt8.toInt32)), (.int (7 : Int32)), (.ref bb)])) rfl rfl (hb hby at_84)
  have V10 := own_C_set0 Ar10 S10 I10 W10
  have N10f := Fr.snoc X10 N9f g_bb
  have q0 := own_p0 uw
  have q00 := (own_at uw).1
  have q1 := own_pl uw 1 (by decide) (by decide)
  have q2 := own_pl uw 2 (by decide) (by decide)
  have q3 := own_pl uw 3 (by decide) (by decide)
  have t1 : (1 : Int32).toInt.toNat = 1 := rfl
  have t2 : (2 : Int32).toInt.toNat = 2 := rfl
  have t3 : (3 : Int32).toInt.toNat = 3 := rfl
  obtain ⟨cl11, Ar11, S11, I11⟩ := V10
  obtain ⟨T11, h11, X11, e11, W11, st11⟩ := stB X10 hx hZ e10 Ar11 (j := ((uw &&& (2147483647 : Int32)) % (5 : Int32))) (own_in S11 q00 q0) (g := (mkF m 99 #[.val (.int uv), .val (.int uw), .val (.long un), .second, .val (.ref bb), .val (.int ((uw &&& (2147483647 : Int32)) % (5 : Int32)))] [(.int (uv.toInt8.toInt32)), (.int ((uw &&& (2147483647 : Int32)) % (5 : Int32))), (.ref bb)])) rfl rfl (hb hby at_99)
  have V11 := own_C_set (n := 8) q0 (by intro q hq; exact absurd hq List.not_mem_nil) Ar11 S11 I11 W11
  have N11f := Fr.snoc X11 N10f g_bb
  obtain ⟨cl12, Ar12, S12, I12⟩ := V11
  obtain ⟨T12, h12, X12, e12, W12, st12⟩ := stB X11 hx hZ e11 Ar12 (j := (((uw &&& (2147483647 : Int32)) % (5 : Int32)) + (1 : Int32))) (own_in S12 q1.1 q1.2.2) (g := (mkF m 111 #[.val (.int uv), .val (.int uw), .val (.long un), .second, .val (.ref bb), .val (.int ((uw &&& (2147483647 : Int32)) % (5 : Int32)))] [(.int (((uv.toUInt32 >>> ((8 : Int32) &&& 31).toUInt32).toInt32).toInt8.toInt32)), (.int (((uw &&& (2147483647 : Int32)) % (5 : Int32)) + (1 : Int32))), (.ref bb)])) rfl rfl (hb hby at_111)
  have V12 := own_C_set (n := 8) q1.2.2 (by
    intro q hq
    simp only [List.mem_cons, List.not_mem_nil, or_false] at hq
    rcases hq with rfl <;> (dsimp only; omega)) Ar12 S12 I12 W12
  have N12f := Fr.snoc X12 N11f g_bb
  obtain ⟨cl13, Ar13, S13, I13⟩ := V12
  obtain ⟨T13, h13, X13, e13, W13, st13⟩ := stB X12 hx hZ e12 Ar13 (j := (((uw &&& (2147483647 : Int32)) % (5 : Int32)) + (2 : Int32))) (own_in S13 q2.1 q2.2.2) (g := (mkF m 123 #[.val (.int uv), .val (.int uw), .val (.long un), .second, .val (.ref bb), .val (.int ((uw &&& (2147483647 : Int32)) % (5 : Int32)))] [(.int (((uv.toUInt32 >>> ((16 : Int32) &&& 31).toUInt32).toInt32).toInt8.toInt32)), (.int (((uw &&& (2147483647 : Int32)) % (5 : Int32)) + (2 : Int32))), (.ref bb)])) rfl rfl (hb hby at_123)
  have V13 := own_C_set (n := 8) q2.2.2 (by
    intro q hq
    simp only [List.mem_cons, List.not_mem_nil, or_false] at hq
    rcases hq with rfl | rfl <;> (dsimp only; omega)) Ar13 S13 I13 W13
  have N13f := Fr.snoc X13 N12f g_bb
  obtain ⟨cl14, Ar14, S14, I14⟩ := V13
  obtain ⟨T14, h14, X14, e14, W14, st14⟩ := stB X13 hx hZ e13 Ar14 (j := (((uw &&& (2147483647 : Int32)) % (5 : Int32)) + (3 : Int32))) (own_in S14 q3.1 q3.2.2) (g := (mkF m 135 #[.val (.int uv), .val (.int uw), .val (.long un), .second, .val (.ref bb), .val (.int ((uw &&& (2147483647 : Int32)) % (5 : Int32)))] [(.int (((uv.toUInt32 >>> ((24 : Int32) &&& 31).toUInt32).toInt32).toInt8.toInt32)), (.int (((uw &&& (2147483647 : Int32)) % (5 : Int32)) + (3 : Int32))), (.ref bb)])) rfl rfl (hb hby at_135)
  have V14 := own_C_set (n := 8) q3.2.2 (by
    intro q hq
    simp only [List.mem_cons, List.not_mem_nil, or_false] at hq
    rcases hq with rfl | rfl | rfl <;> (dsimp only; omega)) Ar14 S14 I14 W14
  have N14f := Fr.snoc X14 N13f g_bb
  obtain ⟨clz, Arz, Sz, Iz⟩ := V14
  have hat0 : clz.slots[(((uw &&& (2147483647 : Int32)) % (5 : Int32))).toNatClampNeg]? = some (.int (nar .byte (uv.toInt8.toInt32))) := Iz (_, _) (List.mem_of_getElem? (i := 3) rfl)
  have hat1 : clz.slots[((((uw &&& (2147483647 : Int32)) % (5 : Int32)) + (1 : Int32))).toNatClampNeg]? = some (.int (nar .byte (((uv.toUInt32 >>> ((8 : Int32) &&& 31).toUInt32).toInt32).toInt8.toInt32))) := Iz (_, _) (List.mem_of_getElem? (i := 2) rfl)
  have hat2 : clz.slots[((((uw &&& (2147483647 : Int32)) % (5 : Int32)) + (2 : Int32))).toNatClampNeg]? = some (.int (nar .byte (((uv.toUInt32 >>> ((16 : Int32) &&& 31).toUInt32).toInt32).toInt8.toInt32))) := Iz (_, _) (List.mem_of_getElem? (i := 1) rfl)
  have hat3 : clz.slots[((((uw &&& (2147483647 : Int32)) % (5 : Int32)) + (3 : Int32))).toNatClampNeg]? = some (.int (nar .byte (((uv.toUInt32 >>> ((24 : Int32) &&& 31).toUInt32).toInt32).toInt8.toInt32))) := Iz (_, _) (List.mem_of_getElem? (i := 0) rfl)
  have hin0 : ¬ (((uw &&& (2147483647 : Int32)) % (5 : Int32)) < 0 ∨ clz.slots.size ≤ (((uw &&& (2147483647 : Int32)) % (5 : Int32))).toNatClampNeg) := own_in Sz q00 q0
  have hin1 : ¬ ((((uw &&& (2147483647 : Int32)) % (5 : Int32)) + (1 : Int32)) < 0 ∨ clz.slots.size ≤ ((((uw &&& (2147483647 : Int32)) % (5 : Int32)) + (1 : Int32))).toNatClampNeg) := own_in Sz q1.1 q1.2.2
  have hin2 : ¬ ((((uw &&& (2147483647 : Int32)) % (5 : Int32)) + (2 : Int32)) < 0 ∨ clz.slots.size ≤ ((((uw &&& (2147483647 : Int32)) % (5 : Int32)) + (2 : Int32))).toNatClampNeg) := own_in Sz q2.1 q2.2.2
  have hin3 : ¬ ((((uw &&& (2147483647 : Int32)) % (5 : Int32)) + (3 : Int32)) < 0 ∨ clz.slots.size ≤ ((((uw &&& (2147483647 : Int32)) % (5 : Int32)) + (3 : Int32))).toNatClampNeg) := own_in Sz q3.1 q3.2.2
  obtain ⟨_, _, ⟨T15, L15, k15, n15⟩, -, X15, ⟨Lc15, hQ15, l15, y15, z15⟩, st15⟩ := Jvm.LawKit.callS X14 hx (y := (⟨"com/example/joinwright/joinwright/ParquetColumn", "littleInt", "([BI)I"⟩ : MethodName)) hown (mvT hZ (hw _ (List.mem_of_getElem? (i := 2) rfl))) (mvT hZ (hw _ (List.mem_of_getElem? (i := 3) rfl))) (mvT hZ (hw _ (List.mem_of_getElem? (i := 4) rfl))) (mvT hZ (hw _ (List.mem_of_getElem? (i := 5) rfl))) (by decide) (backOf (W := 0) (rm1 l Z a0 hw [] bb ((uw &&& (2147483647 : Int32)) % (5 : Int32)) clz (nar .byte (uv.toInt8.toInt32)) (nar .byte (((uv.toUInt32 >>> ((8 : Int32) &&& 31).toUInt32).toInt32).toInt8.toInt32)) (nar .byte (((uv.toUInt32 >>> ((16 : Int32) &&& 31).toUInt32).toInt32).toInt8.toInt32)) (nar .byte (((uv.toUInt32 >>> ((24 : Int32) &&& 31).toUInt32).toInt32).toInt8.toInt32)) h14 n0 Arz hin0 hin1 hin2 hin3 hat0 hat1 hat2 hat3) hZ (hw _ (List.mem_of_getElem? (i := 5) rfl)) (hw _ (List.mem_of_getElem? (i := 4) rfl)) (by decide) (by decide)) (g := (mkF m 140 #[.val (.int uv), .val (.int uw), .val (.long un), .second, .val (.ref bb), .val (.int ((uw &&& (2147483647 : Int32)) % (5 : Int32)))] [(.int ((uw &&& (2147483647 : Int32)) % (5 : Int32))), (.ref bb)])) rfl (by rw [hml]; rfl) (argsL := [(.ref bb), (.int ((uw &&& (2147483647 : Int32)) % (5 : Int32)))]) (rest := []) (lenOf pd_0 rfl) rfl (by show 2 * 0 + _ ≤ _; exact Nat.le_of_eq rfl) (hb hby at_140) (fun _ _ => ⟨rfl, e14, (by decide : 1 + 0 ≤ _), (by decide : 8 + 0 ≤ _)⟩)
  dsimp only [Pt.U, Pt.locs, Pt.cells, Pt.slots] at X15 l15 y15 z15 st15 hQ15
  subst l15 y15 z15
  obtain ⟨rfl, N15q, e15q⟩ := hQ15
  have N15 := Fr.app N14f N15q
  obtain ⟨fs, hr, hrun, hended, hW, hsame⟩ := X15.leave (v := some (.int (1 : Int32))) (fun h => by rw [Bd.returns] at h; cases h)
  refine ⟨_, _, pre0 _ ?_, hrun, hended, _, _, rfl, ?_, ⟨_, rfl⟩, hW, hsame.mono (by decide) (by decide)⟩
  · show Steps p.tables e below (s₁.setTop (mkF m 0 #[.val (.int uv), .val (.int uw), .val (.long un), .second, .unset, .unset] [])) _
    refine XS.bipush X0.here hx rfl (hb hby at_0) ?_
    show Steps p.tables e below (s₁.setTop (mkF m 2 #[.val (.int uv), .val (.int uw), .val (.long un), .second, .unset, .unset] [(.int (8 : Int32))])) _
    refine st1 _ ?_
    show Steps p.tables e below (T1.setTop (mkF m 4 #[.val (.int uv), .val (.int uw), .val (.long un), .second, .unset, .unset] [(.ref bb)])) _
    refine XS.astore X1.here hx rfl (hb hby at_4) rfl rfl (l' := #[.val (.int uv), .val (.int uw), .val (.long un), .second, .val (.ref bb), .unset]) rfl ?_
    show Steps p.tables e below (T1.setTop (mkF m 6 #[.val (.int uv), .val (.int uw), .val (.long un), .second, .val (.ref bb), .unset] [])) _
    refine XS.aload X1.here hx rfl (hb hby at_6) rfl rfl ?_
    show Steps p.tables e below (T1.setTop (mkF m 8 #[.val (.int uv), .val (.int uw), .val (.long un), .second, .val (.ref bb), .unset] [(.ref bb)])) _
    refine XS.iconst X1.here hx rfl (hb hby at_8) ?_
    show Steps p.tables e below (T1.setTop (mkF m 9 #[.val (.int uv), .val (.int uw), .val (.long un), .second, .val (.ref bb), .unset] [(.int (0 : Int32)), (.ref bb)])) _
    refine XS.lloadN X1.here hx rfl (hb hby at_9) rfl ?_
    show Steps p.tables e below (T1.setTop (mkF m 10 #[.val (.int uv), .val (.int uw), .val (.long un), .second, .val (.ref bb), .unset] [(.long un), (.int (0 : Int32)), (.ref bb)])) _
    refine XS.l2i X1.here hx rfl (hb hby at_10) rfl ?_
    show Steps p.tables e below (T1.setTop (mkF m 11 #[.val (.int uv), .val (.int uw), .val (.long un), .second, .val (.ref bb), .unset] [(.int (un.toInt32)), (.int (0 : Int32)), (.ref bb)])) _
    refine XS.i2b X1.here hx rfl (hb hby at_11) rfl ?_
    show Steps p.tables e below (T1.setTop (mkF m 12 #[.val (.int uv), .val (.int uw), .val (.long un), .second, .val (.ref bb), .unset] [(.int ((un.toInt32).toInt8.toInt32)), (.int (0 : Int32)), (.ref bb)])) _
    refine st3 _ ?_
    show Steps p.tables e below (T3.setTop (mkF m 13 #[.val (.int uv), .val (.int uw), .val (.long un), .second, .val (.ref bb), .unset] [])) _
    refine XS.aload X3.here hx rfl (hb hby at_13) rfl rfl ?_
    show Steps p.tables e below (T3.setTop (mkF m 15 #[.val (.int uv), .val (.int uw), .val (.long un), .second, .val (.ref bb), .unset] [(.ref bb)])) _
    refine XS.iconst X3.here hx rfl (hb hby at_15) ?_
    show Steps p.tables e below (T3.setTop (mkF m 16 #[.val (.int uv), .val (.int uw), .val (.long un), .second, .val (.ref bb), .unset] [(.int (1 : Int32)), (.ref bb)])) _
    refine XS.lloadN X3.here hx rfl (hb hby at_16) rfl ?_
    show Steps p.tables e below (T3.setTop (mkF m 17 #[.val (.int uv), .val (.int uw), .val (.long un), .second, .val (.ref bb), .unset] [(.long un), (.int (1 : Int32)), (.ref bb)])) _
    refine XS.bipush X3.here hx rfl (hb hby at_17) ?_
    show Steps p.tables e below (T3.setTop (mkF m 19 #[.val (.int uv), .val (.int uw), .val (.long un), .second, .val (.ref bb), .unset] [(.int (8 : Int32)), (.long un), (.int (1 : Int32)), (.ref bb)])) _
    refine XS.lushr X3.here hx rfl (hb hby at_19) rfl ?_
    show Steps p.tables e below (T3.setTop (mkF m 20 #[.val (.int uv), .val (.int uw), .val (.long un), .second, .val (.ref bb), .unset] [(.long ((un.toUInt64 >>> ((8 : Int32) &&& 0x3f).toInt64.toUInt64).toInt64)), (.int (1 : Int32)), (.ref bb)])) _
    refine XS.l2i X3.here hx rfl (hb hby at_20) rfl ?_
    show Steps p.tables e below (T3.setTop (mkF m 21 #[.val (.int uv), .val (.int uw), .val (.long un), .second, .val (.ref bb), .unset] [(.int (((un.toUInt64 >>> ((8 : Int32) &&& 0x3f).toInt64.toUInt64).toInt64).toInt32)), (.int (1 : Int32)), (.ref bb)])) _
    refine XS.i2b X3.here hx rfl (hb hby at_21) rfl ?_
    show Steps p.tables e below (T3.setTop (mkF m 22 #[.val (.int uv), .val (.int uw), .val (.long un), .second, .val (.ref bb), .unset] [(.int ((((un.toUInt64 >>> ((8 : Int32) &&& 0x3f).toInt64.toUInt64).toInt64).toInt32).toInt8.toInt32)), (.int (1 : Int32)), (.ref bb)])) _
    refine st4 _ ?_
    show Steps p.tables e below (T4.setTop (mkF m 23 #[.val (.int uv), .val (.int uw), .val (.long un), .second, .val (.ref bb), .unset] [])) _
    refine XS.aload X4.here hx rfl (hb hby at_23) rfl rfl ?_
    show Steps p.tables e below (T4.setTop (mkF m 25 #[.val (.int uv), .val (.int uw), .val (.long un), .second, .val (.ref bb), .unset] [(.ref bb)])) _
    refine XS.iconst X4.here hx rfl (hb hby at_25) ?_
    show Steps p.tables e below (T4.setTop (mkF m 26 #[.val (.int uv), .val (.int uw), .val (.long un), .second, .val (.ref bb), .unset] [(.int (2 : Int32)), (.ref bb)])) _
    refine XS.lloadN X4.here hx rfl (hb hby at_26) rfl ?_
    show Steps p.tables e below (T4.setTop (mkF m 27 #[.val (.int uv), .val (.int uw), .val (.long un), .second, .val (.ref bb), .unset] [(.long un), (.int (2 : Int32)), (.ref bb)])) _
    refine XS.bipush X4.here hx rfl (hb hby at_27) ?_
    show Steps p.tables e below (T4.setTop (mkF m 29 #[.val (.int uv), .val (.int uw), .val (.long un), .second, .val (.ref bb), .unset] [(.int (16 : Int32)), (.long un), (.int (2 : Int32)), (.ref bb)])) _
    refine XS.lushr X4.here hx rfl (hb hby at_29) rfl ?_
    show Steps p.tables e below (T4.setTop (mkF m 30 #[.val (.int uv), .val (.int uw), .val (.long un), .second, .val (.ref bb), .unset] [(.long ((un.toUInt64 >>> ((16 : Int32) &&& 0x3f).toInt64.toUInt64).toInt64)), (.int (2 : Int32)), (.ref bb)])) _
    refine XS.l2i X4.here hx rfl (hb hby at_30) rfl ?_
    show Steps p.tables e below (T4.setTop (mkF m 31 #[.val (.int uv), .val (.int uw), .val (.long un), .second, .val (.ref bb), .unset] [(.int (((un.toUInt64 >>> ((16 : Int32) &&& 0x3f).toInt64.toUInt64).toInt64).toInt32)), (.int (2 : Int32)), (.ref bb)])) _
    refine XS.i2b X4.here hx rfl (hb hby at_31) rfl ?_
    show Steps p.tables e below (T4.setTop (mkF m 32 #[.val (.int uv), .val (.int uw), .val (.long un), .second, .val (.ref bb), .unset] [(.int ((((un.toUInt64 >>> ((16 : Int32) &&& 0x3f).toInt64.toUInt64).toInt64).toInt32).toInt8.toInt32)), (.int (2 : Int32)), (.ref bb)])) _
    refine st5 _ ?_
    show Steps p.tables e below (T5.setTop (mkF m 33 #[.val (.int uv), .val (.int uw), .val (.long un), .second, .val (.ref bb), .unset] [])) _
    refine XS.aload X5.here hx rfl (hb hby at_33) rfl rfl ?_
    show Steps p.tables e below (T5.setTop (mkF m 35 #[.val (.int uv), .val (.int uw), .val (.long un), .second, .val (.ref bb), .unset] [(.ref bb)])) _
    refine XS.iconst X5.here hx rfl (hb hby at_35) ?_
    show Steps p.tables e below (T5.setTop (mkF m 36 #[.val (.int uv), .val (.int uw), .val (.long un), .second, .val (.ref bb), .unset] [(.int (3 : Int32)), (.ref bb)])) _
    refine XS.lloadN X5.here hx rfl (hb hby at_36) rfl ?_
    show Steps p.tables e below (T5.setTop (mkF m 37 #[.val (.int uv), .val (.int uw), .val (.long un), .second, .val (.ref bb), .unset] [(.long un), (.int (3 : Int32)), (.ref bb)])) _
    refine XS.bipush X5.here hx rfl (hb hby at_37) ?_
    show Steps p.tables e below (T5.setTop (mkF m 39 #[.val (.int uv), .val (.int uw), .val (.long un), .second, .val (.ref bb), .unset] [(.int (24 : Int32)), (.long un), (.int (3 : Int32)), (.ref bb)])) _
    refine XS.lushr X5.here hx rfl (hb hby at_39) rfl ?_
    show Steps p.tables e below (T5.setTop (mkF m 40 #[.val (.int uv), .val (.int uw), .val (.long un), .second, .val (.ref bb), .unset] [(.long ((un.toUInt64 >>> ((24 : Int32) &&& 0x3f).toInt64.toUInt64).toInt64)), (.int (3 : Int32)), (.ref bb)])) _
    refine XS.l2i X5.here hx rfl (hb hby at_40) rfl ?_
    show Steps p.tables e below (T5.setTop (mkF m 41 #[.val (.int uv), .val (.int uw), .val (.long un), .second, .val (.ref bb), .unset] [(.int (((un.toUInt64 >>> ((24 : Int32) &&& 0x3f).toInt64.toUInt64).toInt64).toInt32)), (.int (3 : Int32)), (.ref bb)])) _
    refine XS.i2b X5.here hx rfl (hb hby at_41) rfl ?_
    show Steps p.tables e below (T5.setTop (mkF m 42 #[.val (.int uv), .val (.int uw), .val (.long un), .second, .val (.ref bb), .unset] [(.int ((((un.toUInt64 >>> ((24 : Int32) &&& 0x3f).toInt64.toUInt64).toInt64).toInt32).toInt8.toInt32)), (.int (3 : Int32)), (.ref bb)])) _
    refine st6 _ ?_
    show Steps p.tables e below (T6.setTop (mkF m 43 #[.val (.int uv), .val (.int uw), .val (.long un), .second, .val (.ref bb), .unset] [])) _
    refine XS.aload X6.here hx rfl (hb hby at_43) rfl rfl ?_
    show Steps p.tables e below (T6.setTop (mkF m 45 #[.val (.int uv), .val (.int uw), .val (.long un), .second, .val (.ref bb), .unset] [(.ref bb)])) _
    refine XS.iconst X6.here hx rfl (hb hby at_45) ?_
    show Steps p.tables e below (T6.setTop (mkF m 46 #[.val (.int uv), .val (.int uw), .val (.long un), .second, .val (.ref bb), .unset] [(.int (4 : Int32)), (.ref bb)])) _
    refine XS.lloadN X6.here hx rfl (hb hby at_46) rfl ?_
    show Steps p.tables e below (T6.setTop (mkF m 47 #[.val (.int uv), .val (.int uw), .val (.long un), .second, .val (.ref bb), .unset] [(.long un), (.int (4 : Int32)), (.ref bb)])) _
    refine XS.bipush X6.here hx rfl (hb hby at_47) ?_
    show Steps p.tables e below (T6.setTop (mkF m 49 #[.val (.int uv), .val (.int uw), .val (.long un), .second, .val (.ref bb), .unset] [(.int (32 : Int32)), (.long un), (.int (4 : Int32)), (.ref bb)])) _
    refine XS.lushr X6.here hx rfl (hb hby at_49) rfl ?_
    show Steps p.tables e below (T6.setTop (mkF m 50 #[.val (.int uv), .val (.int uw), .val (.long un), .second, .val (.ref bb), .unset] [(.long ((un.toUInt64 >>> ((32 : Int32) &&& 0x3f).toInt64.toUInt64).toInt64)), (.int (4 : Int32)), (.ref bb)])) _
    refine XS.l2i X6.here hx rfl (hb hby at_50) rfl ?_
    show Steps p.tables e below (T6.setTop (mkF m 51 #[.val (.int uv), .val (.int uw), .val (.long un), .second, .val (.ref bb), .unset] [(.int (((un.toUInt64 >>> ((32 : Int32) &&& 0x3f).toInt64.toUInt64).toInt64).toInt32)), (.int (4 : Int32)), (.ref bb)])) _
    refine XS.i2b X6.here hx rfl (hb hby at_51) rfl ?_
    show Steps p.tables e below (T6.setTop (mkF m 52 #[.val (.int uv), .val (.int uw), .val (.long un), .second, .val (.ref bb), .unset] [(.int ((((un.toUInt64 >>> ((32 : Int32) &&& 0x3f).toInt64.toUInt64).toInt64).toInt32).toInt8.toInt32)), (.int (4 : Int32)), (.ref bb)])) _
    refine st7 _ ?_
    show Steps p.tables e below (T7.setTop (mkF m 53 #[.val (.int uv), .val (.int uw), .val (.long un), .second, .val (.ref bb), .unset] [])) _
    refine XS.aload X7.here hx rfl (hb hby at_53) rfl rfl ?_
    show Steps p.tables e below (T7.setTop (mkF m 55 #[.val (.int uv), .val (.int uw), .val (.long un), .second, .val (.ref bb), .unset] [(.ref bb)])) _
    refine XS.iconst X7.here hx rfl (hb hby at_55) ?_
    show Steps p.tables e below (T7.setTop (mkF m 56 #[.val (.int uv), .val (.int uw), .val (.long un), .second, .val (.ref bb), .unset] [(.int (5 : Int32)), (.ref bb)])) _
    refine XS.lloadN X7.here hx rfl (hb hby at_56) rfl ?_
    show Steps p.tables e below (T7.setTop (mkF m 57 #[.val (.int uv), .val (.int uw), .val (.long un), .second, .val (.ref bb), .unset] [(.long un), (.int (5 : Int32)), (.ref bb)])) _
    refine XS.bipush X7.here hx rfl (hb hby at_57) ?_
    show Steps p.tables e below (T7.setTop (mkF m 59 #[.val (.int uv), .val (.int uw), .val (.long un), .second, .val (.ref bb), .unset] [(.int (40 : Int32)), (.long un), (.int (5 : Int32)), (.ref bb)])) _
    refine XS.lushr X7.here hx rfl (hb hby at_59) rfl ?_
    show Steps p.tables e below (T7.setTop (mkF m 60 #[.val (.int uv), .val (.int uw), .val (.long un), .second, .val (.ref bb), .unset] [(.long ((un.toUInt64 >>> ((40 : Int32) &&& 0x3f).toInt64.toUInt64).toInt64)), (.int (5 : Int32)), (.ref bb)])) _
    refine XS.l2i X7.here hx rfl (hb hby at_60) rfl ?_
    show Steps p.tables e below (T7.setTop (mkF m 61 #[.val (.int uv), .val (.int uw), .val (.long un), .second, .val (.ref bb), .unset] [(.int (((un.toUInt64 >>> ((40 : Int32) &&& 0x3f).toInt64.toUInt64).toInt64).toInt32)), (.int (5 : Int32)), (.ref bb)])) _
    refine XS.i2b X7.here hx rfl (hb hby at_61) rfl ?_
    show Steps p.tables e below (T7.setTop (mkF m 62 #[.val (.int uv), .val (.int uw), .val (.long un), .second, .val (.ref bb), .unset] [(.int ((((un.toUInt64 >>> ((40 : Int32) &&& 0x3f).toInt64.toUInt64).toInt64).toInt32).toInt8.toInt32)), (.int (5 : Int32)), (.ref bb)])) _
    refine st8 _ ?_
    show Steps p.tables e below (T8.setTop (mkF m 63 #[.val (.int uv), .val (.int uw), .val (.long un), .second, .val (.ref bb), .unset] [])) _
    refine XS.aload X8.here hx rfl (hb hby at_63) rfl rfl ?_
    show Steps p.tables e below (T8.setTop (mkF m 65 #[.val (.int uv), .val (.int uw), .val (.long un), .second, .val (.ref bb), .unset] [(.ref bb)])) _
    refine XS.bipush X8.here hx rfl (hb hby at_65) ?_
    show Steps p.tables e below (T8.setTop (mkF m 67 #[.val (.int uv), .val (.int uw), .val (.long un), .second, .val (.ref bb), .unset] [(.int (6 : Int32)), (.ref bb)])) _
    refine XS.lloadN X8.here hx rfl (hb hby at_67) rfl ?_
    show Steps p.tables e below (T8.setTop (mkF m 68 #[.val (.int uv), .val (.int uw), .val (.long un), .second, .val (.ref bb), .unset] [(.long un), (.int (6 : Int32)), (.ref bb)])) _
    refine XS.bipush X8.here hx rfl (hb hby at_68) ?_
    show Steps p.tables e below (T8.setTop (mkF m 70 #[.val (.int uv), .val (.int uw), .val (.long un), .second, .val (.ref bb), .unset] [(.int (48 : Int32)), (.long un), (.int (6 : Int32)), (.ref bb)])) _
    refine XS.lushr X8.here hx rfl (hb hby at_70) rfl ?_
    show Steps p.tables e below (T8.setTop (mkF m 71 #[.val (.int uv), .val (.int uw), .val (.long un), .second, .val (.ref bb), .unset] [(.long ((un.toUInt64 >>> ((48 : Int32) &&& 0x3f).toInt64.toUInt64).toInt64)), (.int (6 : Int32)), (.ref bb)])) _
    refine XS.l2i X8.here hx rfl (hb hby at_71) rfl ?_
    show Steps p.tables e below (T8.setTop (mkF m 72 #[.val (.int uv), .val (.int uw), .val (.long un), .second, .val (.ref bb), .unset] [(.int (((un.toUInt64 >>> ((48 : Int32) &&& 0x3f).toInt64.toUInt64).toInt64).toInt32)), (.int (6 : Int32)), (.ref bb)])) _
    refine XS.i2b X8.here hx rfl (hb hby at_72) rfl ?_
    show Steps p.tables e below (T8.setTop (mkF m 73 #[.val (.int uv), .val (.int uw), .val (.long un), .second, .val (.ref bb), .unset] [(.int ((((un.toUInt64 >>> ((48 : Int32) &&& 0x3f).toInt64.toUInt64).toInt64).toInt32).toInt8.toInt32)), (.int (6 : Int32)), (.ref bb)])) _
    refine st9 _ ?_
    show Steps p.tables e below (T9.setTop (mkF m 74 #[.val (.int uv), .val (.int uw), .val (.long un), .second, .val (.ref bb), .unset] [])) _
    refine XS.aload X9.here hx rfl (hb hby at_74) rfl rfl ?_
    show Steps p.tables e below (T9.setTop (mkF m 76 #[.val (.int uv), .val (.int uw), .val (.long un), .second, .val (.ref bb), .unset] [(.ref bb)])) _
    refine XS.bipush X9.here hx rfl (hb hby at_76) ?_
    show Steps p.tables e below (T9.setTop (mkF m 78 #[.val (.int uv), .val (.int uw), .val (.long un), .second, .val (.ref bb), .unset] [(.int (7 : Int32)), (.ref bb)])) _
    refine XS.lloadN X9.here hx rfl (hb hby at_78) rfl ?_
    show Steps p.tables e below (T9.setTop (mkF m 79 #[.val (.int uv), .val (.int uw), .val (.long un), .second, .val (.ref bb), .unset] [(.long un), (.int (7 : Int32)), (.ref bb)])) _
    refine XS.bipush X9.here hx rfl (hb hby at_79) ?_
    show Steps p.tables e below (T9.setTop (mkF m 81 #[.val (.int uv), .val (.int uw), .val (.long un), .second, .val (.ref bb), .unset] [(.int (56 : Int32)), (.long un), (.int (7 : Int32)), (.ref bb)])) _
    refine XS.lushr X9.here hx rfl (hb hby at_81) rfl ?_
    show Steps p.tables e below (T9.setTop (mkF m 82 #[.val (.int uv), .val (.int uw), .val (.long un), .second, .val (.ref bb), .unset] [(.long ((un.toUInt64 >>> ((56 : Int32) &&& 0x3f).toInt64.toUInt64).toInt64)), (.int (7 : Int32)), (.ref bb)])) _
    refine XS.l2i X9.here hx rfl (hb hby at_82) rfl ?_
    show Steps p.tables e below (T9.setTop (mkF m 83 #[.val (.int uv), .val (.int uw), .val (.long un), .second, .val (.ref bb), .unset] [(.int (((un.toUInt64 >>> ((56 : Int32) &&& 0x3f).toInt64.toUInt64).toInt64).toInt32)), (.int (7 : Int32)), (.ref bb)])) _
    refine XS.i2b X9.here hx rfl (hb hby at_83) rfl ?_
    show Steps p.tables e below (T9.setTop (mkF m 84 #[.val (.int uv), .val (.int uw), .val (.long un), .second, .val (.ref bb), .unset] [(.int ((((un.toUInt64 >>> ((56 : Int32) &&& 0x3f).toInt64.toUInt64).toInt64).toInt32).toInt8.toInt32)), (.int (7 : Int32)), (.ref bb)])) _
    refine st10 _ ?_
    show Steps p.tables e below (T10.setTop (mkF m 85 #[.val (.int uv), .val (.int uw), .val (.long un), .second, .val (.ref bb), .unset] [])) _
    refine XS.iloadN X10.here hx rfl (hb hby at_85) rfl ?_
    show Steps p.tables e below (T10.setTop (mkF m 86 #[.val (.int uv), .val (.int uw), .val (.long un), .second, .val (.ref bb), .unset] [(.int uw)])) _
    refine X10.ldcInt hx hown (mvT hZ (hw _ (List.mem_of_getElem? (i := 1) rfl))) (g := (mkF m 86 #[.val (.int uv), .val (.int uw), .val (.long un), .second, .val (.ref bb), .unset] [(.int uw)])) rfl (hb hby at_86) _ ?_
    show Steps p.tables e below (T10.setTop (mkF m 88 #[.val (.int uv), .val (.int uw), .val (.long un), .second, .val (.ref bb), .unset] [(.int (2147483647 : Int32)), (.int uw)])) _
    refine XS.iand X10.here hx rfl (hb hby at_88) rfl ?_
    show Steps p.tables e below (T10.setTop (mkF m 89 #[.val (.int uv), .val (.int uw), .val (.long un), .second, .val (.ref bb), .unset] [(.int (uw &&& (2147483647 : Int32)))])) _
    refine XS.iconst X10.here hx rfl (hb hby at_89) ?_
    show Steps p.tables e below (T10.setTop (mkF m 90 #[.val (.int uv), .val (.int uw), .val (.long un), .second, .val (.ref bb), .unset] [(.int (5 : Int32)), (.int (uw &&& (2147483647 : Int32)))])) _
    refine iremM X10 hx rfl (hb hby at_90) rfl (by decide) ?_
    show Steps p.tables e below (T10.setTop (mkF m 91 #[.val (.int uv), .val (.int uw), .val (.long un), .second, .val (.ref bb), .unset] [(.int ((uw &&& (2147483647 : Int32)) % (5 : Int32)))])) _
    refine XS.istore X10.here hx rfl (hb hby at_91) rfl (l' := #[.val (.int uv), .val (.int uw), .val (.long un), .second, .val (.ref bb), .val (.int ((uw &&& (2147483647 : Int32)) % (5 : Int32)))]) rfl ?_
    show Steps p.tables e below (T10.setTop (mkF m 93 #[.val (.int uv), .val (.int uw), .val (.long un), .second, .val (.ref bb), .val (.int ((uw &&& (2147483647 : Int32)) % (5 : Int32)))] [])) _
    refine XS.aload X10.here hx rfl (hb hby at_93) rfl rfl ?_
    show Steps p.tables e below (T10.setTop (mkF m 95 #[.val (.int uv), .val (.int uw), .val (.long un), .second, .val (.ref bb), .val (.int ((uw &&& (2147483647 : Int32)) % (5 : Int32)))] [(.ref bb)])) _
    refine XS.iload X10.here hx rfl (hb hby at_95) rfl ?_
    show Steps p.tables e below (T10.setTop (mkF m 97 #[.val (.int uv), .val (.int uw), .val (.long un), .second, .val (.ref bb), .val (.int ((uw &&& (2147483647 : Int32)) % (5 : Int32)))] [(.int ((uw &&& (2147483647 : Int32)) % (5 : Int32))), (.ref bb)])) _
    refine XS.iloadN X10.here hx rfl (hb hby at_97) rfl ?_
    show Steps p.tables e below (T10.setTop (mkF m 98 #[.val (.int uv), .val (.int uw), .val (.long un), .second, .val (.ref bb), .val (.int ((uw &&& (2147483647 : Int32)) % (5 : Int32)))] [(.int uv), (.int ((uw &&& (2147483647 : Int32)) % (5 : Int32))), (.ref bb)])) _
    refine XS.i2b X10.here hx rfl (hb hby at_98) rfl ?_
    show Steps p.tables e below (T10.setTop (mkF m 99 #[.val (.int uv), .val (.int uw), .val (.long un), .second, .val (.ref bb), .val (.int ((uw &&& (2147483647 : Int32)) % (5 : Int32)))] [(.int (uv.toInt8.toInt32)), (.int ((uw &&& (2147483647 : Int32)) % (5 : Int32))), (.ref bb)])) _
    refine st11 _ ?_
    show Steps p.tables e below (T11.setTop (mkF m 100 #[.val (.int uv), .val (.int uw), .val (.long un), .second, .val (.ref bb), .val (.int ((uw &&& (2147483647 : Int32)) % (5 : Int32)))] [])) _
    refine XS.aload X11.here hx rfl (hb hby at_100) rfl rfl ?_
    show Steps p.tables e below (T11.setTop (mkF m 102 #[.val (.int uv), .val (.int uw), .val (.long un), .second, .val (.ref bb), .val (.int ((uw &&& (2147483647 : Int32)) % (5 : Int32)))] [(.ref bb)])) _
    refine XS.iload X11.here hx rfl (hb hby at_102) rfl ?_
    show Steps p.tables e below (T11.setTop (mkF m 104 #[.val (.int uv), .val (.int uw), .val (.long un), .second, .val (.ref bb), .val (.int ((uw &&& (2147483647 : Int32)) % (5 : Int32)))] [(.int ((uw &&& (2147483647 : Int32)) % (5 : Int32))), (.ref bb)])) _
    refine XS.iconst X11.here hx rfl (hb hby at_104) ?_
    show Steps p.tables e below (T11.setTop (mkF m 105 #[.val (.int uv), .val (.int uw), .val (.long un), .second, .val (.ref bb), .val (.int ((uw &&& (2147483647 : Int32)) % (5 : Int32)))] [(.int (1 : Int32)), (.int ((uw &&& (2147483647 : Int32)) % (5 : Int32))), (.ref bb)])) _
    refine XS.iadd X11.here hx rfl (hb hby at_105) rfl ?_
    show Steps p.tables e below (T11.setTop (mkF m 106 #[.val (.int uv), .val (.int uw), .val (.long un), .second, .val (.ref bb), .val (.int ((uw &&& (2147483647 : Int32)) % (5 : Int32)))] [(.int (((uw &&& (2147483647 : Int32)) % (5 : Int32)) + (1 : Int32))), (.ref bb)])) _
    refine XS.iloadN X11.here hx rfl (hb hby at_106) rfl ?_
    show Steps p.tables e below (T11.setTop (mkF m 107 #[.val (.int uv), .val (.int uw), .val (.long un), .second, .val (.ref bb), .val (.int ((uw &&& (2147483647 : Int32)) % (5 : Int32)))] [(.int uv), (.int (((uw &&& (2147483647 : Int32)) % (5 : Int32)) + (1 : Int32))), (.ref bb)])) _
    refine XS.bipush X11.here hx rfl (hb hby at_107) ?_
    show Steps p.tables e below (T11.setTop (mkF m 109 #[.val (.int uv), .val (.int uw), .val (.long un), .second, .val (.ref bb), .val (.int ((uw &&& (2147483647 : Int32)) % (5 : Int32)))] [(.int (8 : Int32)), (.int uv), (.int (((uw &&& (2147483647 : Int32)) % (5 : Int32)) + (1 : Int32))), (.ref bb)])) _
    refine XS.iushr X11.here hx rfl (hb hby at_109) rfl ?_
    show Steps p.tables e below (T11.setTop (mkF m 110 #[.val (.int uv), .val (.int uw), .val (.long un), .second, .val (.ref bb), .val (.int ((uw &&& (2147483647 : Int32)) % (5 : Int32)))] [(.int ((uv.toUInt32 >>> ((8 : Int32) &&& 31).toUInt32).toInt32)), (.int (((uw &&& (2147483647 : Int32)) % (5 : Int32)) + (1 : Int32))), (.ref bb)])) _
    refine XS.i2b X11.here hx rfl (hb hby at_110) rfl ?_
    show Steps p.tables e below (T11.setTop (mkF m 111 #[.val (.int uv), .val (.int uw), .val (.long un), .second, .val (.ref bb), .val (.int ((uw &&& (2147483647 : Int32)) % (5 : Int32)))] [(.int (((uv.toUInt32 >>> ((8 : Int32) &&& 31).toUInt32).toInt32).toInt8.toInt32)), (.int (((uw &&& (2147483647 : Int32)) % (5 : Int32)) + (1 : Int32))), (.ref bb)])) _
    refine st12 _ ?_
    show Steps p.tables e below (T12.setTop (mkF m 112 #[.val (.int uv), .val (.int uw), .val (.long un), .second, .val (.ref bb), .val (.int ((uw &&& (2147483647 : Int32)) % (5 : Int32)))] [])) _
    refine XS.aload X12.here hx rfl (hb hby at_112) rfl rfl ?_
    show Steps p.tables e below (T12.setTop (mkF m 114 #[.val (.int uv), .val (.int uw), .val (.long un), .second, .val (.ref bb), .val (.int ((uw &&& (2147483647 : Int32)) % (5 : Int32)))] [(.ref bb)])) _
    refine XS.iload X12.here hx rfl (hb hby at_114) rfl ?_
    show Steps p.tables e below (T12.setTop (mkF m 116 #[.val (.int uv), .val (.int uw), .val (.long un), .second, .val (.ref bb), .val (.int ((uw &&& (2147483647 : Int32)) % (5 : Int32)))] [(.int ((uw &&& (2147483647 : Int32)) % (5 : Int32))), (.ref bb)])) _
    refine XS.iconst X12.here hx rfl (hb hby at_116) ?_
    show Steps p.tables e below (T12.setTop (mkF m 117 #[.val (.int uv), .val (.int uw), .val (.long un), .second, .val (.ref bb), .val (.int ((uw &&& (2147483647 : Int32)) % (5 : Int32)))] [(.int (2 : Int32)), (.int ((uw &&& (2147483647 : Int32)) % (5 : Int32))), (.ref bb)])) _
    refine XS.iadd X12.here hx rfl (hb hby at_117) rfl ?_
    show Steps p.tables e below (T12.setTop (mkF m 118 #[.val (.int uv), .val (.int uw), .val (.long un), .second, .val (.ref bb), .val (.int ((uw &&& (2147483647 : Int32)) % (5 : Int32)))] [(.int (((uw &&& (2147483647 : Int32)) % (5 : Int32)) + (2 : Int32))), (.ref bb)])) _
    refine XS.iloadN X12.here hx rfl (hb hby at_118) rfl ?_
    show Steps p.tables e below (T12.setTop (mkF m 119 #[.val (.int uv), .val (.int uw), .val (.long un), .second, .val (.ref bb), .val (.int ((uw &&& (2147483647 : Int32)) % (5 : Int32)))] [(.int uv), (.int (((uw &&& (2147483647 : Int32)) % (5 : Int32)) + (2 : Int32))), (.ref bb)])) _
    refine XS.bipush X12.here hx rfl (hb hby at_119) ?_
    show Steps p.tables e below (T12.setTop (mkF m 121 #[.val (.int uv), .val (.int uw), .val (.long un), .second, .val (.ref bb), .val (.int ((uw &&& (2147483647 : Int32)) % (5 : Int32)))] [(.int (16 : Int32)), (.int uv), (.int (((uw &&& (2147483647 : Int32)) % (5 : Int32)) + (2 : Int32))), (.ref bb)])) _
    refine XS.iushr X12.here hx rfl (hb hby at_121) rfl ?_
    show Steps p.tables e below (T12.setTop (mkF m 122 #[.val (.int uv), .val (.int uw), .val (.long un), .second, .val (.ref bb), .val (.int ((uw &&& (2147483647 : Int32)) % (5 : Int32)))] [(.int ((uv.toUInt32 >>> ((16 : Int32) &&& 31).toUInt32).toInt32)), (.int (((uw &&& (2147483647 : Int32)) % (5 : Int32)) + (2 : Int32))), (.ref bb)])) _
    refine XS.i2b X12.here hx rfl (hb hby at_122) rfl ?_
    show Steps p.tables e below (T12.setTop (mkF m 123 #[.val (.int uv), .val (.int uw), .val (.long un), .second, .val (.ref bb), .val (.int ((uw &&& (2147483647 : Int32)) % (5 : Int32)))] [(.int (((uv.toUInt32 >>> ((16 : Int32) &&& 31).toUInt32).toInt32).toInt8.toInt32)), (.int (((uw &&& (2147483647 : Int32)) % (5 : Int32)) + (2 : Int32))), (.ref bb)])) _
    refine st13 _ ?_
    show Steps p.tables e below (T13.setTop (mkF m 124 #[.val (.int uv), .val (.int uw), .val (.long un), .second, .val (.ref bb), .val (.int ((uw &&& (2147483647 : Int32)) % (5 : Int32)))] [])) _
    refine XS.aload X13.here hx rfl (hb hby at_124) rfl rfl ?_
    show Steps p.tables e below (T13.setTop (mkF m 126 #[.val (.int uv), .val (.int uw), .val (.long un), .second, .val (.ref bb), .val (.int ((uw &&& (2147483647 : Int32)) % (5 : Int32)))] [(.ref bb)])) _
    refine XS.iload X13.here hx rfl (hb hby at_126) rfl ?_
    show Steps p.tables e below (T13.setTop (mkF m 128 #[.val (.int uv), .val (.int uw), .val (.long un), .second, .val (.ref bb), .val (.int ((uw &&& (2147483647 : Int32)) % (5 : Int32)))] [(.int ((uw &&& (2147483647 : Int32)) % (5 : Int32))), (.ref bb)])) _
    refine XS.iconst X13.here hx rfl (hb hby at_128) ?_
    show Steps p.tables e below (T13.setTop (mkF m 129 #[.val (.int uv), .val (.int uw), .val (.long un), .second, .val (.ref bb), .val (.int ((uw &&& (2147483647 : Int32)) % (5 : Int32)))] [(.int (3 : Int32)), (.int ((uw &&& (2147483647 : Int32)) % (5 : Int32))), (.ref bb)])) _
    refine XS.iadd X13.here hx rfl (hb hby at_129) rfl ?_
    show Steps p.tables e below (T13.setTop (mkF m 130 #[.val (.int uv), .val (.int uw), .val (.long un), .second, .val (.ref bb), .val (.int ((uw &&& (2147483647 : Int32)) % (5 : Int32)))] [(.int (((uw &&& (2147483647 : Int32)) % (5 : Int32)) + (3 : Int32))), (.ref bb)])) _
    refine XS.iloadN X13.here hx rfl (hb hby at_130) rfl ?_
    show Steps p.tables e below (T13.setTop (mkF m 131 #[.val (.int uv), .val (.int uw), .val (.long un), .second, .val (.ref bb), .val (.int ((uw &&& (2147483647 : Int32)) % (5 : Int32)))] [(.int uv), (.int (((uw &&& (2147483647 : Int32)) % (5 : Int32)) + (3 : Int32))), (.ref bb)])) _
    refine XS.bipush X13.here hx rfl (hb hby at_131) ?_
    show Steps p.tables e below (T13.setTop (mkF m 133 #[.val (.int uv), .val (.int uw), .val (.long un), .second, .val (.ref bb), .val (.int ((uw &&& (2147483647 : Int32)) % (5 : Int32)))] [(.int (24 : Int32)), (.int uv), (.int (((uw &&& (2147483647 : Int32)) % (5 : Int32)) + (3 : Int32))), (.ref bb)])) _
    refine XS.iushr X13.here hx rfl (hb hby at_133) rfl ?_
    show Steps p.tables e below (T13.setTop (mkF m 134 #[.val (.int uv), .val (.int uw), .val (.long un), .second, .val (.ref bb), .val (.int ((uw &&& (2147483647 : Int32)) % (5 : Int32)))] [(.int ((uv.toUInt32 >>> ((24 : Int32) &&& 31).toUInt32).toInt32)), (.int (((uw &&& (2147483647 : Int32)) % (5 : Int32)) + (3 : Int32))), (.ref bb)])) _
    refine XS.i2b X13.here hx rfl (hb hby at_134) rfl ?_
    show Steps p.tables e below (T13.setTop (mkF m 135 #[.val (.int uv), .val (.int uw), .val (.long un), .second, .val (.ref bb), .val (.int ((uw &&& (2147483647 : Int32)) % (5 : Int32)))] [(.int (((uv.toUInt32 >>> ((24 : Int32) &&& 31).toUInt32).toInt32).toInt8.toInt32)), (.int (((uw &&& (2147483647 : Int32)) % (5 : Int32)) + (3 : Int32))), (.ref bb)])) _
    refine st14 _ ?_
    show Steps p.tables e below (T14.setTop (mkF m 136 #[.val (.int uv), .val (.int uw), .val (.long un), .second, .val (.ref bb), .val (.int ((uw &&& (2147483647 : Int32)) % (5 : Int32)))] [])) _
    refine XS.aload X14.here hx rfl (hb hby at_136) rfl rfl ?_
    show Steps p.tables e below (T14.setTop (mkF m 138 #[.val (.int uv), .val (.int uw), .val (.long un), .second, .val (.ref bb), .val (.int ((uw &&& (2147483647 : Int32)) % (5 : Int32)))] [(.ref bb)])) _
    refine XS.iload X14.here hx rfl (hb hby at_138) rfl ?_
    show Steps p.tables e below (T14.setTop (mkF m 140 #[.val (.int uv), .val (.int uw), .val (.long un), .second, .val (.ref bb), .val (.int ((uw &&& (2147483647 : Int32)) % (5 : Int32)))] [(.int ((uw &&& (2147483647 : Int32)) % (5 : Int32))), (.ref bb)])) _
    refine st15 _ ?_
    show Steps p.tables e below (T15.setTop (mkF m 143 #[.val (.int uv), .val (.int uw), .val (.long un), .second, .val (.ref bb), .val (.int ((uw &&& (2147483647 : Int32)) % (5 : Int32)))] [(.int (((((nar .byte (uv.toInt8.toInt32)) &&& (255 : Int32)) ||| (((nar .byte (((uv.toUInt32 >>> ((8 : Int32) &&& 31).toUInt32).toInt32).toInt8.toInt32)) &&& (255 : Int32)) <<< ((8 : Int32) &&& 31))) ||| (((nar .byte (((uv.toUInt32 >>> ((16 : Int32) &&& 31).toUInt32).toInt32).toInt8.toInt32)) &&& (255 : Int32)) <<< ((16 : Int32) &&& 31))) ||| (((nar .byte (((uv.toUInt32 >>> ((24 : Int32) &&& 31).toUInt32).toInt32).toInt8.toInt32)) &&& (255 : Int32)) <<< ((24 : Int32) &&& 31))))])) _
    refine XS.iloadN X15.here hx rfl (hb hby at_143) rfl ?_
    show Steps p.tables e below (T15.setTop (mkF m 144 #[.val (.int uv), .val (.int uw), .val (.long un), .second, .val (.ref bb), .val (.int ((uw &&& (2147483647 : Int32)) % (5 : Int32)))] [(.int uv), (.int (((((nar .byte (uv.toInt8.toInt32)) &&& (255 : Int32)) ||| (((nar .byte (((uv.toUInt32 >>> ((8 : Int32) &&& 31).toUInt32).toInt32).toInt8.toInt32)) &&& (255 : Int32)) <<< ((8 : Int32) &&& 31))) ||| (((nar .byte (((uv.toUInt32 >>> ((16 : Int32) &&& 31).toUInt32).toInt32).toInt8.toInt32)) &&& (255 : Int32)) <<< ((16 : Int32) &&& 31))) ||| (((nar .byte (((uv.toUInt32 >>> ((24 : Int32) &&& 31).toUInt32).toInt32).toInt8.toInt32)) &&& (255 : Int32)) <<< ((24 : Int32) &&& 31))))])) _
    refine XS.icmpNo X15.here hx rfl (hb hby at_144) rfl (teq (own_whole uv)).2 ?_
    show Steps p.tables e below (T15.setTop (mkF m 147 #[.val (.int uv), .val (.int uw), .val (.long un), .second, .val (.ref bb), .val (.int ((uw &&& (2147483647 : Int32)) % (5 : Int32)))] [])) _
    refine XS.iconst X15.here hx rfl (hb hby at_147) ?_
    show Steps p.tables e below (T15.setTop (mkF m 148 #[.val (.int uv), .val (.int uw), .val (.long un), .second, .val (.ref bb), .val (.int ((uw &&& (2147483647 : Int32)) % (5 : Int32)))] [(.int (1 : Int32))])) _
    refine XS.goto X15.here hx rfl (pc0 := 148) (pc' := 152) rfl (hb hby at_148) (by decide) (by decide) ?_
    show Steps p.tables e below (T15.setTop (mkF m 152 #[.val (.int uv), .val (.int uw), .val (.long un), .second, .val (.ref bb), .val (.int ((uw &&& (2147483647 : Int32)) % (5 : Int32)))] [(.int (1 : Int32))])) _
    exact retN X15 hx (t := .boolean) Bd.returns (by simp) (hb hby at_152) hr
  · show Q0 Z uv uw un h0 n0 _ T15.heap _
    rw [e15q]
    exact ⟨rfl, N15⟩
set_option maxRecDepth 65536 in
set_option maxHeartbeats 40000000 in
theorem comes_1 {Post : Tables → Env → Array Value → State → Outcome → State → Prop} (hpost : ∀ tb e args s v u, (limb_1_1.after args s (.returned v) u = true ∧ limb_1_2.after args s (.returned v) u = true ∧ True) → FrameEnd s (.returned v) u (Jvm.fieldLocs frame_1_writes args s ++ Jvm.arrayLocs frame_1_arrays args s ++ Jvm.staticLocs frame_1_statics s) 16 128 → Post tb e args s (.returned v) u) :
    ArmFor flags0 classFile x code maxLocals ret World_1 tables_1 room_1 Calls_1 rest_1 Pre_1 Post := by
  intro l hfl _ _ p e ha hc hk s m args below hf hA hF happ hP
  obtain ⟨hcalls, hrest, hpre⟩ := hP
  obtain ⟨-, -, -, hnamed, -, -, -, hat⟩ := (Spec.applies_iff hf).mp happ
  obtain ⟨hg, hn⟩ := and_e (Cond.before_iff.mp (show (Jvm.Cond.and given_1 narrow_1).before args s = true from hpre))
  obtain ⟨h1, r0⟩ := and_e hg
  obtain ⟨g0, r1⟩ := and_e r0
  obtain ⟨g1, r2⟩ := and_e r1
  obtain ⟨w0, w1, w2, rfl⟩ : ∃ w0 w1 w2 : Value, args = #[w0, w1, w2] := by
    have hs : args.size = 3 := by simpa [Cond.value, given_1] using h1
    obtain ⟨L⟩ := args
    match L, hs with
    | [w0, w1, w2], _ => exact ⟨w0, w1, w2, rfl⟩
  have hw := fun d (hd : d ∈ tables_1) => atoms_spec (ws := Jvm.Cond.code x code maxLocals ret :: tables_1) hat d (List.mem_cons_of_mem _ hd)
  obtain ⟨i0, ei0⟩ := is_v g0
  obtain rfl : w0 = (.int i0) := Option.some.inj ei0
  obtain ⟨i1, ei1⟩ := is_v g1
  obtain rfl : w1 = (.int i1) := Option.some.inj ei1
  obtain ⟨i2, ei2⟩ := isL_v r2
  obtain rfl : w2 = (.long i2) := Option.some.inj ei2
  obtain ⟨n, o, h1, h2, h3, _, L, rfl, ⟨rfl, N⟩, hq⟩ := rm0 l s _ hw tables_1 i0 i1 i2 s.heap s.heap.size (Nat.le_refl _) p e ha hc hk s m _ below hf ((Spec.applies_iff_loose hf).mp happ).1 ⟨rfl, State.Warmed39.refl s, rfl⟩ trivial
  refine ⟨n, _, h1, h2, h3, hpost _ _ _ _ _ _ ⟨Cond.after_iff.mpr rfl, Cond.after_iff.mpr (eq_i res_at (Term.int_eval (1)) rfl), trivial⟩ ⟨hq.1, hq.2.1, (hq.2.2.sift fun y hy => Or.inr (N y hy)).mono (by decide) (by decide)⟩⟩
theorem main_1_1 : Claimed_1_1 := comes_1 fun _ _ _ _ _ _ h hF => ⟨h.1, hF⟩
theorem main_1_2 : Claimed_1_2 := comes_1 fun _ _ _ _ _ _ h hF => ⟨h.2.1, hF⟩
end Jvm.Pilot.@@N@@
namespace Jvm.Pilot.@@N@@
open Jvm Jvm.ClassFile Sem Op Lib Jvm.Free Jvm.Stand Jvm.Pilot.@@N@@.Jvm.D
/-! MADE BY PROGRAM (witnessworld.py) out of the Statement's table words and the real class files: 9 classes; the members and pool entries that the words name. The judged class is class 1, her method 1. -/
namespace start1
open Jvm.ClassFile
def u (s : String) : CpInfo := .utf8 (stringToUtf16 s)
/-- a pool by its gaps: so many unusable entries, then the entry; so many at the end -/
def gap : Nat → List CpInfo → List CpInfo
  | 0, r => r
  | n + 1, r => .unusable :: gap n r
def poolList (es : List (Nat × CpInfo)) (last : Nat) : List CpInfo := es.foldr (fun e r => gap e.1 (e.2 :: r)) (gap last [])
def pool (es : List (Nat × CpInfo)) (last : Nat) : Array CpInfo := ⟨poolList es last⟩
def fileOf (pool : Array CpInfo) (this : Nat) (attrs : Array Attribute := #[]) (ms : Array MethodInfo := #[]) (fl : Nat := 33) (sup : Nat := 0) (ifs : Array Nat := #[]) (fds : Array FieldInfo := #[]) : ClassFile where
  minorVersion := 0
  majorVersion := 65
  constantPool := pool
  accessFlags := fl
  thisClass := this
  superClass := sup
  interfaces := ifs
  fields := fds
  methods := ms
  attributes := attrs
def plain (name : String) (sup : Option ClassId) : Class where
  name := name
  kind := .ordinary
  loader := none
  accessFlags := 33
  super := sup
  interfaces := #[]
  cf := none
  fields := #[]
  methods := #[]
  instanceTypes := #[]
  staticTypes := #[]
  resolved := #[]
  callSites := []
  init := .initialized
  statics := none
  mirror := none

def pool0 : Array CpInfo := pool [(5, u "<init>"), (0, u "()V"), (1, .class_ 10), (1, u "java/lang/Object")] 113

def k0m0 : Method := { name := "<init>", desc := "()V", sig := { parameters := [], returnType := none }, accessFlags := 1, code := none }
/-- java/lang/Object -/
def k0 : Class := { plain "java/lang/Object" none with
  accessFlags := 33
  interfaces := #[]
  cf := some (fileOf pool0 8 #[] #[{ accessFlags := 1, nameIndex := 5, descriptorIndex := 6, attributes := #[] }] 33 0 #[] #[])
  fields := #[]
  methods := #[k0m0]
  instanceTypes := #[]
  staticTypes := #[]
  resolved := Array.replicate 124 none
  statics := none }

def pool1 : Array CpInfo := pool [(2, .class_ 4), (1, u "java/lang/Object"), (0, u "<init>"), (0, u "()V"), (0, .integer 2147483647), (0, .methodref 9 10), (0, .class_ 11), (0, .nameAndType 12 13), (0, u "com/example/joinwright/joinwright/ParquetColumn"), (0, u "littleInt"), (0, u "([BI)I"), (0, .class_ 15), (0, u "com/example/joinwright/joinwright/ParquetColumnLittleIntPinLaw"), (2, u "law"), (0, u "(IIJ)Z")] 5

def k1m0 : Method := { name := "<init>", desc := "()V", sig := { parameters := [], returnType := none }, accessFlags := 1, code := none }
def k1c1 : Code := { maxStack := 5, maxLocals := 6, code := code, exceptionTable := #[], attributes := #[] }
def k1m1 : Method := { name := "law", desc := "(IIJ)Z", sig := { parameters := [.int, .int, .long], returnType := some .boolean }, accessFlags := 9, code := some k1c1 }
/-- com/example/joinwright/joinwright/ParquetColumnLittleIntPinLaw -/
def k1 : Class := { plain "com/example/joinwright/joinwright/ParquetColumnLittleIntPinLaw" (some 0) with
  accessFlags := 49
  interfaces := #[]
  cf := some (fileOf pool1 14 #[] #[{ accessFlags := 1, nameIndex := 5, descriptorIndex := 6, attributes := #[] }, { accessFlags := 9, nameIndex := 18, descriptorIndex := 19, attributes := #[] }] 49 2 #[] #[])
  fields := #[]
  methods := #[k1m0, k1m1]
  instanceTypes := #[]
  staticTypes := #[]
  resolved := Array.replicate 25 none
  statics := none }

def pool2 : Array CpInfo := pool [(1, .class_ 2), (0, u "com/example/joinwright/joinwright/ParquetColumn"), (1, .class_ 6), (1, u "java/lang/Object"), (0, u "<init>"), (0, u "()V"), (35, u "ENCODINGS"), (0, u "[Ljava/lang/String;"), (13, u "littleInt"), (0, u "([BI)I"), (5, u "UNCOMPRESSED"), (1, u "SNAPPY"), (1, u "GZIP"), (7, u "ZSTD"), (1, u "LZ4_RAW"), (2, u "CODECS"), (1, u "PLAIN"), (3, u "PLAIN_DICTIONARY"), (1, u "RLE"), (1, u "BIT_PACKED"), (1, u "DELTA_BINARY_PACKED"), (1, u "DELTA_LENGTH_BYTE_ARRAY"), (1, u "DELTA_BYTE_ARRAY"), (1, u "RLE_DICTIONARY"), (1, u "BYTE_STREAM_SPLIT"), (7, u "ENCODINGS_READ"), (0, u "Ljava/lang/String;"), (4, u "ENCODED_TYPES"), (0, u "[I"), (2, u "EMPTY"), (0, u "[B"), (0, .class_ 124), (0, u "com/example/joinwright/joinwright/ParquetColumn$Page"), (5, u "NONE"), (0, u "Lcom/example/joinwright/joinwright/ParquetColumn$Page;"), (0, u "I"), (6, u "READ_CODECS"), (6, u "READ_ENCODINGS"), (1, u "ALL_TYPES"), (1, u "DATA_PAGE"), (0, u "DICTIONARY_PAGE"), (0, u "DATA_PAGE_V2"), (0, u "MOST_PAGE_BYTES"), (1, u "JULIAN_EPOCH"), (0, u "J"), (2, u "FIRST_HEADER_READ"), (1, u "NOT_UTF8"), (2, u "FEWER_VALUES"), (2, u "PACKED_PAST_END"), (16, .class_ 185), (0, u "com/example/joinwright/joinwright/ParquetColumn$1"), (0, .class_ 187), (0, u "com/example/joinwright/joinwright/ParquetColumn$Runs"), (0, .class_ 189), (0, u "com/example/joinwright/joinwright/ParquetColumn$PageHeader"), (0, .class_ 191), (0, u "com/example/joinwright/joinwright/ParquetColumn$Values"), (0, .class_ 193), (0, u "com/example/joinwright/joinwright/ParquetColumn$Slot"), (0, .class_ 195), (0, u "com/example/joinwright/joinwright/ParquetColumn$Taking"), (0, .class_ 197), (0, u "com/example/joinwright/joinwright/ParquetColumn$Dictionary"), (0, .class_ 199), (0, u "com/example/joinwright/joinwright/ParquetColumn$Shared"), (0, .class_ 201), (0, u "com/example/joinwright/joinwright/ParquetColumn$SharedPages"), (0, .class_ 203), (0, u "com/example/joinwright/joinwright/ParquetColumn$ChunkPlace")] 27

def k2m0 : Method := { name := "<init>", desc := "()V", sig := { parameters := [], returnType := none }, accessFlags := 2, code := none }
def k2c1 : Code := { maxStack := 4, maxLocals := 2, code := prog_41_method_6_code, exceptionTable := #[], attributes := #[] }
def k2m1 : Method := { name := "littleInt", desc := "([BI)I", sig := { parameters := [(.array .byte), .int], returnType := some .int }, accessFlags := 8, code := some k2c1 }
/-- com/example/joinwright/joinwright/ParquetColumn -/
def k2 : Class := { plain "com/example/joinwright/joinwright/ParquetColumn" (some 0) with
  accessFlags := 48
  interfaces := #[]
  cf := some (fileOf pool2 1 #[.nestMembers #[184, 186, 188, 190, 192, 194, 196, 123, 198, 200, 202]] #[{ accessFlags := 2, nameIndex := 7, descriptorIndex := 8, attributes := #[] }, { accessFlags := 8, nameIndex := 59, descriptorIndex := 60, attributes := #[] }] 48 4 #[] #[{ accessFlags := 26, nameIndex := 66, descriptorIndex := 132, attributes := #[] }, { accessFlags := 26, nameIndex := 68, descriptorIndex := 132, attributes := #[] }, { accessFlags := 26, nameIndex := 70, descriptorIndex := 132, attributes := #[] }, { accessFlags := 26, nameIndex := 78, descriptorIndex := 132, attributes := #[] }, { accessFlags := 26, nameIndex := 80, descriptorIndex := 132, attributes := #[] }, { accessFlags := 26, nameIndex := 83, descriptorIndex := 45, attributes := #[] }, { accessFlags := 26, nameIndex := 139, descriptorIndex := 132, attributes := #[] }, { accessFlags := 26, nameIndex := 85, descriptorIndex := 132, attributes := #[] }, { accessFlags := 26, nameIndex := 89, descriptorIndex := 132, attributes := #[] }, { accessFlags := 26, nameIndex := 91, descriptorIndex := 132, attributes := #[] }, { accessFlags := 26, nameIndex := 93, descriptorIndex := 132, attributes := #[] }, { accessFlags := 26, nameIndex := 95, descriptorIndex := 132, attributes := #[] }, { accessFlags := 26, nameIndex := 97, descriptorIndex := 132, attributes := #[] }, { accessFlags := 26, nameIndex := 99, descriptorIndex := 132, attributes := #[] }, { accessFlags := 26, nameIndex := 101, descriptorIndex := 132, attributes := #[] }, { accessFlags := 26, nameIndex := 103, descriptorIndex := 132, attributes := #[] }, { accessFlags := 26, nameIndex := 44, descriptorIndex := 45, attributes := #[] }, { accessFlags := 26, nameIndex := 146, descriptorIndex := 132, attributes := #[] }, { accessFlags := 26, nameIndex := 111, descriptorIndex := 112, attributes := #[] }, { accessFlags := 26, nameIndex := 148, descriptorIndex := 132, attributes := #[] }, { accessFlags := 26, nameIndex := 117, descriptorIndex := 118, attributes := #[] }, { accessFlags := 26, nameIndex := 150, descriptorIndex := 132, attributes := #[] }, { accessFlags := 26, nameIndex := 151, descriptorIndex := 132, attributes := #[] }, { accessFlags := 26, nameIndex := 152, descriptorIndex := 132, attributes := #[] }, { accessFlags := 24, nameIndex := 153, descriptorIndex := 132, attributes := #[] }, { accessFlags := 26, nameIndex := 155, descriptorIndex := 156, attributes := #[] }, { accessFlags := 26, nameIndex := 159, descriptorIndex := 132, attributes := #[] }, { accessFlags := 26, nameIndex := 161, descriptorIndex := 112, attributes := #[] }, { accessFlags := 26, nameIndex := 164, descriptorIndex := 112, attributes := #[] }, { accessFlags := 26, nameIndex := 167, descriptorIndex := 112, attributes := #[] }, { accessFlags := 26, nameIndex := 121, descriptorIndex := 122, attributes := #[] }, { accessFlags := 26, nameIndex := 130, descriptorIndex := 131, attributes := #[] }])
  fields := #[{ name := "UNCOMPRESSED", type := .int, accessFlags := 26, slot := 0, constantValue := 0 }, { name := "SNAPPY", type := .int, accessFlags := 26, slot := 1, constantValue := 0 }, { name := "GZIP", type := .int, accessFlags := 26, slot := 2, constantValue := 0 }, { name := "ZSTD", type := .int, accessFlags := 26, slot := 3, constantValue := 0 }, { name := "LZ4_RAW", type := .int, accessFlags := 26, slot := 4, constantValue := 0 }, { name := "CODECS", type := (.array (.object "java/lang/String")), accessFlags := 26, slot := 5, constantValue := 0 }, { name := "READ_CODECS", type := .int, accessFlags := 26, slot := 6, constantValue := 0 }, { name := "PLAIN", type := .int, accessFlags := 26, slot := 7, constantValue := 0 }, { name := "PLAIN_DICTIONARY", type := .int, accessFlags := 26, slot := 8, constantValue := 0 }, { name := "RLE", type := .int, accessFlags := 26, slot := 9, constantValue := 0 }, { name := "BIT_PACKED", type := .int, accessFlags := 26, slot := 10, constantValue := 0 }, { name := "DELTA_BINARY_PACKED", type := .int, accessFlags := 26, slot := 11, constantValue := 0 }, { name := "DELTA_LENGTH_BYTE_ARRAY", type := .int, accessFlags := 26, slot := 12, constantValue := 0 }, { name := "DELTA_BYTE_ARRAY", type := .int, accessFlags := 26, slot := 13, constantValue := 0 }, { name := "RLE_DICTIONARY", type := .int, accessFlags := 26, slot := 14, constantValue := 0 }, { name := "BYTE_STREAM_SPLIT", type := .int, accessFlags := 26, slot := 15, constantValue := 0 }, { name := "ENCODINGS", type := (.array (.object "java/lang/String")), accessFlags := 26, slot := 16, constantValue := 0 }, { name := "READ_ENCODINGS", type := .int, accessFlags := 26, slot := 17, constantValue := 0 }, { name := "ENCODINGS_READ", type := (.object "java/lang/String"), accessFlags := 26, slot := 18, constantValue := 0 }, { name := "ALL_TYPES", type := .int, accessFlags := 26, slot := 19, constantValue := 0 }, { name := "ENCODED_TYPES", type := (.array .int), accessFlags := 26, slot := 20, constantValue := 0 }, { name := "DATA_PAGE", type := .int, accessFlags := 26, slot := 21, constantValue := 0 }, { name := "DICTIONARY_PAGE", type := .int, accessFlags := 26, slot := 22, constantValue := 0 }, { name := "DATA_PAGE_V2", type := .int, accessFlags := 26, slot := 23, constantValue := 0 }, { name := "MOST_PAGE_BYTES", type := .int, accessFlags := 24, slot := 24, constantValue := 0 }, { name := "JULIAN_EPOCH", type := .long, accessFlags := 26, slot := 25, constantValue := 0 }, { name := "FIRST_HEADER_READ", type := .int, accessFlags := 26, slot := 26, constantValue := 0 }, { name := "NOT_UTF8", type := (.object "java/lang/String"), accessFlags := 26, slot := 27, constantValue := 0 }, { name := "FEWER_VALUES", type := (.object "java/lang/String"), accessFlags := 26, slot := 28, constantValue := 0 }, { name := "PACKED_PAST_END", type := (.object "java/lang/String"), accessFlags := 26, slot := 29, constantValue := 0 }, { name := "EMPTY", type := (.array .byte), accessFlags := 26, slot := 30, constantValue := 0 }, { name := "NONE", type := (.object "com/example/joinwright/joinwright/ParquetColumn$Page"), accessFlags := 26, slot := 31, constantValue := 0 }]
  methods := #[k2m0, k2m1]
  instanceTypes := #[]
  staticTypes := #[.int, .int, .int, .int, .int, (.array (.object "java/lang/String")), .int, .int, .int, .int, .int, .int, .int, .int, .int, .int, (.array (.object "java/lang/String")), .int, (.object "java/lang/String"), .int, (.array .int), .int, .int, .int, .int, .long, .int, (.object "java/lang/String"), (.object "java/lang/String"), (.object "java/lang/String"), (.array .byte), (.object "com/example/joinwright/joinwright/ParquetColumn$Page")]
  resolved := Array.replicate 231 none
  statics := none }

def pool3 : Array CpInfo := pool [(1, u "java/lang/Cloneable"), (0, .class_ 1), (0, u "java/lang/Object"), (0, .class_ 3)] 3

/-- java/lang/Cloneable -/
def k3 : Class := { plain "java/lang/Cloneable" (some 0) with
  accessFlags := 1537
  interfaces := #[]
  cf := some (fileOf pool3 2 #[] #[] 1537 4 #[] #[])
  fields := #[]
  methods := #[]
  instanceTypes := #[]
  staticTypes := #[]
  resolved := Array.replicate 8 none
  statics := none }

def pool4 : Array CpInfo := pool [(1, u "java/io/Serializable"), (0, .class_ 1), (0, u "java/lang/Object"), (0, .class_ 3)] 3

/-- java/io/Serializable -/
def k4 : Class := { plain "java/io/Serializable" (some 0) with
  accessFlags := 1537
  interfaces := #[]
  cf := some (fileOf pool4 2 #[] #[] 1537 4 #[] #[])
  fields := #[]
  methods := #[]
  instanceTypes := #[]
  staticTypes := #[]
  resolved := Array.replicate 8 none
  statics := none }

/-- the primitive byte -/
def k5 : Class := { plain "byte" none with kind := .primitive 'B', accessFlags := 0x411 }
/-- [B -/
def k6 : Class := { plain "[B" (some 0) with kind := .array 5 .byte, interfaces := #[3, 4], accessFlags := 1041 }

/-- the primitive int -/
def k7 : Class := { plain "int" none with kind := .primitive 'I', accessFlags := 0x411 }
/-- [I -/
def k8 : Class := { plain "[I" (some 0) with kind := .array 7 .int, interfaces := #[3, 4], accessFlags := 1041 }

def heap : Heap := #[]
def classes : Array Class := #[k0, k1, k2, k3, k4, k5, k6, k7, k8]
def interned : List (Array UInt16 × Addr) := []
def slotsUsed : Nat := 0
def theMethod : MethodId := ⟨1, 1⟩
def args0 : Array Value := #[.int 5, .int 7, .long 1]
def aboutOver (below : List Frame) : State where
  vm := { classes := classes, interned := interned.toArray }
  heap := heap
  slotsUsed := slotsUsed
  threads := #[{ frames := .invoking theMethod args0 :: below }]
def below0 : List Frame := [.native { method := ⟨0, 0⟩, args := #[] }]
def about1 : State := aboutOver below0
def p0 : Program := .bare "" "" ""
def e0 : Env := launch0.env 0 0 0
theorem w_frames : about1.frames = Frame.invoking theMethod args0 :: below0 := rfl
set_option maxRecDepth 65536 in
theorem w_args : argsFit about1.vm theMethod args0 = true := by decide +kernel
set_option maxRecDepth 65536 in
theorem w_heap : heapFits about1 = true := by decide +kernel
set_option maxRecDepth 65536 in
theorem w_runnable : about1.curStatus? = some .runnable := by decide +kernel
set_option maxRecDepth 65536 in
theorem w_alone : about1.alone = true := by decide +kernel
set_option maxRecDepth 65536 in
theorem w_named : about1.methodNamed? x = some theMethod := by decide +kernel
set_option maxRecDepth 65536 in
theorem w_hears : about1.hears theMethod below0 = true := by decide +kernel
set_option maxRecDepth 65536 in
theorem w_ripe : about1.ripe theMethod args0 below0 = true := by decide +kernel
theorem w_running : about1.status = .running := rfl
set_option maxRecDepth 65536 in
theorem w_room : about1.hasRoom e0.platform room_1 = true :=
  launch0.hasRoom_least _ room_1 (by decide +kernel) (by decide +kernel) (by decide +kernel) (by decide +kernel) (by decide +kernel) (by decide +kernel)
theorem allAtoms_all (ts : List Jvm.Cond) (a : Array Jvm.Value) (st : Jvm.State) : (allAtoms ts).before a st = ts.all (fun c => c.before a st) := by
  induction ts with
  | nil => rfl
  | cons c t ih =>
    show (Jvm.Cond.and c (allAtoms t)).before a st = _
    rw [Jvm.Cond.before_and, ih, List.all_cons]
def words1 : List Jvm.Cond := Jvm.Cond.code x code maxLocals ret :: tables_1
/-- a 'code' word, met by the world's own term for the bytes: nothing is compared byte by byte -/
theorem code_word {y : MethodName} {bytes : ByteArray} {mx : Nat} {rt : Option FieldType} {a : Array Value} {s : State} {m : MethodId} {meth : Method} {c : Code} (h1 : s.methodNamed? y = some m) (h2 : s.vm.method? m = some meth) (h3 : meth.code = some c) (h4 : c.code = bytes)
    (h5 : (c.maxLocals == mx && c.exceptionTable.isEmpty && decide (c.maxStack ≤ mostOperands) && decide (meth.sig.returnType = rt) && !meth.locks && decide (parseMethodDescriptor y.desc = some meth.sig)) = true) : (Jvm.Cond.code y bytes mx rt).before a s = true := by
  simp only [Bool.and_eq_true, beq_iff_eq, Bool.not_eq_true', decide_eq_true_eq] at h5
  obtain ⟨⟨⟨⟨⟨g1, g2⟩, g3⟩, g4⟩, g5⟩, g6⟩ := h5
  simp [Cond.before, Cond.holds, Cond.value, h1, h2, h3, h4, g1, g2, g3, g4, g5, g6]
def isCode : Jvm.Cond → Bool
  | .code _ _ _ _ => true
  | _ => false
theorem all_split {L : List Jvm.Cond} {P : Jvm.Cond → Bool} (h1 : L.all (fun c => isCode c || P c) = true) (h2 : ∀ c ∈ L.filter isCode, P c = true) : L.all P = true := by
  refine List.all_eq_true.mpr fun c hc => ?_
  have h := List.all_eq_true.mp h1 c hc
  rcases Bool.eq_false_or_eq_true (isCode c) with hi | hi
  · exact h2 c (List.mem_filter.mpr ⟨hc, hi⟩)
  · simpa [hi] using h
set_option maxRecDepth 65536 in
theorem w_c0 : (Jvm.Cond.code x code maxLocals ret).before args0 about1 = true := code_word (m := ⟨1, 1⟩) (meth := k1m1) (c := k1c1) (by decide +kernel) rfl rfl rfl (by decide +kernel)
set_option maxRecDepth 65536 in
theorem w_c1 : (Jvm.Cond.code ({ cls := "com/example/joinwright/joinwright/ParquetColumn", name := "littleInt", desc := "([BI)I" } : Jvm.MethodName) prog_41_method_6_code (2 : Nat) (Option.some Jvm.ClassFile.FieldType.int)).before args0 about1 = true := code_word (m := ⟨2, 1⟩) (meth := k2m1) (c := k2c1) (by decide +kernel) rfl rfl rfl (by decide +kernel)
def codes1 : List Jvm.Cond := [Jvm.Cond.code x code maxLocals ret, Jvm.Cond.code ({ cls := "com/example/joinwright/joinwright/ParquetColumn", name := "littleInt", desc := "([BI)I" } : Jvm.MethodName) prog_41_method_6_code (2 : Nat) (Option.some Jvm.ClassFile.FieldType.int)]
set_option maxRecDepth 65536 in
theorem codes_eq : words1.filter isCode = codes1 := rfl
theorem w_codes : ∀ c ∈ words1.filter isCode, c.before args0 about1 = true := by
  rw [codes_eq]
  intro c hc
  simp only [codes1, List.mem_cons, List.not_mem_nil, or_false] at hc
  rcases hc with rfl | rfl
  · exact w_c0
  · exact w_c1
set_option maxRecDepth 65536 in
theorem w_t1 : words1.all (fun c => isCode c || c.before args0 about1) = true := by decide +kernel
theorem w_tables : (allAtoms (Jvm.Cond.code x code maxLocals ret :: tables_1)).before args0 about1 = true := by
  rw [allAtoms_all]
  show words1.all (fun c => c.before args0 about1) = true
  refine all_split ?_ w_codes
  rw [w_t1]
set_option maxRecDepth 65536 in
theorem w_case : (Jvm.Cond.and given_1 narrow_1).before args0 about1 = true := by decide +kernel
theorem w_applies : (headSpec (Jvm.Cond.code x code maxLocals ret :: tables_1) room_1).applies x e0.platform about1 = true :=
  (Spec.applies_iff w_frames).mpr ⟨w_running, w_runnable, w_alone, w_named, w_hears, w_ripe, w_room, w_tables⟩
theorem atStart : AtStart classFile x code maxLocals ret World_1 tables_1 room_1 Calls_1 rest_1 Pre_1 launch0 p0 e0 about1 theMethod args0 below0 :=
  ⟨lists_1, trivial, launch0.admits_env _ _ _, launch0.least_env, fairChoices_fair.cas, fairChoices_fair.clock, w_frames, w_args, w_heap, w_applies, trivial, trivial, w_case⟩
end start1
theorem witness_1 : WitnessClaimed_1 := ⟨start1.p0, start1.e0, start1.about1, start1.theMethod, start1.args0, start1.below0, start1.atStart⟩
end Jvm.Pilot.@@N@@
