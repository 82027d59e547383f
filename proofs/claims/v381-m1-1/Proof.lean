import JvmDerived
import JvmDerived.Pilot.@@N@@Statement
import JvmDerived.Pilot.@@N@@Code
set_option linter.unusedVariables false
set_option linter.unusedSimpArgs false
namespace Jvm.RoadKit
open Sem ClassFile Op Lib Jvm.Stand Jvm.Free Jvm.LawKit
section New
variable {p : Program} {l : Launch} {e : Env} {R : Room} {s : State} {m : MethodId} {args : Array Value} {below : List Frame} {meth : Method} {c : Code} {T : State} {locs : List Loc} {cells slots : Nat}
theorem retI (X : Stand p l e R s m args below meth c T locs cells slots) (hx : p.tables.exec = Jvm.exec) {pc : Nat} {Ls : Array Slot} {z : Int32} {rest : List Value} (hret : meth.sig.returnType = some .int) (hd : decode c.code pc = .ok (.ireturn, 1)) {fs : List Frame}
    (hl : ∀ (f : JFrame) (acts : List Action), f.method = m → f.locked = none → f.entered = [] → (doReturn e (T.setTop f) acts (some (.int z))).1 = T.setFrames fs) : Steps p.tables e below (T.setTop (mkF m pc Ls (.int z :: rest))) (T.setFrames fs) := by
  have hm' : T.vm.method? m = some meth := X.method'
  have hn : narrow .int (.int z) = .int z := rfl
  show Steps p.tables e below (T.setTop { method := m, pc := pc, locals := Ls, stack := _ :: rest, locked := none }) _
  jvm_step X.here [X.here.top, hx, hd, hm', hret, hn]
  first | (intro acts; rw [hl _ acts rfl rfl rfl]) | rw [hl _ _ rfl rfl rfl]
  exact Steps.refl _
end New
end Jvm.RoadKit
namespace Jvm.Pilot.@@N@@
open Jvm Jvm.ClassFile Sem Op Lib Jvm.Free Jvm.Stand Jvm.LawKit Jvm.RoadKit Bundle Jvm.Pilot.@@N@@.Jvm.D
def own_rd (w0 w1 w2 w3 : Int32) : Int32 := (((((w0 &&& (255 : Int32)) <<< ((24 : Int32) &&& 31)) ||| ((w1 &&& (255 : Int32)) <<< ((16 : Int32) &&& 31))) ||| ((w2 &&& (255 : Int32)) <<< ((8 : Int32) &&& 31))) ||| (w3 &&& (255 : Int32)))
theorem own_d1_0 : decode prog_20_method_15_code 0 = .ok (.aload_n 0, 1) := by decide +kernel
theorem own_d1_1 : decode prog_20_method_15_code 1 = .ok (.iload_n 1, 1) := by decide +kernel
theorem own_d1_2 : decode prog_20_method_15_code 2 = .ok (.baload, 1) := by decide +kernel
theorem own_d1_3 : decode prog_20_method_15_code 3 = .ok (.sipush 255, 3) := by decide +kernel
theorem own_d1_6 : decode prog_20_method_15_code 6 = .ok (.iand, 1) := by decide +kernel
theorem own_d1_7 : decode prog_20_method_15_code 7 = .ok (.bipush 24, 2) := by decide +kernel
theorem own_d1_9 : decode prog_20_method_15_code 9 = .ok (.ishl, 1) := by decide +kernel
theorem own_d1_10 : decode prog_20_method_15_code 10 = .ok (.aload_n 0, 1) := by decide +kernel
theorem own_d1_11 : decode prog_20_method_15_code 11 = .ok (.iload_n 1, 1) := by decide +kernel
theorem own_d1_12 : decode prog_20_method_15_code 12 = .ok (.iconst 1, 1) := by decide +kernel
theorem own_d1_13 : decode prog_20_method_15_code 13 = .ok (.iadd, 1) := by decide +kernel
theorem own_d1_14 : decode prog_20_method_15_code 14 = .ok (.baload, 1) := by decide +kernel
theorem own_d1_15 : decode prog_20_method_15_code 15 = .ok (.sipush 255, 3) := by decide +kernel
theorem own_d1_18 : decode prog_20_method_15_code 18 = .ok (.iand, 1) := by decide +kernel
theorem own_d1_19 : decode prog_20_method_15_code 19 = .ok (.bipush 16, 2) := by decide +kernel
theorem own_d1_21 : decode prog_20_method_15_code 21 = .ok (.ishl, 1) := by decide +kernel
theorem own_d1_22 : decode prog_20_method_15_code 22 = .ok (.ior, 1) := by decide +kernel
theorem own_d1_23 : decode prog_20_method_15_code 23 = .ok (.aload_n 0, 1) := by decide +kernel
theorem own_d1_24 : decode prog_20_method_15_code 24 = .ok (.iload_n 1, 1) := by decide +kernel
theorem own_d1_25 : decode prog_20_method_15_code 25 = .ok (.iconst 2, 1) := by decide +kernel
theorem own_d1_26 : decode prog_20_method_15_code 26 = .ok (.iadd, 1) := by decide +kernel
theorem own_d1_27 : decode prog_20_method_15_code 27 = .ok (.baload, 1) := by decide +kernel
theorem own_d1_28 : decode prog_20_method_15_code 28 = .ok (.sipush 255, 3) := by decide +kernel
theorem own_d1_31 : decode prog_20_method_15_code 31 = .ok (.iand, 1) := by decide +kernel
theorem own_d1_32 : decode prog_20_method_15_code 32 = .ok (.bipush 8, 2) := by decide +kernel
theorem own_d1_34 : decode prog_20_method_15_code 34 = .ok (.ishl, 1) := by decide +kernel
theorem own_d1_35 : decode prog_20_method_15_code 35 = .ok (.ior, 1) := by decide +kernel
theorem own_d1_36 : decode prog_20_method_15_code 36 = .ok (.aload_n 0, 1) := by decide +kernel
theorem own_d1_37 : decode prog_20_method_15_code 37 = .ok (.iload_n 1, 1) := by decide +kernel
theorem own_d1_38 : decode prog_20_method_15_code 38 = .ok (.iconst 3, 1) := by decide +kernel
theorem own_d1_39 : decode prog_20_method_15_code 39 = .ok (.iadd, 1) := by decide +kernel
theorem own_d1_40 : decode prog_20_method_15_code 40 = .ok (.baload, 1) := by decide +kernel
theorem own_d1_41 : decode prog_20_method_15_code 41 = .ok (.sipush 255, 3) := by decide +kernel
theorem own_d1_44 : decode prog_20_method_15_code 44 = .ok (.iand, 1) := by decide +kernel
theorem own_d1_45 : decode prog_20_method_15_code 45 = .ok (.ior, 1) := by decide +kernel
theorem own_d1_46 : decode prog_20_method_15_code 46 = .ok (.ireturn, 1) := by decide +kernel
theorem own_pn36 : plainName "com/example/all1/all1/Encoding" = true := by first | (simp [plainName, overriddenIn]; done) | decide +kernel
theorem own_ef1 (m : MethodId) (a0 : Addr) (p1 : Int32) : entryFrame m #[(.ref a0), (.int p1)] 2 = mkF m 0 #[.val (.ref a0), .val (.int p1)] [] := by first | (simp [entryFrame, mkF, argsToLocals, Value.category]; done) | rfl
def own_Q1 (Z : State) (a0 : Addr) (p1 : Int32) (kk : ClassId) (nn : Int32) (vs : List Value) (dv : Value) (w0 : Int32) (w1 : Int32) (w2 : Int32) (w3 : Int32) (h0 : Heap) (n0 : Nat) (v : Option Value) (h : Heap) (L : List Loc) : Prop := v = some (.int (own_rd w0 w1 w2 w3)) ∧ Fr n0 L ∧ h = h0
set_option maxRecDepth 65536 in
set_option maxHeartbeats 40000000 in
theorem own_rm1 (l : Launch) (Z : State) (a0 : Array Value) (hw : ∀ d ∈ tables_1, d.before a0 Z = true) (ws : List Jvm.Cond) (a0 : Addr) (p1 : Int32) (kk : ClassId) (nn : Int32) (vs : List Value) (dv : Value) (w0 : Int32) (w1 : Int32) (w2 : Int32) (w3 : Int32) (h0 : Heap) (n0 : Nat) (Z0 : n0 ≤ h0.size) (pr0 : Arv Z h0 a0 kk .byte nn vs dv) (hj0 : ¬ p1 < 0 ∧ p1 < nn) (hj1 : ¬ (p1 + (1 : Int32)) < 0 ∧ (p1 + (1 : Int32)) < nn) (hj2 : ¬ (p1 + (2 : Int32)) < 0 ∧ (p1 + (2 : Int32)) < nn) (hj3 : ¬ (p1 + (3 : Int32)) < 0 ∧ (p1 + (3 : Int32)) < nn) (hg0 : vs.getD (p1).toNatClampNeg dv = (.int w0)) (hg1 : vs.getD ((p1 + (1 : Int32))).toNatClampNeg dv = (.int w1)) (hg2 : vs.getD ((p1 + (2 : Int32))).toNatClampNeg dv = (.int w2)) (hg3 : vs.getD ((p1 + (3 : Int32))).toNatClampNeg dv = (.int w3)) :
    MetFree l (⟨"com/example/all1/all1/Encoding", "readInt", "([BI)I"⟩ : MethodName) (head1 (Jvm.Cond.code (⟨"com/example/all1/all1/Encoding", "readInt", "([BI)I"⟩ : MethodName) prog_20_method_15_code 2 (some .int) :: ws) ({ frames := 0, cells := 0, slots := 0, locals := 0 } : Room)) (fun a U => a = #[(.ref a0), (.int p1)] ∧ Z.Warmed39 U.vm ∧ U.heap = h0) (fun _ _ _ _ _ => True) (fun _ U o U' => ∃ v L, o = .returned v ∧ own_Q1 Z a0 p1 kk nn vs dv w0 w1 w2 w3 h0 n0 v U'.heap L ∧ FrameEnd U o U' L ({ frames := 0, cells := 0, slots := 0, locals := 0 } : Room).cells ({ frames := 0, cells := 0, slots := 0, locals := 0 } : Room).slots) := by
  refine MetFree.of_bodySF (plainFor_of_name own_pn36) hisR ?_
  intro p e s m args below meth c s₁ Bd hml0 hP hK
  obtain ⟨rfl, hZ, hh⟩ := hP
  have hx := Bd.exec
  have hby := Bd.bytes
  have hml : c.maxLocals = 2 := hml0
  have hown : s.vm.findClass "com/example/all1/all1/Encoding" = some m.cls := findClass_of_methodNamed Bd.named
  have hnm := (name_of_methodNamed Bd.named Bd.method).1
  have X0 : Stand p l e ({ frames := 0, cells := 0, slots := 0, locals := 0 } : Room) s m #[(.ref a0), (.int p1)] below meth c s₁ [] 0 0 := Stand.of_body Bd
  have e0 : s₁.heap = h0 := by rw [← hh, Bd.state]; rfl
  have N0 := Fr.nil n0
  have pre0 : ∀ t, Steps p.tables e below (s₁.setTop (mkF m 0 #[.val (.ref a0), .val (.int p1)] [])) t → Steps p.tables e below (s₁.setTop (entryFrame m #[(.ref a0), (.int p1)] 2)) t := fun t k => castTop (own_ef1 m a0 p1) k
  obtain ⟨cl1, Ar1, q1, S1, M1, H1, G1⟩ := id pr0
  have hin1 : ¬ (p1 < 0 ∨ cl1.slots.size ≤ (p1).toNatClampNeg) := inb_of S1 hj0
  have hat1 : cl1.slots[(p1).toNatClampNeg]? = some (.int w0) := H1.at hin1 hg0
  obtain ⟨cl2, Ar2, q2, S2, M2, H2, G2⟩ := id pr0
  have hin2 : ¬ ((p1 + (1 : Int32)) < 0 ∨ cl2.slots.size ≤ ((p1 + (1 : Int32))).toNatClampNeg) := inb_of S2 hj1
  have hat2 : cl2.slots[((p1 + (1 : Int32))).toNatClampNeg]? = some (.int w1) := H2.at hin2 hg1
  obtain ⟨cl3, Ar3, q3, S3, M3, H3, G3⟩ := id pr0
  have hin3 : ¬ ((p1 + (2 : Int32)) < 0 ∨ cl3.slots.size ≤ ((p1 + (2 : Int32))).toNatClampNeg) := inb_of S3 hj2
  have hat3 : cl3.slots[((p1 + (2 : Int32))).toNatClampNeg]? = some (.int w2) := H3.at hin3 hg2
  obtain ⟨cl4, Ar4, q4, S4, M4, H4, G4⟩ := id pr0
  have hin4 : ¬ ((p1 + (3 : Int32)) < 0 ∨ cl4.slots.size ≤ ((p1 + (3 : Int32))).toNatClampNeg) := inb_of S4 hj3
  have hat4 : cl4.slots[((p1 + (3 : Int32))).toNatClampNeg]? = some (.int w3) := H4.at hin4 hg3
  obtain ⟨fs, hr, hrun, hended, hW, hsame⟩ := X0.leave (v := some (.int (((((w0 &&& (255 : Int32)) <<< ((24 : Int32) &&& 31)) ||| ((w1 &&& (255 : Int32)) <<< ((16 : Int32) &&& 31))) ||| ((w2 &&& (255 : Int32)) <<< ((8 : Int32) &&& 31))) ||| (w3 &&& (255 : Int32))))) (fun h => by rw [Bd.returns] at h; cases h)
  refine ⟨_, _, pre0 _ ?_, hrun, hended, _, _, rfl, ?_, ⟨_, rfl⟩, hW, hsame.mono (by decide) (by decide)⟩
  · show Steps p.tables e below (s₁.setTop (mkF m 0 #[.val (.ref a0), .val (.int p1)] [])) _
    refine XS.aloadN X0.here hx rfl (hb hby own_d1_0) rfl rfl ?_
    show Steps p.tables e below (s₁.setTop (mkF m 1 #[.val (.ref a0), .val (.int p1)] [(.ref a0)])) _
    refine XS.iloadN X0.here hx rfl (hb hby own_d1_1) rfl ?_
    show Steps p.tables e below (s₁.setTop (mkF m 2 #[.val (.ref a0), .val (.int p1)] [(.int p1), (.ref a0)])) _
    refine X0.baloadBytes hx (j := p1) (v := (.int w0)) (by rw [e0]; exact Ar1.1) (State.isArrayOf_alike hZ.alike Ar1.2.1) Ar1.2.2 hin1 hat1 (g := (mkF m 2 #[.val (.ref a0), .val (.int p1)] [(.int p1), (.ref a0)])) rfl rfl (hb hby own_d1_2) _ ?_
    show Steps p.tables e below (s₁.setTop (mkF m 3 #[.val (.ref a0), .val (.int p1)] [(.int w0)])) _
    refine XS.sipush X0.here hx rfl (hb hby own_d1_3) ?_
    show Steps p.tables e below (s₁.setTop (mkF m 6 #[.val (.ref a0), .val (.int p1)] [(.int (255 : Int32)), (.int w0)])) _
    refine XS.iand X0.here hx rfl (hb hby own_d1_6) rfl ?_
    show Steps p.tables e below (s₁.setTop (mkF m 7 #[.val (.ref a0), .val (.int p1)] [(.int (w0 &&& (255 : Int32)))])) _
    refine XS.bipush X0.here hx rfl (hb hby own_d1_7) ?_
    show Steps p.tables e below (s₁.setTop (mkF m 9 #[.val (.ref a0), .val (.int p1)] [(.int (24 : Int32)), (.int (w0 &&& (255 : Int32)))])) _
    refine XS.ishl X0.here hx rfl (hb hby own_d1_9) rfl ?_
    show Steps p.tables e below (s₁.setTop (mkF m 10 #[.val (.ref a0), .val (.int p1)] [(.int ((w0 &&& (255 : Int32)) <<< ((24 : Int32) &&& 31)))])) _
    refine XS.aloadN X0.here hx rfl (hb hby own_d1_10) rfl rfl ?_
    show Steps p.tables e below (s₁.setTop (mkF m 11 #[.val (.ref a0), .val (.int p1)] [(.ref a0), (.int ((w0 &&& (255 : Int32)) <<< ((24 : Int32) &&& 31)))])) _
    refine XS.iloadN X0.here hx rfl (hb hby own_d1_11) rfl ?_
    show Steps p.tables e below (s₁.setTop (mkF m 12 #[.val (.ref a0), .val (.int p1)] [(.int p1), (.ref a0), (.int ((w0 &&& (255 : Int32)) <<< ((24 : Int32) &&& 31)))])) _
    refine XS.iconst X0.here hx rfl (hb hby own_d1_12) ?_
    show Steps p.tables e below (s₁.setTop (mkF m 13 #[.val (.ref a0), .val (.int p1)] [(.int (1 : Int32)), (.int p1), (.ref a0), (.int ((w0 &&& (255 : Int32)) <<< ((24 : Int32) &&& 31)))])) _
    refine XS.iadd X0.here hx rfl (hb hby own_d1_13) rfl ?_
    show Steps p.tables e below (s₁.setTop (mkF m 14 #[.val (.ref a0), .val (.int p1)] [(.int (p1 + (1 : Int32))), (.ref a0), (.int ((w0 &&& (255 : Int32)) <<< ((24 : Int32) &&& 31)))])) _
    refine X0.baloadBytes hx (j := (p1 + (1 : Int32))) (v := (.int w1)) (by rw [e0]; exact Ar2.1) (State.isArrayOf_alike hZ.alike Ar2.2.1) Ar2.2.2 hin2 hat2 (g := (mkF m 14 #[.val (.ref a0), .val (.int p1)] [(.int (p1 + (1 : Int32))), (.ref a0), (.int ((w0 &&& (255 : Int32)) <<< ((24 : Int32) &&& 31)))])) rfl rfl (hb hby own_d1_14) _ ?_
    show Steps p.tables e below (s₁.setTop (mkF m 15 #[.val (.ref a0), .val (.int p1)] [(.int w1), (.int ((w0 &&& (255 : Int32)) <<< ((24 : Int32) &&& 31)))])) _
    refine XS.sipush X0.here hx rfl (hb hby own_d1_15) ?_
    show Steps p.tables e below (s₁.setTop (mkF m 18 #[.val (.ref a0), .val (.int p1)] [(.int (255 : Int32)), (.int w1), (.int ((w0 &&& (255 : Int32)) <<< ((24 : Int32) &&& 31)))])) _
    refine XS.iand X0.here hx rfl (hb hby own_d1_18) rfl ?_
    show Steps p.tables e below (s₁.setTop (mkF m 19 #[.val (.ref a0), .val (.int p1)] [(.int (w1 &&& (255 : Int32))), (.int ((w0 &&& (255 : Int32)) <<< ((24 : Int32) &&& 31)))])) _
    refine XS.bipush X0.here hx rfl (hb hby own_d1_19) ?_
    show Steps p.tables e below (s₁.setTop (mkF m 21 #[.val (.ref a0), .val (.int p1)] [(.int (16 : Int32)), (.int (w1 &&& (255 : Int32))), (.int ((w0 &&& (255 : Int32)) <<< ((24 : Int32) &&& 31)))])) _
    refine XS.ishl X0.here hx rfl (hb hby own_d1_21) rfl ?_
    show Steps p.tables e below (s₁.setTop (mkF m 22 #[.val (.ref a0), .val (.int p1)] [(.int ((w1 &&& (255 : Int32)) <<< ((16 : Int32) &&& 31))), (.int ((w0 &&& (255 : Int32)) <<< ((24 : Int32) &&& 31)))])) _
    refine XS.ior X0.here hx rfl (hb hby own_d1_22) rfl ?_
    show Steps p.tables e below (s₁.setTop (mkF m 23 #[.val (.ref a0), .val (.int p1)] [(.int (((w0 &&& (255 : Int32)) <<< ((24 : Int32) &&& 31)) ||| ((w1 &&& (255 : Int32)) <<< ((16 : Int32) &&& 31))))])) _
    refine XS.aloadN X0.here hx rfl (hb hby own_d1_23) rfl rfl ?_
    show Steps p.tables e below (s₁.setTop (mkF m 24 #[.val (.ref a0), .val (.int p1)] [(.ref a0), (.int (((w0 &&& (255 : Int32)) <<< ((24 : Int32) &&& 31)) ||| ((w1 &&& (255 : Int32)) <<< ((16 : Int32) &&& 31))))])) _
    refine XS.iloadN X0.here hx rfl (hb hby own_d1_24) rfl ?_
    show Steps p.tables e below (s₁.setTop (mkF m 25 #[.val (.ref a0), .val (.int p1)] [(.int p1), (.ref a0), (.int (((w0 &&& (255 : Int32)) <<< ((24 : Int32) &&& 31)) ||| ((w1 &&& (255 : Int32)) <<< ((16 : Int32) &&& 31))))])) _
    refine XS.iconst X0.here hx rfl (hb hby own_d1_25) ?_
    show Steps p.tables e below (s₁.setTop (mkF m 26 #[.val (.ref a0), .val (.int p1)] [(.int (2 : Int32)), (.int p1), (.ref a0), (.int (((w0 &&& (255 : Int32)) <<< ((24 : Int32) &&& 31)) ||| ((w1 &&& (255 : Int32)) <<< ((16 : Int32) &&& 31))))])) _
    refine XS.iadd X0.here hx rfl (hb hby own_d1_26) rfl ?_
    show Steps p.tables e below (s₁.setTop (mkF m 27 #[.val (.ref a0), .val (.int p1)] [(.int (p1 + (2 : Int32))), (.ref a0), (.int (((w0 &&& (255 : Int32)) <<< ((24 : Int32) &&& 31)) ||| ((w1 &&& (255 : Int32)) <<< ((16 : Int32) &&& 31))))])) _
    refine X0.baloadBytes hx (j := (p1 + (2 : Int32))) (v := (.int w2)) (by rw [e0]; exact Ar3.1) (State.isArrayOf_alike hZ.alike Ar3.2.1) Ar3.2.2 hin3 hat3 (g := (mkF m 27 #[.val (.ref a0), .val (.int p1)] [(.int (p1 + (2 : Int32))), (.ref a0), (.int (((w0 &&& (255 : Int32)) <<< ((24 : Int32) &&& 31)) ||| ((w1 &&& (255 : Int32)) <<< ((16 : Int32) &&& 31))))])) rfl rfl (hb hby own_d1_27) _ ?_
    show Steps p.tables e below (s₁.setTop (mkF m 28 #[.val (.ref a0), .val (.int p1)] [(.int w2), (.int (((w0 &&& (255 : Int32)) <<< ((24 : Int32) &&& 31)) ||| ((w1 &&& (255 : Int32)) <<< ((16 : Int32) &&& 31))))])) _
    refine XS.sipush X0.here hx rfl (hb hby own_d1_28) ?_
    show Steps p.tables e below (s₁.setTop (mkF m 31 #[.val (.ref a0), .val (.int p1)] [(.int (255 : Int32)), (.int w2), (.int (((w0 &&& (255 : Int32)) <<< ((24 : Int32) &&& 31)) ||| ((w1 &&& (255 : Int32)) <<< ((16 : Int32) &&& 31))))])) _
    refine XS.iand X0.here hx rfl (hb hby own_d1_31) rfl ?_
    show Steps p.tables e below (s₁.setTop (mkF m 32 #[.val (.ref a0), .val (.int p1)] [(.int (w2 &&& (255 : Int32))), (.int (((w0 &&& (255 : Int32)) <<< ((24 : Int32) &&& 31)) ||| ((w1 &&& (255 : Int32)) <<< ((16 : Int32) &&& 31))))])) _
    refine XS.bipush X0.here hx rfl (hb hby own_d1_32) ?_
    show Steps p.tables e below (s₁.setTop (mkF m 34 #[.val (.ref a0), .val (.int p1)] [(.int (8 : Int32)), (.int (w2 &&& (255 : Int32))), (.int (((w0 &&& (255 : Int32)) <<< ((24 : Int32) &&& 31)) ||| ((w1 &&& (255 : Int32)) <<< ((16 : Int32) &&& 31))))])) _
    refine XS.ishl X0.here hx rfl (hb hby own_d1_34) rfl ?_
    show Steps p.tables e below (s₁.setTop (mkF m 35 #[.val (.ref a0), .val (.int p1)] [(.int ((w2 &&& (255 : Int32)) <<< ((8 : Int32) &&& 31))), (.int (((w0 &&& (255 : Int32)) <<< ((24 : Int32) &&& 31)) ||| ((w1 &&& (255 : Int32)) <<< ((16 : Int32) &&& 31))))])) _
    refine XS.ior X0.here hx rfl (hb hby own_d1_35) rfl ?_
    show Steps p.tables e below (s₁.setTop (mkF m 36 #[.val (.ref a0), .val (.int p1)] [(.int ((((w0 &&& (255 : Int32)) <<< ((24 : Int32) &&& 31)) ||| ((w1 &&& (255 : Int32)) <<< ((16 : Int32) &&& 31))) ||| ((w2 &&& (255 : Int32)) <<< ((8 : Int32) &&& 31))))])) _
    refine XS.aloadN X0.here hx rfl (hb hby own_d1_36) rfl rfl ?_
    show Steps p.tables e below (s₁.setTop (mkF m 37 #[.val (.ref a0), .val (.int p1)] [(.ref a0), (.int ((((w0 &&& (255 : Int32)) <<< ((24 : Int32) &&& 31)) ||| ((w1 &&& (255 : Int32)) <<< ((16 : Int32) &&& 31))) ||| ((w2 &&& (255 : Int32)) <<< ((8 : Int32) &&& 31))))])) _
    refine XS.iloadN X0.here hx rfl (hb hby own_d1_37) rfl ?_
    show Steps p.tables e below (s₁.setTop (mkF m 38 #[.val (.ref a0), .val (.int p1)] [(.int p1), (.ref a0), (.int ((((w0 &&& (255 : Int32)) <<< ((24 : Int32) &&& 31)) ||| ((w1 &&& (255 : Int32)) <<< ((16 : Int32) &&& 31))) ||| ((w2 &&& (255 : Int32)) <<< ((8 : Int32) &&& 31))))])) _
    refine XS.iconst X0.here hx rfl (hb hby own_d1_38) ?_
    show Steps p.tables e below (s₁.setTop (mkF m 39 #[.val (.ref a0), .val (.int p1)] [(.int (3 : Int32)), (.int p1), (.ref a0), (.int ((((w0 &&& (255 : Int32)) <<< ((24 : Int32) &&& 31)) ||| ((w1 &&& (255 : Int32)) <<< ((16 : Int32) &&& 31))) ||| ((w2 &&& (255 : Int32)) <<< ((8 : Int32) &&& 31))))])) _
    refine XS.iadd X0.here hx rfl (hb hby own_d1_39) rfl ?_
    show Steps p.tables e below (s₁.setTop (mkF m 40 #[.val (.ref a0), .val (.int p1)] [(.int (p1 + (3 : Int32))), (.ref a0), (.int ((((w0 &&& (255 : Int32)) <<< ((24 : Int32) &&& 31)) ||| ((w1 &&& (255 : Int32)) <<< ((16 : Int32) &&& 31))) ||| ((w2 &&& (255 : Int32)) <<< ((8 : Int32) &&& 31))))])) _
    refine X0.baloadBytes hx (j := (p1 + (3 : Int32))) (v := (.int w3)) (by rw [e0]; exact Ar4.1) (State.isArrayOf_alike hZ.alike Ar4.2.1) Ar4.2.2 hin4 hat4 (g := (mkF m 40 #[.val (.ref a0), .val (.int p1)] [(.int (p1 + (3 : Int32))), (.ref a0), (.int ((((w0 &&& (255 : Int32)) <<< ((24 : Int32) &&& 31)) ||| ((w1 &&& (255 : Int32)) <<< ((16 : Int32) &&& 31))) ||| ((w2 &&& (255 : Int32)) <<< ((8 : Int32) &&& 31))))])) rfl rfl (hb hby own_d1_40) _ ?_
    show Steps p.tables e below (s₁.setTop (mkF m 41 #[.val (.ref a0), .val (.int p1)] [(.int w3), (.int ((((w0 &&& (255 : Int32)) <<< ((24 : Int32) &&& 31)) ||| ((w1 &&& (255 : Int32)) <<< ((16 : Int32) &&& 31))) ||| ((w2 &&& (255 : Int32)) <<< ((8 : Int32) &&& 31))))])) _
    refine XS.sipush X0.here hx rfl (hb hby own_d1_41) ?_
    show Steps p.tables e below (s₁.setTop (mkF m 44 #[.val (.ref a0), .val (.int p1)] [(.int (255 : Int32)), (.int w3), (.int ((((w0 &&& (255 : Int32)) <<< ((24 : Int32) &&& 31)) ||| ((w1 &&& (255 : Int32)) <<< ((16 : Int32) &&& 31))) ||| ((w2 &&& (255 : Int32)) <<< ((8 : Int32) &&& 31))))])) _
    refine XS.iand X0.here hx rfl (hb hby own_d1_44) rfl ?_
    show Steps p.tables e below (s₁.setTop (mkF m 45 #[.val (.ref a0), .val (.int p1)] [(.int (w3 &&& (255 : Int32))), (.int ((((w0 &&& (255 : Int32)) <<< ((24 : Int32) &&& 31)) ||| ((w1 &&& (255 : Int32)) <<< ((16 : Int32) &&& 31))) ||| ((w2 &&& (255 : Int32)) <<< ((8 : Int32) &&& 31))))])) _
    refine XS.ior X0.here hx rfl (hb hby own_d1_45) rfl ?_
    show Steps p.tables e below (s₁.setTop (mkF m 46 #[.val (.ref a0), .val (.int p1)] [(.int (((((w0 &&& (255 : Int32)) <<< ((24 : Int32) &&& 31)) ||| ((w1 &&& (255 : Int32)) <<< ((16 : Int32) &&& 31))) ||| ((w2 &&& (255 : Int32)) <<< ((8 : Int32) &&& 31))) ||| (w3 &&& (255 : Int32))))])) _
    exact retI X0 hx Bd.returns (hb hby own_d1_46) hr
  · show own_Q1 Z a0 p1 kk nn vs dv w0 w1 w2 w3 h0 n0 _ s₁.heap _
    rw [e0]
    exact ⟨rfl, N0, rfl⟩
theorem own_byte (x y : Int32) (h : x = (y.toInt8.toInt32)) : ((nar .byte x) &&& (255 : Int32)).toInt = y.toInt % 256 := by
  have e1 := c_i2b y
  have e2 := c_i2b (y.toInt8.toInt32)
  have e3 := c_mask (nar .byte x) (255 : Int32) 8 (by decide) (by decide)
  subst h
  change ((nar .byte (y.toInt8.toInt32)) &&& (255 : Int32)).toInt = (y.toInt8.toInt32.toInt8.toInt32).toInt % _ at e3
  rw [e3]
  generalize (y.toInt8.toInt32.toInt8.toInt32).toInt = b at *
  generalize (y.toInt8.toInt32).toInt = a at *
  omega
theorem own_join (m0 m1 m2 m3 : Int32) (h0 : 0 ≤ m0.toInt ∧ m0.toInt < 256) (h1 : 0 ≤ m1.toInt ∧ m1.toInt < 256) (h2 : 0 ≤ m2.toInt ∧ m2.toInt < 256) (h3 : 0 ≤ m3.toInt ∧ m3.toInt < 256) :
    (((((m0 <<< ((24 : Int32) &&& 31)) ||| (m1 <<< ((16 : Int32) &&& 31))) ||| (m2 <<< ((8 : Int32) &&& 31))) ||| m3).toInt - (m0.toInt * 16777216 + m1.toInt * 65536 + m2.toInt * 256 + m3.toInt)) % 4294967296 = 0 := by
  have s0 := c_ishl m0 (24 : Int32) 24 (by decide)
  have s1 := c_ishl m1 (16 : Int32) 16 (by decide)
  have s2 := c_ishl m2 (8 : Int32) 8 (by decide)
  generalize (m0 <<< ((24 : Int32) &&& 31)) = a0 at *
  generalize (m1 <<< ((16 : Int32) &&& 31)) = a1 at *
  generalize (m2 <<< ((8 : Int32) &&& 31)) = a2 at *
  have b1 := Int32.le_toInt a0; have b2 := Int32.toInt_lt a0
  have b3 := Int32.le_toInt a1; have b4 := Int32.toInt_lt a1
  have b5 := Int32.le_toInt a2; have b6 := Int32.toInt_lt a2
  have o1 := c_or a0 a1 24 (by decide) 16777216 (by decide) (by omega) (by omega) (by omega)
  generalize (a0 ||| a1) = c1 at *
  have b7 := Int32.le_toInt c1; have b8 := Int32.toInt_lt c1
  have o2 := c_or c1 a2 16 (by decide) 65536 (by decide) (by omega) (by omega) (by omega)
  generalize (c1 ||| a2) = c2 at *
  have b9 := Int32.le_toInt c2; have b10 := Int32.toInt_lt c2
  have o3 := c_or c2 m3 8 (by decide) 256 (by decide) (by omega) (by omega) (by omega)
  generalize (c2 ||| m3) = c3 at *
  omega
theorem own_rdN (b0 b1 b2 b3 y0 y1 y2 y3 : Int32) (h0 : b0 = (y0.toInt8.toInt32)) (h1 : b1 = (y1.toInt8.toInt32)) (h2 : b2 = (y2.toInt8.toInt32)) (h3 : b3 = (y3.toInt8.toInt32)) :
    ((own_rd (nar .byte b0) (nar .byte b1) (nar .byte b2) (nar .byte b3)).toInt - ((y0.toInt % 256) * 16777216 + (y1.toInt % 256) * 65536 + (y2.toInt % 256) * 256 + y3.toInt % 256)) % 4294967296 = 0 := by
  have e0 := own_byte b0 y0 h0; have e1 := own_byte b1 y1 h1; have e2 := own_byte b2 y2 h2; have e3 := own_byte b3 y3 h3
  unfold own_rd
  have j := own_join (nar .byte b0 &&& (255 : Int32)) (nar .byte b1 &&& (255 : Int32)) (nar .byte b2 &&& (255 : Int32)) (nar .byte b3 &&& (255 : Int32)) (by omega) (by omega) (by omega) (by omega)
  rw [e0, e1, e2, e3] at j
  exact j
theorem own_rd_ok (p b0 b1 b2 b3 : Int32) (h0 : b0 = (((p.toUInt32 >>> ((24 : Int32) &&& 31).toUInt32).toInt32).toInt8.toInt32)) (h1 : b1 = (((p.toUInt32 >>> ((16 : Int32) &&& 31).toUInt32).toInt32).toInt8.toInt32)) (h2 : b2 = (((p.toUInt32 >>> ((8 : Int32) &&& 31).toUInt32).toInt32).toInt8.toInt32)) (h3 : b3 = (p.toInt8.toInt32)) : own_rd (nar .byte b0) (nar .byte b1) (nar .byte b2) (nar .byte b3) = p := by
  have j := own_rdN b0 b1 b2 b3 _ _ _ _ h0 h1 h2 h3
  have e0 := c_iushr p (24 : Int32) 24 (by decide) (by decide)
  have e1 := c_iushr p (16 : Int32) 16 (by decide) (by decide)
  have e2 := c_iushr p (8 : Int32) 8 (by decide) (by decide)
  rw [e0, e1, e2] at j
  apply Int32.toInt_inj.mp
  generalize own_rd (nar .byte b0) (nar .byte b1) (nar .byte b2) (nar .byte b3) = r at *
  have b1 := Int32.le_toInt r; have b2 := Int32.toInt_lt r
  have b3 := Int32.le_toInt p; have b4 := Int32.toInt_lt p
  omega
theorem own_pd0 : parseMethodDescriptor "([BI)I" = some ⟨[(.array .byte), .int], some .int⟩ := by decide +kernel
set_option maxRecDepth 65536 in
set_option maxHeartbeats 40000000 in
theorem own_side66 (p2 : Int32) (v65 : Int32) (hv65 : v65 = ((p2 &&& (2147483647 : Int32)) % (5 : Int32))) : v65 = (0 : Int32) ∨ v65 = (1 : Int32) ∨ v65 = (2 : Int32) ∨ v65 = (3 : Int32) ∨ v65 = (4 : Int32) := by
  have := c_mask p2 (2147483647 : Int32) 31 (by decide) (by decide)
  have := Int32.le_toInt ((p2 &&& (2147483647 : Int32))); have := Int32.toInt_lt ((p2 &&& (2147483647 : Int32)))
  have := c_irem (p2 &&& (2147483647 : Int32)) (5 : Int32) (5) (by decide)
  have := Int32.le_toInt (((p2 &&& (2147483647 : Int32)) % (5 : Int32))); have := Int32.toInt_lt (((p2 &&& (2147483647 : Int32)) % (5 : Int32)))
  have := Int32.le_toInt p2; have := Int32.toInt_lt p2
  have := Int32.le_toInt v65; have := Int32.toInt_lt v65
  simp only [Int32.lt_iff_toInt_lt, Int64.lt_iff_toInt_lt, ← Int32.toInt_inj, ← Int64.toInt_inj, Int32.reduceToInt, Int64.reduceToInt] at *
  all_goals omega
set_option maxRecDepth 65536 in
set_option maxHeartbeats 40000000 in
theorem own_leaf0_2 (p0 : Int32) (v69 : Int32) (hv69 : v69 = (((p0.toUInt32 >>> ((24 : Int32) &&& 31).toUInt32).toInt32).toInt8.toInt32)) (v76 : Int32) (hv76 : v76 = (((p0.toUInt32 >>> ((16 : Int32) &&& 31).toUInt32).toInt32).toInt8.toInt32)) (v83 : Int32) (hv83 : v83 = (((p0.toUInt32 >>> ((8 : Int32) &&& 31).toUInt32).toInt32).toInt8.toInt32)) (v90 : Int32) (hv90 : v90 = (p0.toInt8.toInt32)) (hc101 : ¬ ((own_rd (nar .byte v69) (nar .byte v76) (nar .byte v83) (nar .byte v90)) = p0)) : False := by
  exact hc101 (own_rd_ok p0 v69 v76 v83 v90 hv69 hv76 hv83 hv90)
set_option maxRecDepth 65536 in
set_option maxHeartbeats 40000000 in
theorem own_leaf0_4 (p0 : Int32) (v102 : Int32) (hv102 : v102 = (((p0.toUInt32 >>> ((24 : Int32) &&& 31).toUInt32).toInt32).toInt8.toInt32)) (v109 : Int32) (hv109 : v109 = (((p0.toUInt32 >>> ((16 : Int32) &&& 31).toUInt32).toInt32).toInt8.toInt32)) (v116 : Int32) (hv116 : v116 = (((p0.toUInt32 >>> ((8 : Int32) &&& 31).toUInt32).toInt32).toInt8.toInt32)) (v123 : Int32) (hv123 : v123 = (p0.toInt8.toInt32)) (hc134 : ¬ ((own_rd (nar .byte v102) (nar .byte v109) (nar .byte v116) (nar .byte v123)) = p0)) : False := by
  exact hc134 (own_rd_ok p0 v102 v109 v116 v123 hv102 hv109 hv116 hv123)
set_option maxRecDepth 65536 in
set_option maxHeartbeats 40000000 in
theorem own_leaf0_6 (p0 : Int32) (v135 : Int32) (hv135 : v135 = (((p0.toUInt32 >>> ((24 : Int32) &&& 31).toUInt32).toInt32).toInt8.toInt32)) (v142 : Int32) (hv142 : v142 = (((p0.toUInt32 >>> ((16 : Int32) &&& 31).toUInt32).toInt32).toInt8.toInt32)) (v149 : Int32) (hv149 : v149 = (((p0.toUInt32 >>> ((8 : Int32) &&& 31).toUInt32).toInt32).toInt8.toInt32)) (v156 : Int32) (hv156 : v156 = (p0.toInt8.toInt32)) (hc167 : ¬ ((own_rd (nar .byte v135) (nar .byte v142) (nar .byte v149) (nar .byte v156)) = p0)) : False := by
  exact hc167 (own_rd_ok p0 v135 v142 v149 v156 hv135 hv142 hv149 hv156)
set_option maxRecDepth 65536 in
set_option maxHeartbeats 40000000 in
theorem own_leaf0_8 (p0 : Int32) (v168 : Int32) (hv168 : v168 = (((p0.toUInt32 >>> ((24 : Int32) &&& 31).toUInt32).toInt32).toInt8.toInt32)) (v175 : Int32) (hv175 : v175 = (((p0.toUInt32 >>> ((16 : Int32) &&& 31).toUInt32).toInt32).toInt8.toInt32)) (v182 : Int32) (hv182 : v182 = (((p0.toUInt32 >>> ((8 : Int32) &&& 31).toUInt32).toInt32).toInt8.toInt32)) (v189 : Int32) (hv189 : v189 = (p0.toInt8.toInt32)) (hc200 : ¬ ((own_rd (nar .byte v168) (nar .byte v175) (nar .byte v182) (nar .byte v189)) = p0)) : False := by
  exact hc200 (own_rd_ok p0 v168 v175 v182 v189 hv168 hv175 hv182 hv189)
set_option maxRecDepth 65536 in
set_option maxHeartbeats 40000000 in
theorem own_leaf0_10 (p0 : Int32) (v201 : Int32) (hv201 : v201 = (((p0.toUInt32 >>> ((24 : Int32) &&& 31).toUInt32).toInt32).toInt8.toInt32)) (v208 : Int32) (hv208 : v208 = (((p0.toUInt32 >>> ((16 : Int32) &&& 31).toUInt32).toInt32).toInt8.toInt32)) (v215 : Int32) (hv215 : v215 = (((p0.toUInt32 >>> ((8 : Int32) &&& 31).toUInt32).toInt32).toInt8.toInt32)) (v222 : Int32) (hv222 : v222 = (p0.toInt8.toInt32)) (hc233 : ¬ ((own_rd (nar .byte v201) (nar .byte v208) (nar .byte v215) (nar .byte v222)) = p0)) : False := by
  exact hc233 (own_rd_ok p0 v201 v208 v215 v222 hv201 hv208 hv215 hv222)
theorem own_pn37 : plainName "com/example/all1/all1/EncodingReadIntPinLaw" = true := by first | (simp [plainName, overriddenIn]; done) | decide +kernel
theorem own_ef0 (m : MethodId) (p0 : Int32) (q1 : Int64) (p2 : Int32) : entryFrame m #[(.int p0), (.long q1), (.int p2)] maxLocals = mkF m 0 #[.val (.int p0), .val (.long q1), .second, .val (.int p2), .unset, .unset] [] := by first | (simp [entryFrame, mkF, argsToLocals, Value.category, maxLocals]; done) | rfl
def own_Q0 (Z : State) (p0 : Int32) (q1 : Int64) (p2 : Int32) (h0 : Heap) (n0 : Nat) (v : Option Value) (h : Heap) (L : List Loc) : Prop := v = some (.int 1) ∧ Fr n0 L
set_option maxRecDepth 65536 in
set_option maxHeartbeats 40000000 in
theorem own_rm0 (l : Launch) (Z : State) (a0 : Array Value) (hw : ∀ d ∈ tables_1, d.before a0 Z = true) (ws : List Jvm.Cond) (p0 : Int32) (q1 : Int64) (p2 : Int32) (h0 : Heap) (n0 : Nat) (Z0 : n0 ≤ h0.size) :
    MetFree l x (head1 (Jvm.Cond.code x code maxLocals ret :: ws) room_1) (fun a U => a = #[(.int p0), (.long q1), (.int p2)] ∧ Z.Warmed39 U.vm ∧ U.heap = h0) (fun _ _ _ _ _ => True) (fun _ U o U' => ∃ v L, o = .returned v ∧ own_Q0 Z p0 q1 p2 h0 n0 v U'.heap L ∧ FrameEnd U o U' L room_1.cells room_1.slots) := by
  refine MetFree.of_bodySF (plainFor_of_name own_pn37) hisR ?_
  intro p e s m args below meth c s₁ Bd hml0 hP hK
  obtain ⟨rfl, hZ, hh⟩ := hP
  have hx := Bd.exec
  have hby := Bd.bytes
  have hml : c.maxLocals = 6 := hml0
  have hown : s.vm.findClass "com/example/all1/all1/EncodingReadIntPinLaw" = some m.cls := findClass_of_methodNamed Bd.named
  have hnm := (name_of_methodNamed Bd.named Bd.method).1
  have X0 : Stand p l e room_1 s m #[(.int p0), (.long q1), (.int p2)] below meth c s₁ [] 0 0 := Stand.of_body Bd
  have e0 : s₁.heap = h0 := by rw [← hh, Bd.state]; rfl
  have N0 := Fr.nil n0
  have pre0 : ∀ t, Steps p.tables e below (s₁.setTop (mkF m 0 #[.val (.int p0), .val (.long q1), .second, .val (.int p2), .unset, .unset] [])) t → Steps p.tables e below (s₁.setTop (entryFrame m #[(.int p0), (.long q1), (.int p2)] maxLocals)) t := fun t k => castTop (own_ef0 m p0 q1 p2) k
  obtain ⟨T5, h5, k5, X5, e5, E5, A5, st5⟩ := newP X0 hx hZ (hw _ (List.mem_of_getElem? (i := 0) rfl)) e0 (g := (mkF m 2 #[.val (.int p0), .val (.long q1), .second, .val (.int p2), .unset, .unset] [(.int (8 : Int32))])) rfl (hb hby at_2) rfl (by decide) (cap := 8) (by decide) (by decide) (by decide) (by decide)
  obtain ⟨b5, g5⟩ : ∃ z, z = h0.size := ⟨_, rfl⟩
  have g_b5 : n0 ≤ b5 := Nat.le_trans Z0 (Nat.le_of_eq g5.symm)
  have sz_b5 : h0.size ≤ b5 := Nat.le_trans (Keep.refl h0 []).1 (Nat.le_of_eq g5.symm)
  rw [← g5] at A5 st5
  have z6 : n0 ≤ h5.size := Nat.le_trans Z0 E5.1
  have K7 : Keep h0 h5 [] := (Keep.refl h0 []).ext E5
  have f8 : Arv Z h5 b5 k5 .byte (8 : Int32) [(.int (0 : Int32)), (.int (0 : Int32)), (.int (0 : Int32)), (.int (0 : Int32)), (.int (0 : Int32)), (.int (0 : Int32)), (.int (0 : Int32)), (.int (0 : Int32))] (.int (0 : Int32)) := (Arv.new A5 (by decide)).pad (pad_rep [] (.int (0 : Int32)) 8)
  obtain ⟨v9, hv9⟩ : ∃ z : Int32, z = ((q1.toInt32).toInt8.toInt32) := ⟨_, rfl⟩
  obtain ⟨cl10, Ar10, q10, S10, M10, H10, G10⟩ := id f8
  have hin10 : ¬ ((0 : Int32) < 0 ∨ cl10.slots.size ≤ ((0 : Int32)).toNatClampNeg) := inb_of S10 ⟨by decide, by decide⟩
  obtain ⟨T11, h11, X11, e11, W11, st11⟩ := stB X5 hx hZ e5 Ar10 (j := (0 : Int32)) hin10 (g := (mkF m 12 #[.val (.int p0), .val (.long q1), .second, .val (.int p2), .val (.ref b5), .unset] [(.int v9), (.int (0 : Int32)), (.ref b5)])) rfl rfl (hb hby at_12)
  have K12 : Keep h0 h11 [] := K7.wr W11 (Or.inr sz_b5)
  have z13 : n0 ≤ h11.size := Nat.le_trans z6 (Keep.of_wr W11).1
  have N14 := Fr.snoc X11 N0 g_b5
  have f15 : Arv Z h11 b5 k5 .byte (8 : Int32) [(.int (nar .byte v9)), (.int (0 : Int32)), (.int (0 : Int32)), (.int (0 : Int32)), (.int (0 : Int32)), (.int (0 : Int32)), (.int (0 : Int32)), (.int (0 : Int32))] (.int (0 : Int32)) := Arv.set Ar10 q10 S10 M10 H10 G10 (fits_nar_byte _) W11 0 rfl (Nat.le_of_ble_eq_true rfl)
  obtain ⟨v16, hv16⟩ : ∃ z : Int32, z = ((((q1.toUInt64 >>> ((8 : Int32) &&& 0x3f).toInt64.toUInt64).toInt64).toInt32).toInt8.toInt32) := ⟨_, rfl⟩
  obtain ⟨cl17, Ar17, q17, S17, M17, H17, G17⟩ := id f15
  have hin17 : ¬ ((1 : Int32) < 0 ∨ cl17.slots.size ≤ ((1 : Int32)).toNatClampNeg) := inb_of S17 ⟨by decide, by decide⟩
  obtain ⟨T18, h18, X18, e18, W18, st18⟩ := stB X11 hx hZ e11 Ar17 (j := (1 : Int32)) hin17 (g := (mkF m 22 #[.val (.int p0), .val (.long q1), .second, .val (.int p2), .val (.ref b5), .unset] [(.int v16), (.int (1 : Int32)), (.ref b5)])) rfl rfl (hb hby at_22)
  have K19 : Keep h0 h18 [] := K12.wr W18 (Or.inr sz_b5)
  have z20 : n0 ≤ h18.size := Nat.le_trans z13 (Keep.of_wr W18).1
  have N21 := Fr.snoc X18 N14 g_b5
  have f22 : Arv Z h18 b5 k5 .byte (8 : Int32) [(.int (nar .byte v9)), (.int (nar .byte v16)), (.int (0 : Int32)), (.int (0 : Int32)), (.int (0 : Int32)), (.int (0 : Int32)), (.int (0 : Int32)), (.int (0 : Int32))] (.int (0 : Int32)) := Arv.set Ar17 q17 S17 M17 H17 G17 (fits_nar_byte _) W18 1 rfl (Nat.le_of_ble_eq_true rfl)
  obtain ⟨v23, hv23⟩ : ∃ z : Int32, z = ((((q1.toUInt64 >>> ((16 : Int32) &&& 0x3f).toInt64.toUInt64).toInt64).toInt32).toInt8.toInt32) := ⟨_, rfl⟩
  obtain ⟨cl24, Ar24, q24, S24, M24, H24, G24⟩ := id f22
  have hin24 : ¬ ((2 : Int32) < 0 ∨ cl24.slots.size ≤ ((2 : Int32)).toNatClampNeg) := inb_of S24 ⟨by decide, by decide⟩
  obtain ⟨T25, h25, X25, e25, W25, st25⟩ := stB X18 hx hZ e18 Ar24 (j := (2 : Int32)) hin24 (g := (mkF m 32 #[.val (.int p0), .val (.long q1), .second, .val (.int p2), .val (.ref b5), .unset] [(.int v23), (.int (2 : Int32)), (.ref b5)])) rfl rfl (hb hby at_32)
  have K26 : Keep h0 h25 [] := K19.wr W25 (Or.inr sz_b5)
  have z27 : n0 ≤ h25.size := Nat.le_trans z20 (Keep.of_wr W25).1
  have N28 := Fr.snoc X25 N21 g_b5
  have f29 : Arv Z h25 b5 k5 .byte (8 : Int32) [(.int (nar .byte v9)), (.int (nar .byte v16)), (.int (nar .byte v23)), (.int (0 : Int32)), (.int (0 : Int32)), (.int (0 : Int32)), (.int (0 : Int32)), (.int (0 : Int32))] (.int (0 : Int32)) := Arv.set Ar24 q24 S24 M24 H24 G24 (fits_nar_byte _) W25 2 rfl (Nat.le_of_ble_eq_true rfl)
  obtain ⟨v30, hv30⟩ : ∃ z : Int32, z = ((((q1.toUInt64 >>> ((24 : Int32) &&& 0x3f).toInt64.toUInt64).toInt64).toInt32).toInt8.toInt32) := ⟨_, rfl⟩
  obtain ⟨cl31, Ar31, q31, S31, M31, H31, G31⟩ := id f29
  have hin31 : ¬ ((3 : Int32) < 0 ∨ cl31.slots.size ≤ ((3 : Int32)).toNatClampNeg) := inb_of S31 ⟨by decide, by decide⟩
  obtain ⟨T32, h32, X32, e32, W32, st32⟩ := stB X25 hx hZ e25 Ar31 (j := (3 : Int32)) hin31 (g := (mkF m 42 #[.val (.int p0), .val (.long q1), .second, .val (.int p2), .val (.ref b5), .unset] [(.int v30), (.int (3 : Int32)), (.ref b5)])) rfl rfl (hb hby at_42)
  have K33 : Keep h0 h32 [] := K26.wr W32 (Or.inr sz_b5)
  have z34 : n0 ≤ h32.size := Nat.le_trans z27 (Keep.of_wr W32).1
  have N35 := Fr.snoc X32 N28 g_b5
  have f36 : Arv Z h32 b5 k5 .byte (8 : Int32) [(.int (nar .byte v9)), (.int (nar .byte v16)), (.int (nar .byte v23)), (.int (nar .byte v30)), (.int (0 : Int32)), (.int (0 : Int32)), (.int (0 : Int32)), (.int (0 : Int32))] (.int (0 : Int32)) := Arv.set Ar31 q31 S31 M31 H31 G31 (fits_nar_byte _) W32 3 rfl (Nat.le_of_ble_eq_true rfl)
  obtain ⟨v37, hv37⟩ : ∃ z : Int32, z = ((((q1.toUInt64 >>> ((32 : Int32) &&& 0x3f).toInt64.toUInt64).toInt64).toInt32).toInt8.toInt32) := ⟨_, rfl⟩
  obtain ⟨cl38, Ar38, q38, S38, M38, H38, G38⟩ := id f36
  have hin38 : ¬ ((4 : Int32) < 0 ∨ cl38.slots.size ≤ ((4 : Int32)).toNatClampNeg) := inb_of S38 ⟨by decide, by decide⟩
  obtain ⟨T39, h39, X39, e39, W39, st39⟩ := stB X32 hx hZ e32 Ar38 (j := (4 : Int32)) hin38 (g := (mkF m 52 #[.val (.int p0), .val (.long q1), .second, .val (.int p2), .val (.ref b5), .unset] [(.int v37), (.int (4 : Int32)), (.ref b5)])) rfl rfl (hb hby at_52)
  have K40 : Keep h0 h39 [] := K33.wr W39 (Or.inr sz_b5)
  have z41 : n0 ≤ h39.size := Nat.le_trans z34 (Keep.of_wr W39).1
  have N42 := Fr.snoc X39 N35 g_b5
  have f43 : Arv Z h39 b5 k5 .byte (8 : Int32) [(.int (nar .byte v9)), (.int (nar .byte v16)), (.int (nar .byte v23)), (.int (nar .byte v30)), (.int (nar .byte v37)), (.int (0 : Int32)), (.int (0 : Int32)), (.int (0 : Int32))] (.int (0 : Int32)) := Arv.set Ar38 q38 S38 M38 H38 G38 (fits_nar_byte _) W39 4 rfl (Nat.le_of_ble_eq_true rfl)
  obtain ⟨v44, hv44⟩ : ∃ z : Int32, z = ((((q1.toUInt64 >>> ((40 : Int32) &&& 0x3f).toInt64.toUInt64).toInt64).toInt32).toInt8.toInt32) := ⟨_, rfl⟩
  obtain ⟨cl45, Ar45, q45, S45, M45, H45, G45⟩ := id f43
  have hin45 : ¬ ((5 : Int32) < 0 ∨ cl45.slots.size ≤ ((5 : Int32)).toNatClampNeg) := inb_of S45 ⟨by decide, by decide⟩
  obtain ⟨T46, h46, X46, e46, W46, st46⟩ := stB X39 hx hZ e39 Ar45 (j := (5 : Int32)) hin45 (g := (mkF m 62 #[.val (.int p0), .val (.long q1), .second, .val (.int p2), .val (.ref b5), .unset] [(.int v44), (.int (5 : Int32)), (.ref b5)])) rfl rfl (hb hby at_62)
  have K47 : Keep h0 h46 [] := K40.wr W46 (Or.inr sz_b5)
  have z48 : n0 ≤ h46.size := Nat.le_trans z41 (Keep.of_wr W46).1
  have N49 := Fr.snoc X46 N42 g_b5
  have f50 : Arv Z h46 b5 k5 .byte (8 : Int32) [(.int (nar .byte v9)), (.int (nar .byte v16)), (.int (nar .byte v23)), (.int (nar .byte v30)), (.int (nar .byte v37)), (.int (nar .byte v44)), (.int (0 : Int32)), (.int (0 : Int32))] (.int (0 : Int32)) := Arv.set Ar45 q45 S45 M45 H45 G45 (fits_nar_byte _) W46 5 rfl (Nat.le_of_ble_eq_true rfl)
  obtain ⟨v51, hv51⟩ : ∃ z : Int32, z = ((((q1.toUInt64 >>> ((48 : Int32) &&& 0x3f).toInt64.toUInt64).toInt64).toInt32).toInt8.toInt32) := ⟨_, rfl⟩
  obtain ⟨cl52, Ar52, q52, S52, M52, H52, G52⟩ := id f50
  have hin52 : ¬ ((6 : Int32) < 0 ∨ cl52.slots.size ≤ ((6 : Int32)).toNatClampNeg) := inb_of S52 ⟨by decide, by decide⟩
  obtain ⟨T53, h53, X53, e53, W53, st53⟩ := stB X46 hx hZ e46 Ar52 (j := (6 : Int32)) hin52 (g := (mkF m 73 #[.val (.int p0), .val (.long q1), .second, .val (.int p2), .val (.ref b5), .unset] [(.int v51), (.int (6 : Int32)), (.ref b5)])) rfl rfl (hb hby at_73)
  have K54 : Keep h0 h53 [] := K47.wr W53 (Or.inr sz_b5)
  have z55 : n0 ≤ h53.size := Nat.le_trans z48 (Keep.of_wr W53).1
  have N56 := Fr.snoc X53 N49 g_b5
  have f57 : Arv Z h53 b5 k5 .byte (8 : Int32) [(.int (nar .byte v9)), (.int (nar .byte v16)), (.int (nar .byte v23)), (.int (nar .byte v30)), (.int (nar .byte v37)), (.int (nar .byte v44)), (.int (nar .byte v51)), (.int (0 : Int32))] (.int (0 : Int32)) := Arv.set Ar52 q52 S52 M52 H52 G52 (fits_nar_byte _) W53 6 rfl (Nat.le_of_ble_eq_true rfl)
  obtain ⟨v58, hv58⟩ : ∃ z : Int32, z = ((((q1.toUInt64 >>> ((56 : Int32) &&& 0x3f).toInt64.toUInt64).toInt64).toInt32).toInt8.toInt32) := ⟨_, rfl⟩
  obtain ⟨cl59, Ar59, q59, S59, M59, H59, G59⟩ := id f57
  have hin59 : ¬ ((7 : Int32) < 0 ∨ cl59.slots.size ≤ ((7 : Int32)).toNatClampNeg) := inb_of S59 ⟨by decide, by decide⟩
  obtain ⟨T60, h60, X60, e60, W60, st60⟩ := stB X53 hx hZ e53 Ar59 (j := (7 : Int32)) hin59 (g := (mkF m 84 #[.val (.int p0), .val (.long q1), .second, .val (.int p2), .val (.ref b5), .unset] [(.int v58), (.int (7 : Int32)), (.ref b5)])) rfl rfl (hb hby at_84)
  have K61 : Keep h0 h60 [] := K54.wr W60 (Or.inr sz_b5)
  have z62 : n0 ≤ h60.size := Nat.le_trans z55 (Keep.of_wr W60).1
  have N63 := Fr.snoc X60 N56 g_b5
  have f64 : Arv Z h60 b5 k5 .byte (8 : Int32) [(.int (nar .byte v9)), (.int (nar .byte v16)), (.int (nar .byte v23)), (.int (nar .byte v30)), (.int (nar .byte v37)), (.int (nar .byte v44)), (.int (nar .byte v51)), (.int (nar .byte v58))] (.int (0 : Int32)) := Arv.set Ar59 q59 S59 M59 H59 G59 (fits_nar_byte _) W60 7 rfl (Nat.le_of_ble_eq_true rfl)
  obtain ⟨v65, hv65⟩ : ∃ z : Int32, z = ((p2 &&& (2147483647 : Int32)) % (5 : Int32)) := ⟨_, rfl⟩
  have pre67 : ∀ t, Steps p.tables e below (T60.setTop (mkF m 93 #[.val (.int p0), .val (.long q1), .second, .val (.int p2), .val (.ref b5), .val (.int v65)] [])) t → Steps p.tables e below (s₁.setTop (entryFrame m #[(.int p0), (.long q1), (.int p2)] maxLocals)) t := fun t kk => pre0 t (by
    show Steps p.tables e below (s₁.setTop (mkF m 0 #[.val (.int p0), .val (.long q1), .second, .val (.int p2), .unset, .unset] [])) _
    refine XS.bipush X0.here hx rfl (hb hby at_0) ?_
    show Steps p.tables e below (s₁.setTop (mkF m 2 #[.val (.int p0), .val (.long q1), .second, .val (.int p2), .unset, .unset] [(.int (8 : Int32))])) _
    refine st5 _ ?_
    show Steps p.tables e below (T5.setTop (mkF m 4 #[.val (.int p0), .val (.long q1), .second, .val (.int p2), .unset, .unset] [(.ref b5)])) _
    refine XS.astore X5.here hx rfl (hb hby at_4) rfl rfl (l' := #[.val (.int p0), .val (.long q1), .second, .val (.int p2), .val (.ref b5), .unset]) rfl ?_
    show Steps p.tables e below (T5.setTop (mkF m 6 #[.val (.int p0), .val (.long q1), .second, .val (.int p2), .val (.ref b5), .unset] [])) _
    refine XS.aload X5.here hx rfl (hb hby at_6) rfl rfl ?_
    show Steps p.tables e below (T5.setTop (mkF m 8 #[.val (.int p0), .val (.long q1), .second, .val (.int p2), .val (.ref b5), .unset] [(.ref b5)])) _
    refine XS.iconst X5.here hx rfl (hb hby at_8) ?_
    show Steps p.tables e below (T5.setTop (mkF m 9 #[.val (.int p0), .val (.long q1), .second, .val (.int p2), .val (.ref b5), .unset] [(.int (0 : Int32)), (.ref b5)])) _
    refine XS.lloadN X5.here hx rfl (hb hby at_9) rfl ?_
    show Steps p.tables e below (T5.setTop (mkF m 10 #[.val (.int p0), .val (.long q1), .second, .val (.int p2), .val (.ref b5), .unset] [(.long q1), (.int (0 : Int32)), (.ref b5)])) _
    refine XS.l2i X5.here hx rfl (hb hby at_10) rfl ?_
    show Steps p.tables e below (T5.setTop (mkF m 11 #[.val (.int p0), .val (.long q1), .second, .val (.int p2), .val (.ref b5), .unset] [(.int (q1.toInt32)), (.int (0 : Int32)), (.ref b5)])) _
    refine XS.i2b X5.here hx rfl (hb hby at_11) rfl ?_
    show Steps p.tables e below (T5.setTop (mkF m 12 #[.val (.int p0), .val (.long q1), .second, .val (.int p2), .val (.ref b5), .unset] [(.int ((q1.toInt32).toInt8.toInt32)), (.int (0 : Int32)), (.ref b5)])) _
    show Steps p.tables e below (T5.setTop (mkF m 12 #[.val (.int p0), .val (.long q1), .second, .val (.int p2), .val (.ref b5), .unset] [(.int ((q1.toInt32).toInt8.toInt32)), (.int (0 : Int32)), (.ref b5)])) _
    refine castTop (congrArg (fun z : Int32 => mkF m 12 #[.val (.int p0), .val (.long q1), .second, .val (.int p2), .val (.ref b5), .unset] [(.int z), (.int (0 : Int32)), (.ref b5)]) hv9.symm) ?_
    refine st11 _ ?_
    show Steps p.tables e below (T11.setTop (mkF m 13 #[.val (.int p0), .val (.long q1), .second, .val (.int p2), .val (.ref b5), .unset] [])) _
    refine XS.aload X11.here hx rfl (hb hby at_13) rfl rfl ?_
    show Steps p.tables e below (T11.setTop (mkF m 15 #[.val (.int p0), .val (.long q1), .second, .val (.int p2), .val (.ref b5), .unset] [(.ref b5)])) _
    refine XS.iconst X11.here hx rfl (hb hby at_15) ?_
    show Steps p.tables e below (T11.setTop (mkF m 16 #[.val (.int p0), .val (.long q1), .second, .val (.int p2), .val (.ref b5), .unset] [(.int (1 : Int32)), (.ref b5)])) _
    refine XS.lloadN X11.here hx rfl (hb hby at_16) rfl ?_
    show Steps p.tables e below (T11.setTop (mkF m 17 #[.val (.int p0), .val (.long q1), .second, .val (.int p2), .val (.ref b5), .unset] [(.long q1), (.int (1 : Int32)), (.ref b5)])) _
    refine XS.bipush X11.here hx rfl (hb hby at_17) ?_
    show Steps p.tables e below (T11.setTop (mkF m 19 #[.val (.int p0), .val (.long q1), .second, .val (.int p2), .val (.ref b5), .unset] [(.int (8 : Int32)), (.long q1), (.int (1 : Int32)), (.ref b5)])) _
    refine XS.lushr X11.here hx rfl (hb hby at_19) rfl ?_
    show Steps p.tables e below (T11.setTop (mkF m 20 #[.val (.int p0), .val (.long q1), .second, .val (.int p2), .val (.ref b5), .unset] [(.long ((q1.toUInt64 >>> ((8 : Int32) &&& 0x3f).toInt64.toUInt64).toInt64)), (.int (1 : Int32)), (.ref b5)])) _
    refine XS.l2i X11.here hx rfl (hb hby at_20) rfl ?_
    show Steps p.tables e below (T11.setTop (mkF m 21 #[.val (.int p0), .val (.long q1), .second, .val (.int p2), .val (.ref b5), .unset] [(.int (((q1.toUInt64 >>> ((8 : Int32) &&& 0x3f).toInt64.toUInt64).toInt64).toInt32)), (.int (1 : Int32)), (.ref b5)])) _
    refine XS.i2b X11.here hx rfl (hb hby at_21) rfl ?_
    show Steps p.tables e below (T11.setTop (mkF m 22 #[.val (.int p0), .val (.long q1), .second, .val (.int p2), .val (.ref b5), .unset] [(.int ((((q1.toUInt64 >>> ((8 : Int32) &&& 0x3f).toInt64.toUInt64).toInt64).toInt32).toInt8.toInt32)), (.int (1 : Int32)), (.ref b5)])) _
    show Steps p.tables e below (T11.setTop (mkF m 22 #[.val (.int p0), .val (.long q1), .second, .val (.int p2), .val (.ref b5), .unset] [(.int ((((q1.toUInt64 >>> ((8 : Int32) &&& 0x3f).toInt64.toUInt64).toInt64).toInt32).toInt8.toInt32)), (.int (1 : Int32)), (.ref b5)])) _
    refine castTop (congrArg (fun z : Int32 => mkF m 22 #[.val (.int p0), .val (.long q1), .second, .val (.int p2), .val (.ref b5), .unset] [(.int z), (.int (1 : Int32)), (.ref b5)]) hv16.symm) ?_
    refine st18 _ ?_
    show Steps p.tables e below (T18.setTop (mkF m 23 #[.val (.int p0), .val (.long q1), .second, .val (.int p2), .val (.ref b5), .unset] [])) _
    refine XS.aload X18.here hx rfl (hb hby at_23) rfl rfl ?_
    show Steps p.tables e below (T18.setTop (mkF m 25 #[.val (.int p0), .val (.long q1), .second, .val (.int p2), .val (.ref b5), .unset] [(.ref b5)])) _
    refine XS.iconst X18.here hx rfl (hb hby at_25) ?_
    show Steps p.tables e below (T18.setTop (mkF m 26 #[.val (.int p0), .val (.long q1), .second, .val (.int p2), .val (.ref b5), .unset] [(.int (2 : Int32)), (.ref b5)])) _
    refine XS.lloadN X18.here hx rfl (hb hby at_26) rfl ?_
    show Steps p.tables e below (T18.setTop (mkF m 27 #[.val (.int p0), .val (.long q1), .second, .val (.int p2), .val (.ref b5), .unset] [(.long q1), (.int (2 : Int32)), (.ref b5)])) _
    refine XS.bipush X18.here hx rfl (hb hby at_27) ?_
    show Steps p.tables e below (T18.setTop (mkF m 29 #[.val (.int p0), .val (.long q1), .second, .val (.int p2), .val (.ref b5), .unset] [(.int (16 : Int32)), (.long q1), (.int (2 : Int32)), (.ref b5)])) _
    refine XS.lushr X18.here hx rfl (hb hby at_29) rfl ?_
    show Steps p.tables e below (T18.setTop (mkF m 30 #[.val (.int p0), .val (.long q1), .second, .val (.int p2), .val (.ref b5), .unset] [(.long ((q1.toUInt64 >>> ((16 : Int32) &&& 0x3f).toInt64.toUInt64).toInt64)), (.int (2 : Int32)), (.ref b5)])) _
    refine XS.l2i X18.here hx rfl (hb hby at_30) rfl ?_
    show Steps p.tables e below (T18.setTop (mkF m 31 #[.val (.int p0), .val (.long q1), .second, .val (.int p2), .val (.ref b5), .unset] [(.int (((q1.toUInt64 >>> ((16 : Int32) &&& 0x3f).toInt64.toUInt64).toInt64).toInt32)), (.int (2 : Int32)), (.ref b5)])) _
    refine XS.i2b X18.here hx rfl (hb hby at_31) rfl ?_
    show Steps p.tables e below (T18.setTop (mkF m 32 #[.val (.int p0), .val (.long q1), .second, .val (.int p2), .val (.ref b5), .unset] [(.int ((((q1.toUInt64 >>> ((16 : Int32) &&& 0x3f).toInt64.toUInt64).toInt64).toInt32).toInt8.toInt32)), (.int (2 : Int32)), (.ref b5)])) _
    show Steps p.tables e below (T18.setTop (mkF m 32 #[.val (.int p0), .val (.long q1), .second, .val (.int p2), .val (.ref b5), .unset] [(.int ((((q1.toUInt64 >>> ((16 : Int32) &&& 0x3f).toInt64.toUInt64).toInt64).toInt32).toInt8.toInt32)), (.int (2 : Int32)), (.ref b5)])) _
    refine castTop (congrArg (fun z : Int32 => mkF m 32 #[.val (.int p0), .val (.long q1), .second, .val (.int p2), .val (.ref b5), .unset] [(.int z), (.int (2 : Int32)), (.ref b5)]) hv23.symm) ?_
    refine st25 _ ?_
    show Steps p.tables e below (T25.setTop (mkF m 33 #[.val (.int p0), .val (.long q1), .second, .val (.int p2), .val (.ref b5), .unset] [])) _
    refine XS.aload X25.here hx rfl (hb hby at_33) rfl rfl ?_
    show Steps p.tables e below (T25.setTop (mkF m 35 #[.val (.int p0), .val (.long q1), .second, .val (.int p2), .val (.ref b5), .unset] [(.ref b5)])) _
    refine XS.iconst X25.here hx rfl (hb hby at_35) ?_
    show Steps p.tables e below (T25.setTop (mkF m 36 #[.val (.int p0), .val (.long q1), .second, .val (.int p2), .val (.ref b5), .unset] [(.int (3 : Int32)), (.ref b5)])) _
    refine XS.lloadN X25.here hx rfl (hb hby at_36) rfl ?_
    show Steps p.tables e below (T25.setTop (mkF m 37 #[.val (.int p0), .val (.long q1), .second, .val (.int p2), .val (.ref b5), .unset] [(.long q1), (.int (3 : Int32)), (.ref b5)])) _
    refine XS.bipush X25.here hx rfl (hb hby at_37) ?_
    show Steps p.tables e below (T25.setTop (mkF m 39 #[.val (.int p0), .val (.long q1), .second, .val (.int p2), .val (.ref b5), .unset] [(.int (24 : Int32)), (.long q1), (.int (3 : Int32)), (.ref b5)])) _
    refine XS.lushr X25.here hx rfl (hb hby at_39) rfl ?_
    show Steps p.tables e below (T25.setTop (mkF m 40 #[.val (.int p0), .val (.long q1), .second, .val (.int p2), .val (.ref b5), .unset] [(.long ((q1.toUInt64 >>> ((24 : Int32) &&& 0x3f).toInt64.toUInt64).toInt64)), (.int (3 : Int32)), (.ref b5)])) _
    refine XS.l2i X25.here hx rfl (hb hby at_40) rfl ?_
    show Steps p.tables e below (T25.setTop (mkF m 41 #[.val (.int p0), .val (.long q1), .second, .val (.int p2), .val (.ref b5), .unset] [(.int (((q1.toUInt64 >>> ((24 : Int32) &&& 0x3f).toInt64.toUInt64).toInt64).toInt32)), (.int (3 : Int32)), (.ref b5)])) _
    refine XS.i2b X25.here hx rfl (hb hby at_41) rfl ?_
    show Steps p.tables e below (T25.setTop (mkF m 42 #[.val (.int p0), .val (.long q1), .second, .val (.int p2), .val (.ref b5), .unset] [(.int ((((q1.toUInt64 >>> ((24 : Int32) &&& 0x3f).toInt64.toUInt64).toInt64).toInt32).toInt8.toInt32)), (.int (3 : Int32)), (.ref b5)])) _
    show Steps p.tables e below (T25.setTop (mkF m 42 #[.val (.int p0), .val (.long q1), .second, .val (.int p2), .val (.ref b5), .unset] [(.int ((((q1.toUInt64 >>> ((24 : Int32) &&& 0x3f).toInt64.toUInt64).toInt64).toInt32).toInt8.toInt32)), (.int (3 : Int32)), (.ref b5)])) _
    refine castTop (congrArg (fun z : Int32 => mkF m 42 #[.val (.int p0), .val (.long q1), .second, .val (.int p2), .val (.ref b5), .unset] [(.int z), (.int (3 : Int32)), (.ref b5)]) hv30.symm) ?_
    refine st32 _ ?_
    show Steps p.tables e below (T32.setTop (mkF m 43 #[.val (.int p0), .val (.long q1), .second, .val (.int p2), .val (.ref b5), .unset] [])) _
    refine XS.aload X32.here hx rfl (hb hby at_43) rfl rfl ?_
    show Steps p.tables e below (T32.setTop (mkF m 45 #[.val (.int p0), .val (.long q1), .second, .val (.int p2), .val (.ref b5), .unset] [(.ref b5)])) _
    refine XS.iconst X32.here hx rfl (hb hby at_45) ?_
    show Steps p.tables e below (T32.setTop (mkF m 46 #[.val (.int p0), .val (.long q1), .second, .val (.int p2), .val (.ref b5), .unset] [(.int (4 : Int32)), (.ref b5)])) _
    refine XS.lloadN X32.here hx rfl (hb hby at_46) rfl ?_
    show Steps p.tables e below (T32.setTop (mkF m 47 #[.val (.int p0), .val (.long q1), .second, .val (.int p2), .val (.ref b5), .unset] [(.long q1), (.int (4 : Int32)), (.ref b5)])) _
    refine XS.bipush X32.here hx rfl (hb hby at_47) ?_
    show Steps p.tables e below (T32.setTop (mkF m 49 #[.val (.int p0), .val (.long q1), .second, .val (.int p2), .val (.ref b5), .unset] [(.int (32 : Int32)), (.long q1), (.int (4 : Int32)), (.ref b5)])) _
    refine XS.lushr X32.here hx rfl (hb hby at_49) rfl ?_
    show Steps p.tables e below (T32.setTop (mkF m 50 #[.val (.int p0), .val (.long q1), .second, .val (.int p2), .val (.ref b5), .unset] [(.long ((q1.toUInt64 >>> ((32 : Int32) &&& 0x3f).toInt64.toUInt64).toInt64)), (.int (4 : Int32)), (.ref b5)])) _
    refine XS.l2i X32.here hx rfl (hb hby at_50) rfl ?_
    show Steps p.tables e below (T32.setTop (mkF m 51 #[.val (.int p0), .val (.long q1), .second, .val (.int p2), .val (.ref b5), .unset] [(.int (((q1.toUInt64 >>> ((32 : Int32) &&& 0x3f).toInt64.toUInt64).toInt64).toInt32)), (.int (4 : Int32)), (.ref b5)])) _
    refine XS.i2b X32.here hx rfl (hb hby at_51) rfl ?_
    show Steps p.tables e below (T32.setTop (mkF m 52 #[.val (.int p0), .val (.long q1), .second, .val (.int p2), .val (.ref b5), .unset] [(.int ((((q1.toUInt64 >>> ((32 : Int32) &&& 0x3f).toInt64.toUInt64).toInt64).toInt32).toInt8.toInt32)), (.int (4 : Int32)), (.ref b5)])) _
    show Steps p.tables e below (T32.setTop (mkF m 52 #[.val (.int p0), .val (.long q1), .second, .val (.int p2), .val (.ref b5), .unset] [(.int ((((q1.toUInt64 >>> ((32 : Int32) &&& 0x3f).toInt64.toUInt64).toInt64).toInt32).toInt8.toInt32)), (.int (4 : Int32)), (.ref b5)])) _
    refine castTop (congrArg (fun z : Int32 => mkF m 52 #[.val (.int p0), .val (.long q1), .second, .val (.int p2), .val (.ref b5), .unset] [(.int z), (.int (4 : Int32)), (.ref b5)]) hv37.symm) ?_
    refine st39 _ ?_
    show Steps p.tables e below (T39.setTop (mkF m 53 #[.val (.int p0), .val (.long q1), .second, .val (.int p2), .val (.ref b5), .unset] [])) _
    refine XS.aload X39.here hx rfl (hb hby at_53) rfl rfl ?_
    show Steps p.tables e below (T39.setTop (mkF m 55 #[.val (.int p0), .val (.long q1), .second, .val (.int p2), .val (.ref b5), .unset] [(.ref b5)])) _
    refine XS.iconst X39.here hx rfl (hb hby at_55) ?_
    show Steps p.tables e below (T39.setTop (mkF m 56 #[.val (.int p0), .val (.long q1), .second, .val (.int p2), .val (.ref b5), .unset] [(.int (5 : Int32)), (.ref b5)])) _
    refine XS.lloadN X39.here hx rfl (hb hby at_56) rfl ?_
    show Steps p.tables e below (T39.setTop (mkF m 57 #[.val (.int p0), .val (.long q1), .second, .val (.int p2), .val (.ref b5), .unset] [(.long q1), (.int (5 : Int32)), (.ref b5)])) _
    refine XS.bipush X39.here hx rfl (hb hby at_57) ?_
    show Steps p.tables e below (T39.setTop (mkF m 59 #[.val (.int p0), .val (.long q1), .second, .val (.int p2), .val (.ref b5), .unset] [(.int (40 : Int32)), (.long q1), (.int (5 : Int32)), (.ref b5)])) _
    refine XS.lushr X39.here hx rfl (hb hby at_59) rfl ?_
    show Steps p.tables e below (T39.setTop (mkF m 60 #[.val (.int p0), .val (.long q1), .second, .val (.int p2), .val (.ref b5), .unset] [(.long ((q1.toUInt64 >>> ((40 : Int32) &&& 0x3f).toInt64.toUInt64).toInt64)), (.int (5 : Int32)), (.ref b5)])) _
    refine XS.l2i X39.here hx rfl (hb hby at_60) rfl ?_
    show Steps p.tables e below (T39.setTop (mkF m 61 #[.val (.int p0), .val (.long q1), .second, .val (.int p2), .val (.ref b5), .unset] [(.int (((q1.toUInt64 >>> ((40 : Int32) &&& 0x3f).toInt64.toUInt64).toInt64).toInt32)), (.int (5 : Int32)), (.ref b5)])) _
    refine XS.i2b X39.here hx rfl (hb hby at_61) rfl ?_
    show Steps p.tables e below (T39.setTop (mkF m 62 #[.val (.int p0), .val (.long q1), .second, .val (.int p2), .val (.ref b5), .unset] [(.int ((((q1.toUInt64 >>> ((40 : Int32) &&& 0x3f).toInt64.toUInt64).toInt64).toInt32).toInt8.toInt32)), (.int (5 : Int32)), (.ref b5)])) _
    show Steps p.tables e below (T39.setTop (mkF m 62 #[.val (.int p0), .val (.long q1), .second, .val (.int p2), .val (.ref b5), .unset] [(.int ((((q1.toUInt64 >>> ((40 : Int32) &&& 0x3f).toInt64.toUInt64).toInt64).toInt32).toInt8.toInt32)), (.int (5 : Int32)), (.ref b5)])) _
    refine castTop (congrArg (fun z : Int32 => mkF m 62 #[.val (.int p0), .val (.long q1), .second, .val (.int p2), .val (.ref b5), .unset] [(.int z), (.int (5 : Int32)), (.ref b5)]) hv44.symm) ?_
    refine st46 _ ?_
    show Steps p.tables e below (T46.setTop (mkF m 63 #[.val (.int p0), .val (.long q1), .second, .val (.int p2), .val (.ref b5), .unset] [])) _
    refine XS.aload X46.here hx rfl (hb hby at_63) rfl rfl ?_
    show Steps p.tables e below (T46.setTop (mkF m 65 #[.val (.int p0), .val (.long q1), .second, .val (.int p2), .val (.ref b5), .unset] [(.ref b5)])) _
    refine XS.bipush X46.here hx rfl (hb hby at_65) ?_
    show Steps p.tables e below (T46.setTop (mkF m 67 #[.val (.int p0), .val (.long q1), .second, .val (.int p2), .val (.ref b5), .unset] [(.int (6 : Int32)), (.ref b5)])) _
    refine XS.lloadN X46.here hx rfl (hb hby at_67) rfl ?_
    show Steps p.tables e below (T46.setTop (mkF m 68 #[.val (.int p0), .val (.long q1), .second, .val (.int p2), .val (.ref b5), .unset] [(.long q1), (.int (6 : Int32)), (.ref b5)])) _
    refine XS.bipush X46.here hx rfl (hb hby at_68) ?_
    show Steps p.tables e below (T46.setTop (mkF m 70 #[.val (.int p0), .val (.long q1), .second, .val (.int p2), .val (.ref b5), .unset] [(.int (48 : Int32)), (.long q1), (.int (6 : Int32)), (.ref b5)])) _
    refine XS.lushr X46.here hx rfl (hb hby at_70) rfl ?_
    show Steps p.tables e below (T46.setTop (mkF m 71 #[.val (.int p0), .val (.long q1), .second, .val (.int p2), .val (.ref b5), .unset] [(.long ((q1.toUInt64 >>> ((48 : Int32) &&& 0x3f).toInt64.toUInt64).toInt64)), (.int (6 : Int32)), (.ref b5)])) _
    refine XS.l2i X46.here hx rfl (hb hby at_71) rfl ?_
    show Steps p.tables e below (T46.setTop (mkF m 72 #[.val (.int p0), .val (.long q1), .second, .val (.int p2), .val (.ref b5), .unset] [(.int (((q1.toUInt64 >>> ((48 : Int32) &&& 0x3f).toInt64.toUInt64).toInt64).toInt32)), (.int (6 : Int32)), (.ref b5)])) _
    refine XS.i2b X46.here hx rfl (hb hby at_72) rfl ?_
    show Steps p.tables e below (T46.setTop (mkF m 73 #[.val (.int p0), .val (.long q1), .second, .val (.int p2), .val (.ref b5), .unset] [(.int ((((q1.toUInt64 >>> ((48 : Int32) &&& 0x3f).toInt64.toUInt64).toInt64).toInt32).toInt8.toInt32)), (.int (6 : Int32)), (.ref b5)])) _
    show Steps p.tables e below (T46.setTop (mkF m 73 #[.val (.int p0), .val (.long q1), .second, .val (.int p2), .val (.ref b5), .unset] [(.int ((((q1.toUInt64 >>> ((48 : Int32) &&& 0x3f).toInt64.toUInt64).toInt64).toInt32).toInt8.toInt32)), (.int (6 : Int32)), (.ref b5)])) _
    refine castTop (congrArg (fun z : Int32 => mkF m 73 #[.val (.int p0), .val (.long q1), .second, .val (.int p2), .val (.ref b5), .unset] [(.int z), (.int (6 : Int32)), (.ref b5)]) hv51.symm) ?_
    refine st53 _ ?_
    show Steps p.tables e below (T53.setTop (mkF m 74 #[.val (.int p0), .val (.long q1), .second, .val (.int p2), .val (.ref b5), .unset] [])) _
    refine XS.aload X53.here hx rfl (hb hby at_74) rfl rfl ?_
    show Steps p.tables e below (T53.setTop (mkF m 76 #[.val (.int p0), .val (.long q1), .second, .val (.int p2), .val (.ref b5), .unset] [(.ref b5)])) _
    refine XS.bipush X53.here hx rfl (hb hby at_76) ?_
    show Steps p.tables e below (T53.setTop (mkF m 78 #[.val (.int p0), .val (.long q1), .second, .val (.int p2), .val (.ref b5), .unset] [(.int (7 : Int32)), (.ref b5)])) _
    refine XS.lloadN X53.here hx rfl (hb hby at_78) rfl ?_
    show Steps p.tables e below (T53.setTop (mkF m 79 #[.val (.int p0), .val (.long q1), .second, .val (.int p2), .val (.ref b5), .unset] [(.long q1), (.int (7 : Int32)), (.ref b5)])) _
    refine XS.bipush X53.here hx rfl (hb hby at_79) ?_
    show Steps p.tables e below (T53.setTop (mkF m 81 #[.val (.int p0), .val (.long q1), .second, .val (.int p2), .val (.ref b5), .unset] [(.int (56 : Int32)), (.long q1), (.int (7 : Int32)), (.ref b5)])) _
    refine XS.lushr X53.here hx rfl (hb hby at_81) rfl ?_
    show Steps p.tables e below (T53.setTop (mkF m 82 #[.val (.int p0), .val (.long q1), .second, .val (.int p2), .val (.ref b5), .unset] [(.long ((q1.toUInt64 >>> ((56 : Int32) &&& 0x3f).toInt64.toUInt64).toInt64)), (.int (7 : Int32)), (.ref b5)])) _
    refine XS.l2i X53.here hx rfl (hb hby at_82) rfl ?_
    show Steps p.tables e below (T53.setTop (mkF m 83 #[.val (.int p0), .val (.long q1), .second, .val (.int p2), .val (.ref b5), .unset] [(.int (((q1.toUInt64 >>> ((56 : Int32) &&& 0x3f).toInt64.toUInt64).toInt64).toInt32)), (.int (7 : Int32)), (.ref b5)])) _
    refine XS.i2b X53.here hx rfl (hb hby at_83) rfl ?_
    show Steps p.tables e below (T53.setTop (mkF m 84 #[.val (.int p0), .val (.long q1), .second, .val (.int p2), .val (.ref b5), .unset] [(.int ((((q1.toUInt64 >>> ((56 : Int32) &&& 0x3f).toInt64.toUInt64).toInt64).toInt32).toInt8.toInt32)), (.int (7 : Int32)), (.ref b5)])) _
    show Steps p.tables e below (T53.setTop (mkF m 84 #[.val (.int p0), .val (.long q1), .second, .val (.int p2), .val (.ref b5), .unset] [(.int ((((q1.toUInt64 >>> ((56 : Int32) &&& 0x3f).toInt64.toUInt64).toInt64).toInt32).toInt8.toInt32)), (.int (7 : Int32)), (.ref b5)])) _
    refine castTop (congrArg (fun z : Int32 => mkF m 84 #[.val (.int p0), .val (.long q1), .second, .val (.int p2), .val (.ref b5), .unset] [(.int z), (.int (7 : Int32)), (.ref b5)]) hv58.symm) ?_
    refine st60 _ ?_
    show Steps p.tables e below (T60.setTop (mkF m 85 #[.val (.int p0), .val (.long q1), .second, .val (.int p2), .val (.ref b5), .unset] [])) _
    refine XS.iloadN X60.here hx rfl (hb hby at_85) rfl ?_
    show Steps p.tables e below (T60.setTop (mkF m 86 #[.val (.int p0), .val (.long q1), .second, .val (.int p2), .val (.ref b5), .unset] [(.int p2)])) _
    refine X60.ldcInt hx hown (mvT hZ (hw _ (List.mem_of_getElem? (i := 1) rfl))) (g := (mkF m 86 #[.val (.int p0), .val (.long q1), .second, .val (.int p2), .val (.ref b5), .unset] [(.int p2)])) rfl (hb hby at_86) _ ?_
    show Steps p.tables e below (T60.setTop (mkF m 88 #[.val (.int p0), .val (.long q1), .second, .val (.int p2), .val (.ref b5), .unset] [(.int (2147483647 : Int32)), (.int p2)])) _
    refine XS.iand X60.here hx rfl (hb hby at_88) rfl ?_
    show Steps p.tables e below (T60.setTop (mkF m 89 #[.val (.int p0), .val (.long q1), .second, .val (.int p2), .val (.ref b5), .unset] [(.int (p2 &&& (2147483647 : Int32)))])) _
    refine XS.iconst X60.here hx rfl (hb hby at_89) ?_
    show Steps p.tables e below (T60.setTop (mkF m 90 #[.val (.int p0), .val (.long q1), .second, .val (.int p2), .val (.ref b5), .unset] [(.int (5 : Int32)), (.int (p2 &&& (2147483647 : Int32)))])) _
    refine iremM X60 hx rfl (hb hby at_90) rfl (by decide) ?_
    show Steps p.tables e below (T60.setTop (mkF m 91 #[.val (.int p0), .val (.long q1), .second, .val (.int p2), .val (.ref b5), .unset] [(.int ((p2 &&& (2147483647 : Int32)) % (5 : Int32)))])) _
    refine castTop (congrArg (fun z : Int32 => mkF m 91 #[.val (.int p0), .val (.long q1), .second, .val (.int p2), .val (.ref b5), .unset] [(.int z)]) hv65.symm) ?_
    show Steps p.tables e below (T60.setTop (mkF m 91 #[.val (.int p0), .val (.long q1), .second, .val (.int p2), .val (.ref b5), .unset] [(.int v65)])) _
    refine XS.istore X60.here hx rfl (hb hby at_91) rfl (l' := #[.val (.int p0), .val (.long q1), .second, .val (.int p2), .val (.ref b5), .val (.int v65)]) rfl ?_
    exact kk)
  rcases (own_side66 p2 v65 hv65) with hs68 | hs68 | hs68 | hs68 | hs68
  · subst hs68
    obtain ⟨v69, hv69⟩ : ∃ z : Int32, z = (((p0.toUInt32 >>> ((24 : Int32) &&& 31).toUInt32).toInt32).toInt8.toInt32) := ⟨_, rfl⟩
    obtain ⟨cl70, Ar70, q70, S70, M70, H70, G70⟩ := id f64
    have hin70 : ¬ ((0 : Int32) < 0 ∨ cl70.slots.size ≤ ((0 : Int32)).toNatClampNeg) := inb_of S70 ⟨by decide, by decide⟩
    obtain ⟨T71, h71, X71, e71, W71, st71⟩ := stB X60 hx hZ e60 Ar70 (j := (0 : Int32)) hin70 (g := (mkF m 102 #[.val (.int p0), .val (.long q1), .second, .val (.int p2), .val (.ref b5), .val (.int (0 : Int32))] [(.int v69), (.int (0 : Int32)), (.ref b5)])) rfl rfl (hb hby at_102)
    have K72 : Keep h0 h71 [] := K61.wr W71 (Or.inr sz_b5)
    have z73 : n0 ≤ h71.size := Nat.le_trans z62 (Keep.of_wr W71).1
    have N74 := Fr.snoc X71 N63 g_b5
    have f75 : Arv Z h71 b5 k5 .byte (8 : Int32) [(.int (nar .byte v69)), (.int (nar .byte v16)), (.int (nar .byte v23)), (.int (nar .byte v30)), (.int (nar .byte v37)), (.int (nar .byte v44)), (.int (nar .byte v51)), (.int (nar .byte v58))] (.int (0 : Int32)) := Arv.set Ar70 q70 S70 M70 H70 G70 (fits_nar_byte _) W71 0 rfl (Nat.le_of_ble_eq_true rfl)
    obtain ⟨v76, hv76⟩ : ∃ z : Int32, z = (((p0.toUInt32 >>> ((16 : Int32) &&& 31).toUInt32).toInt32).toInt8.toInt32) := ⟨_, rfl⟩
    obtain ⟨cl77, Ar77, q77, S77, M77, H77, G77⟩ := id f75
    have hin77 : ¬ ((1 : Int32) < 0 ∨ cl77.slots.size ≤ ((1 : Int32)).toNatClampNeg) := inb_of S77 ⟨by decide, by decide⟩
    obtain ⟨T78, h78, X78, e78, W78, st78⟩ := stB X71 hx hZ e71 Ar77 (j := (1 : Int32)) hin77 (g := (mkF m 114 #[.val (.int p0), .val (.long q1), .second, .val (.int p2), .val (.ref b5), .val (.int (0 : Int32))] [(.int v76), (.int (1 : Int32)), (.ref b5)])) rfl rfl (hb hby at_114)
    have K79 : Keep h0 h78 [] := K72.wr W78 (Or.inr sz_b5)
    have z80 : n0 ≤ h78.size := Nat.le_trans z73 (Keep.of_wr W78).1
    have N81 := Fr.snoc X78 N74 g_b5
    have f82 : Arv Z h78 b5 k5 .byte (8 : Int32) [(.int (nar .byte v69)), (.int (nar .byte v76)), (.int (nar .byte v23)), (.int (nar .byte v30)), (.int (nar .byte v37)), (.int (nar .byte v44)), (.int (nar .byte v51)), (.int (nar .byte v58))] (.int (0 : Int32)) := Arv.set Ar77 q77 S77 M77 H77 G77 (fits_nar_byte _) W78 1 rfl (Nat.le_of_ble_eq_true rfl)
    obtain ⟨v83, hv83⟩ : ∃ z : Int32, z = (((p0.toUInt32 >>> ((8 : Int32) &&& 31).toUInt32).toInt32).toInt8.toInt32) := ⟨_, rfl⟩
    obtain ⟨cl84, Ar84, q84, S84, M84, H84, G84⟩ := id f82
    have hin84 : ¬ ((2 : Int32) < 0 ∨ cl84.slots.size ≤ ((2 : Int32)).toNatClampNeg) := inb_of S84 ⟨by decide, by decide⟩
    obtain ⟨T85, h85, X85, e85, W85, st85⟩ := stB X78 hx hZ e78 Ar84 (j := (2 : Int32)) hin84 (g := (mkF m 126 #[.val (.int p0), .val (.long q1), .second, .val (.int p2), .val (.ref b5), .val (.int (0 : Int32))] [(.int v83), (.int (2 : Int32)), (.ref b5)])) rfl rfl (hb hby at_126)
    have K86 : Keep h0 h85 [] := K79.wr W85 (Or.inr sz_b5)
    have z87 : n0 ≤ h85.size := Nat.le_trans z80 (Keep.of_wr W85).1
    have N88 := Fr.snoc X85 N81 g_b5
    have f89 : Arv Z h85 b5 k5 .byte (8 : Int32) [(.int (nar .byte v69)), (.int (nar .byte v76)), (.int (nar .byte v83)), (.int (nar .byte v30)), (.int (nar .byte v37)), (.int (nar .byte v44)), (.int (nar .byte v51)), (.int (nar .byte v58))] (.int (0 : Int32)) := Arv.set Ar84 q84 S84 M84 H84 G84 (fits_nar_byte _) W85 2 rfl (Nat.le_of_ble_eq_true rfl)
    obtain ⟨v90, hv90⟩ : ∃ z : Int32, z = (p0.toInt8.toInt32) := ⟨_, rfl⟩
    obtain ⟨cl91, Ar91, q91, S91, M91, H91, G91⟩ := id f89
    have hin91 : ¬ ((3 : Int32) < 0 ∨ cl91.slots.size ≤ ((3 : Int32)).toNatClampNeg) := inb_of S91 ⟨by decide, by decide⟩
    obtain ⟨T92, h92, X92, e92, W92, st92⟩ := stB X85 hx hZ e85 Ar91 (j := (3 : Int32)) hin91 (g := (mkF m 135 #[.val (.int p0), .val (.long q1), .second, .val (.int p2), .val (.ref b5), .val (.int (0 : Int32))] [(.int v90), (.int (3 : Int32)), (.ref b5)])) rfl rfl (hb hby at_135)
    have K93 : Keep h0 h92 [] := K86.wr W92 (Or.inr sz_b5)
    have z94 : n0 ≤ h92.size := Nat.le_trans z87 (Keep.of_wr W92).1
    have N95 := Fr.snoc X92 N88 g_b5
    have f96 : Arv Z h92 b5 k5 .byte (8 : Int32) [(.int (nar .byte v69)), (.int (nar .byte v76)), (.int (nar .byte v83)), (.int (nar .byte v90)), (.int (nar .byte v37)), (.int (nar .byte v44)), (.int (nar .byte v51)), (.int (nar .byte v58))] (.int (0 : Int32)) := Arv.set Ar91 q91 S91 M91 H91 G91 (fits_nar_byte _) W92 3 rfl (Nat.le_of_ble_eq_true rfl)
    obtain ⟨_, _, ⟨T97, L97, k97, n97⟩, -, X97, ⟨Lc97, hQ97, l97, y97, z97⟩, st97⟩ := Jvm.LawKit.callS X92 hx (y := (⟨"com/example/all1/all1/Encoding", "readInt", "([BI)I"⟩ : MethodName)) hown (mvT hZ (hw _ (List.mem_of_getElem? (i := 2) rfl))) (mvT hZ (hw _ (List.mem_of_getElem? (i := 3) rfl))) (mvT hZ (hw _ (List.mem_of_getElem? (i := 4) rfl))) (mvT hZ (hw _ (List.mem_of_getElem? (i := 5) rfl))) (by decide) (backOf (W := 0) (own_rm1 l Z a0 hw [] b5 (0 : Int32) (k5) ((8 : Int32)) ([(.int (nar .byte v69)), (.int (nar .byte v76)), (.int (nar .byte v83)), (.int (nar .byte v90)), (.int (nar .byte v37)), (.int (nar .byte v44)), (.int (nar .byte v51)), (.int (nar .byte v58))]) ((.int (0 : Int32))) ((nar .byte v69)) ((nar .byte v76)) ((nar .byte v83)) ((nar .byte v90)) h92 n0 z94 f96 (⟨by decide, by decide⟩) (⟨by decide, by decide⟩) (⟨by decide, by decide⟩) (⟨by decide, by decide⟩) (rfl) (rfl) (rfl) (rfl)) hZ (hw _ (List.mem_of_getElem? (i := 5) rfl)) (hw _ (List.mem_of_getElem? (i := 4) rfl)) (by decide) (by decide)) (g := (mkF m 140 #[.val (.int p0), .val (.long q1), .second, .val (.int p2), .val (.ref b5), .val (.int (0 : Int32))] [(.int (0 : Int32)), (.ref b5)])) rfl (by rw [hml]; rfl) (argsL := [(.ref b5), (.int (0 : Int32))]) (rest := []) (lenOf own_pd0 rfl) rfl (by show 2 * 0 + _ ≤ _; exact Nat.le_of_eq rfl) (hb hby at_140) (fun _ _ => ⟨rfl, e92, (by decide : 1 + 0 ≤ _), (by decide : 8 + 0 ≤ _)⟩)
    dsimp only [Pt.U, Pt.locs, Pt.cells, Pt.slots] at X97 l97 y97 z97 st97 hQ97
    subst l97 y97 z97
    obtain ⟨rfl, N97q, e99⟩ := hQ97
    have N98 := Fr.app N95 N97q
    have pre100 : ∀ t, Steps p.tables e below (T97.setTop (mkF m 144 #[.val (.int p0), .val (.long q1), .second, .val (.int p2), .val (.ref b5), .val (.int (0 : Int32))] [(.int p0), (.int (own_rd (nar .byte v69) (nar .byte v76) (nar .byte v83) (nar .byte v90)))])) t → Steps p.tables e below (s₁.setTop (entryFrame m #[(.int p0), (.long q1), (.int p2)] maxLocals)) t := fun t kk => pre67 t (by
      show Steps p.tables e below (T60.setTop (mkF m 93 #[.val (.int p0), .val (.long q1), .second, .val (.int p2), .val (.ref b5), .val (.int (0 : Int32))] [])) _
      refine XS.aload X60.here hx rfl (hb hby at_93) rfl rfl ?_
      show Steps p.tables e below (T60.setTop (mkF m 95 #[.val (.int p0), .val (.long q1), .second, .val (.int p2), .val (.ref b5), .val (.int (0 : Int32))] [(.ref b5)])) _
      refine XS.iload X60.here hx rfl (hb hby at_95) rfl ?_
      show Steps p.tables e below (T60.setTop (mkF m 97 #[.val (.int p0), .val (.long q1), .second, .val (.int p2), .val (.ref b5), .val (.int (0 : Int32))] [(.int (0 : Int32)), (.ref b5)])) _
      refine XS.iloadN X60.here hx rfl (hb hby at_97) rfl ?_
      show Steps p.tables e below (T60.setTop (mkF m 98 #[.val (.int p0), .val (.long q1), .second, .val (.int p2), .val (.ref b5), .val (.int (0 : Int32))] [(.int p0), (.int (0 : Int32)), (.ref b5)])) _
      refine XS.bipush X60.here hx rfl (hb hby at_98) ?_
      show Steps p.tables e below (T60.setTop (mkF m 100 #[.val (.int p0), .val (.long q1), .second, .val (.int p2), .val (.ref b5), .val (.int (0 : Int32))] [(.int (24 : Int32)), (.int p0), (.int (0 : Int32)), (.ref b5)])) _
      refine XS.iushr X60.here hx rfl (hb hby at_100) rfl ?_
      show Steps p.tables e below (T60.setTop (mkF m 101 #[.val (.int p0), .val (.long q1), .second, .val (.int p2), .val (.ref b5), .val (.int (0 : Int32))] [(.int ((p0.toUInt32 >>> ((24 : Int32) &&& 31).toUInt32).toInt32)), (.int (0 : Int32)), (.ref b5)])) _
      refine XS.i2b X60.here hx rfl (hb hby at_101) rfl ?_
      show Steps p.tables e below (T60.setTop (mkF m 102 #[.val (.int p0), .val (.long q1), .second, .val (.int p2), .val (.ref b5), .val (.int (0 : Int32))] [(.int (((p0.toUInt32 >>> ((24 : Int32) &&& 31).toUInt32).toInt32).toInt8.toInt32)), (.int (0 : Int32)), (.ref b5)])) _
      show Steps p.tables e below (T60.setTop (mkF m 102 #[.val (.int p0), .val (.long q1), .second, .val (.int p2), .val (.ref b5), .val (.int (0 : Int32))] [(.int (((p0.toUInt32 >>> ((24 : Int32) &&& 31).toUInt32).toInt32).toInt8.toInt32)), (.int (0 : Int32)), (.ref b5)])) _
      refine castTop (congrArg (fun z : Int32 => mkF m 102 #[.val (.int p0), .val (.long q1), .second, .val (.int p2), .val (.ref b5), .val (.int (0 : Int32))] [(.int z), (.int (0 : Int32)), (.ref b5)]) hv69.symm) ?_
      refine st71 _ ?_
      show Steps p.tables e below (T71.setTop (mkF m 103 #[.val (.int p0), .val (.long q1), .second, .val (.int p2), .val (.ref b5), .val (.int (0 : Int32))] [])) _
      refine XS.aload X71.here hx rfl (hb hby at_103) rfl rfl ?_
      show Steps p.tables e below (T71.setTop (mkF m 105 #[.val (.int p0), .val (.long q1), .second, .val (.int p2), .val (.ref b5), .val (.int (0 : Int32))] [(.ref b5)])) _
      refine XS.iload X71.here hx rfl (hb hby at_105) rfl ?_
      show Steps p.tables e below (T71.setTop (mkF m 107 #[.val (.int p0), .val (.long q1), .second, .val (.int p2), .val (.ref b5), .val (.int (0 : Int32))] [(.int (0 : Int32)), (.ref b5)])) _
      refine XS.iconst X71.here hx rfl (hb hby at_107) ?_
      show Steps p.tables e below (T71.setTop (mkF m 108 #[.val (.int p0), .val (.long q1), .second, .val (.int p2), .val (.ref b5), .val (.int (0 : Int32))] [(.int (1 : Int32)), (.int (0 : Int32)), (.ref b5)])) _
      refine XS.iadd X71.here hx rfl (hb hby at_108) rfl ?_
      show Steps p.tables e below (T71.setTop (mkF m 109 #[.val (.int p0), .val (.long q1), .second, .val (.int p2), .val (.ref b5), .val (.int (0 : Int32))] [(.int ((0 : Int32) + (1 : Int32))), (.ref b5)])) _
      refine castTop (congrArg (fun z : Int32 => mkF m 109 #[.val (.int p0), .val (.long q1), .second, .val (.int p2), .val (.ref b5), .val (.int (0 : Int32))] [(.int z), (.ref b5)]) (by decide : ((0 : Int32) + (1 : Int32)) = (1 : Int32))) ?_
      show Steps p.tables e below (T71.setTop (mkF m 109 #[.val (.int p0), .val (.long q1), .second, .val (.int p2), .val (.ref b5), .val (.int (0 : Int32))] [(.int (1 : Int32)), (.ref b5)])) _
      refine XS.iloadN X71.here hx rfl (hb hby at_109) rfl ?_
      show Steps p.tables e below (T71.setTop (mkF m 110 #[.val (.int p0), .val (.long q1), .second, .val (.int p2), .val (.ref b5), .val (.int (0 : Int32))] [(.int p0), (.int (1 : Int32)), (.ref b5)])) _
      refine XS.bipush X71.here hx rfl (hb hby at_110) ?_
      show Steps p.tables e below (T71.setTop (mkF m 112 #[.val (.int p0), .val (.long q1), .second, .val (.int p2), .val (.ref b5), .val (.int (0 : Int32))] [(.int (16 : Int32)), (.int p0), (.int (1 : Int32)), (.ref b5)])) _
      refine XS.iushr X71.here hx rfl (hb hby at_112) rfl ?_
      show Steps p.tables e below (T71.setTop (mkF m 113 #[.val (.int p0), .val (.long q1), .second, .val (.int p2), .val (.ref b5), .val (.int (0 : Int32))] [(.int ((p0.toUInt32 >>> ((16 : Int32) &&& 31).toUInt32).toInt32)), (.int (1 : Int32)), (.ref b5)])) _
      refine XS.i2b X71.here hx rfl (hb hby at_113) rfl ?_
      show Steps p.tables e below (T71.setTop (mkF m 114 #[.val (.int p0), .val (.long q1), .second, .val (.int p2), .val (.ref b5), .val (.int (0 : Int32))] [(.int (((p0.toUInt32 >>> ((16 : Int32) &&& 31).toUInt32).toInt32).toInt8.toInt32)), (.int (1 : Int32)), (.ref b5)])) _
      show Steps p.tables e below (T71.setTop (mkF m 114 #[.val (.int p0), .val (.long q1), .second, .val (.int p2), .val (.ref b5), .val (.int (0 : Int32))] [(.int (((p0.toUInt32 >>> ((16 : Int32) &&& 31).toUInt32).toInt32).toInt8.toInt32)), (.int (1 : Int32)), (.ref b5)])) _
      refine castTop (congrArg (fun z : Int32 => mkF m 114 #[.val (.int p0), .val (.long q1), .second, .val (.int p2), .val (.ref b5), .val (.int (0 : Int32))] [(.int z), (.int (1 : Int32)), (.ref b5)]) hv76.symm) ?_
      refine st78 _ ?_
      show Steps p.tables e below (T78.setTop (mkF m 115 #[.val (.int p0), .val (.long q1), .second, .val (.int p2), .val (.ref b5), .val (.int (0 : Int32))] [])) _
      refine XS.aload X78.here hx rfl (hb hby at_115) rfl rfl ?_
      show Steps p.tables e below (T78.setTop (mkF m 117 #[.val (.int p0), .val (.long q1), .second, .val (.int p2), .val (.ref b5), .val (.int (0 : Int32))] [(.ref b5)])) _
      refine XS.iload X78.here hx rfl (hb hby at_117) rfl ?_
      show Steps p.tables e below (T78.setTop (mkF m 119 #[.val (.int p0), .val (.long q1), .second, .val (.int p2), .val (.ref b5), .val (.int (0 : Int32))] [(.int (0 : Int32)), (.ref b5)])) _
      refine XS.iconst X78.here hx rfl (hb hby at_119) ?_
      show Steps p.tables e below (T78.setTop (mkF m 120 #[.val (.int p0), .val (.long q1), .second, .val (.int p2), .val (.ref b5), .val (.int (0 : Int32))] [(.int (2 : Int32)), (.int (0 : Int32)), (.ref b5)])) _
      refine XS.iadd X78.here hx rfl (hb hby at_120) rfl ?_
      show Steps p.tables e below (T78.setTop (mkF m 121 #[.val (.int p0), .val (.long q1), .second, .val (.int p2), .val (.ref b5), .val (.int (0 : Int32))] [(.int ((0 : Int32) + (2 : Int32))), (.ref b5)])) _
      refine castTop (congrArg (fun z : Int32 => mkF m 121 #[.val (.int p0), .val (.long q1), .second, .val (.int p2), .val (.ref b5), .val (.int (0 : Int32))] [(.int z), (.ref b5)]) (by decide : ((0 : Int32) + (2 : Int32)) = (2 : Int32))) ?_
      show Steps p.tables e below (T78.setTop (mkF m 121 #[.val (.int p0), .val (.long q1), .second, .val (.int p2), .val (.ref b5), .val (.int (0 : Int32))] [(.int (2 : Int32)), (.ref b5)])) _
      refine XS.iloadN X78.here hx rfl (hb hby at_121) rfl ?_
      show Steps p.tables e below (T78.setTop (mkF m 122 #[.val (.int p0), .val (.long q1), .second, .val (.int p2), .val (.ref b5), .val (.int (0 : Int32))] [(.int p0), (.int (2 : Int32)), (.ref b5)])) _
      refine XS.bipush X78.here hx rfl (hb hby at_122) ?_
      show Steps p.tables e below (T78.setTop (mkF m 124 #[.val (.int p0), .val (.long q1), .second, .val (.int p2), .val (.ref b5), .val (.int (0 : Int32))] [(.int (8 : Int32)), (.int p0), (.int (2 : Int32)), (.ref b5)])) _
      refine XS.iushr X78.here hx rfl (hb hby at_124) rfl ?_
      show Steps p.tables e below (T78.setTop (mkF m 125 #[.val (.int p0), .val (.long q1), .second, .val (.int p2), .val (.ref b5), .val (.int (0 : Int32))] [(.int ((p0.toUInt32 >>> ((8 : Int32) &&& 31).toUInt32).toInt32)), (.int (2 : Int32)), (.ref b5)])) _
      refine XS.i2b X78.here hx rfl (hb hby at_125) rfl ?_
      show Steps p.tables e below (T78.setTop (mkF m 126 #[.val (.int p0), .val (.long q1), .second, .val (.int p2), .val (.ref b5), .val (.int (0 : Int32))] [(.int (((p0.toUInt32 >>> ((8 : Int32) &&& 31).toUInt32).toInt32).toInt8.toInt32)), (.int (2 : Int32)), (.ref b5)])) _
      show Steps p.tables e below (T78.setTop (mkF m 126 #[.val (.int p0), .val (.long q1), .second, .val (.int p2), .val (.ref b5), .val (.int (0 : Int32))] [(.int (((p0.toUInt32 >>> ((8 : Int32) &&& 31).toUInt32).toInt32).toInt8.toInt32)), (.int (2 : Int32)), (.ref b5)])) _
      refine castTop (congrArg (fun z : Int32 => mkF m 126 #[.val (.int p0), .val (.long q1), .second, .val (.int p2), .val (.ref b5), .val (.int (0 : Int32))] [(.int z), (.int (2 : Int32)), (.ref b5)]) hv83.symm) ?_
      refine st85 _ ?_
      show Steps p.tables e below (T85.setTop (mkF m 127 #[.val (.int p0), .val (.long q1), .second, .val (.int p2), .val (.ref b5), .val (.int (0 : Int32))] [])) _
      refine XS.aload X85.here hx rfl (hb hby at_127) rfl rfl ?_
      show Steps p.tables e below (T85.setTop (mkF m 129 #[.val (.int p0), .val (.long q1), .second, .val (.int p2), .val (.ref b5), .val (.int (0 : Int32))] [(.ref b5)])) _
      refine XS.iload X85.here hx rfl (hb hby at_129) rfl ?_
      show Steps p.tables e below (T85.setTop (mkF m 131 #[.val (.int p0), .val (.long q1), .second, .val (.int p2), .val (.ref b5), .val (.int (0 : Int32))] [(.int (0 : Int32)), (.ref b5)])) _
      refine XS.iconst X85.here hx rfl (hb hby at_131) ?_
      show Steps p.tables e below (T85.setTop (mkF m 132 #[.val (.int p0), .val (.long q1), .second, .val (.int p2), .val (.ref b5), .val (.int (0 : Int32))] [(.int (3 : Int32)), (.int (0 : Int32)), (.ref b5)])) _
      refine XS.iadd X85.here hx rfl (hb hby at_132) rfl ?_
      show Steps p.tables e below (T85.setTop (mkF m 133 #[.val (.int p0), .val (.long q1), .second, .val (.int p2), .val (.ref b5), .val (.int (0 : Int32))] [(.int ((0 : Int32) + (3 : Int32))), (.ref b5)])) _
      refine castTop (congrArg (fun z : Int32 => mkF m 133 #[.val (.int p0), .val (.long q1), .second, .val (.int p2), .val (.ref b5), .val (.int (0 : Int32))] [(.int z), (.ref b5)]) (by decide : ((0 : Int32) + (3 : Int32)) = (3 : Int32))) ?_
      show Steps p.tables e below (T85.setTop (mkF m 133 #[.val (.int p0), .val (.long q1), .second, .val (.int p2), .val (.ref b5), .val (.int (0 : Int32))] [(.int (3 : Int32)), (.ref b5)])) _
      refine XS.iloadN X85.here hx rfl (hb hby at_133) rfl ?_
      show Steps p.tables e below (T85.setTop (mkF m 134 #[.val (.int p0), .val (.long q1), .second, .val (.int p2), .val (.ref b5), .val (.int (0 : Int32))] [(.int p0), (.int (3 : Int32)), (.ref b5)])) _
      refine XS.i2b X85.here hx rfl (hb hby at_134) rfl ?_
      show Steps p.tables e below (T85.setTop (mkF m 135 #[.val (.int p0), .val (.long q1), .second, .val (.int p2), .val (.ref b5), .val (.int (0 : Int32))] [(.int (p0.toInt8.toInt32)), (.int (3 : Int32)), (.ref b5)])) _
      show Steps p.tables e below (T85.setTop (mkF m 135 #[.val (.int p0), .val (.long q1), .second, .val (.int p2), .val (.ref b5), .val (.int (0 : Int32))] [(.int (p0.toInt8.toInt32)), (.int (3 : Int32)), (.ref b5)])) _
      refine castTop (congrArg (fun z : Int32 => mkF m 135 #[.val (.int p0), .val (.long q1), .second, .val (.int p2), .val (.ref b5), .val (.int (0 : Int32))] [(.int z), (.int (3 : Int32)), (.ref b5)]) hv90.symm) ?_
      refine st92 _ ?_
      show Steps p.tables e below (T92.setTop (mkF m 136 #[.val (.int p0), .val (.long q1), .second, .val (.int p2), .val (.ref b5), .val (.int (0 : Int32))] [])) _
      refine XS.aload X92.here hx rfl (hb hby at_136) rfl rfl ?_
      show Steps p.tables e below (T92.setTop (mkF m 138 #[.val (.int p0), .val (.long q1), .second, .val (.int p2), .val (.ref b5), .val (.int (0 : Int32))] [(.ref b5)])) _
      refine XS.iload X92.here hx rfl (hb hby at_138) rfl ?_
      show Steps p.tables e below (T92.setTop (mkF m 140 #[.val (.int p0), .val (.long q1), .second, .val (.int p2), .val (.ref b5), .val (.int (0 : Int32))] [(.int (0 : Int32)), (.ref b5)])) _
      refine st97 _ ?_
      show Steps p.tables e below (T97.setTop (mkF m 143 #[.val (.int p0), .val (.long q1), .second, .val (.int p2), .val (.ref b5), .val (.int (0 : Int32))] [(.int (own_rd (nar .byte v69) (nar .byte v76) (nar .byte v83) (nar .byte v90)))])) _
      refine XS.iloadN X97.here hx rfl (hb hby at_143) rfl ?_
      show Steps p.tables e below (T97.setTop (mkF m 144 #[.val (.int p0), .val (.long q1), .second, .val (.int p2), .val (.ref b5), .val (.int (0 : Int32))] [(.int p0), (.int (own_rd (nar .byte v69) (nar .byte v76) (nar .byte v83) (nar .byte v90)))])) _
      exact kk)
    by_cases hc101 : (own_rd (nar .byte v69) (nar .byte v76) (nar .byte v83) (nar .byte v90)) = p0
    · obtain ⟨fs, hr, hrun, hended, hW, hsame⟩ := X97.leave (v := some (.int (1 : Int32))) (fun h => by rw [Bd.returns] at h; cases h)
      refine ⟨_, _, pre100 _ ?_, hrun, hended, _, _, rfl, ?_, ⟨_, rfl⟩, hW, hsame.mono (by decide) (by decide)⟩
      · show Steps p.tables e below (T97.setTop (mkF m 144 #[.val (.int p0), .val (.long q1), .second, .val (.int p2), .val (.ref b5), .val (.int (0 : Int32))] [(.int p0), (.int (own_rd (nar .byte v69) (nar .byte v76) (nar .byte v83) (nar .byte v90)))])) _
        refine XS.icmpNo X97.here hx rfl (hb hby at_144) rfl (teq hc101).2 ?_
        show Steps p.tables e below (T97.setTop (mkF m 147 #[.val (.int p0), .val (.long q1), .second, .val (.int p2), .val (.ref b5), .val (.int (0 : Int32))] [])) _
        refine XS.iconst X97.here hx rfl (hb hby at_147) ?_
        show Steps p.tables e below (T97.setTop (mkF m 148 #[.val (.int p0), .val (.long q1), .second, .val (.int p2), .val (.ref b5), .val (.int (0 : Int32))] [(.int (1 : Int32))])) _
        refine XS.goto X97.here hx rfl (pc0 := 148) (pc' := 152) rfl (hb hby at_148) (by decide) (by decide) ?_
        show Steps p.tables e below (T97.setTop (mkF m 152 #[.val (.int p0), .val (.long q1), .second, .val (.int p2), .val (.ref b5), .val (.int (0 : Int32))] [(.int (1 : Int32))])) _
        exact retN X97 hx (t := .boolean) Bd.returns (by simp) (hb hby at_152) hr
      · show own_Q0 Z p0 q1 p2 h0 n0 _ T97.heap _
        rw [e99]
        exact ⟨rfl, N98⟩
    · exact (own_leaf0_2 p0 v69 hv69 v76 hv76 v83 hv83 v90 hv90 hc101).elim
  · subst hs68
    obtain ⟨v102, hv102⟩ : ∃ z : Int32, z = (((p0.toUInt32 >>> ((24 : Int32) &&& 31).toUInt32).toInt32).toInt8.toInt32) := ⟨_, rfl⟩
    obtain ⟨cl103, Ar103, q103, S103, M103, H103, G103⟩ := id f64
    have hin103 : ¬ ((1 : Int32) < 0 ∨ cl103.slots.size ≤ ((1 : Int32)).toNatClampNeg) := inb_of S103 ⟨by decide, by decide⟩
    obtain ⟨T104, h104, X104, e104, W104, st104⟩ := stB X60 hx hZ e60 Ar103 (j := (1 : Int32)) hin103 (g := (mkF m 102 #[.val (.int p0), .val (.long q1), .second, .val (.int p2), .val (.ref b5), .val (.int (1 : Int32))] [(.int v102), (.int (1 : Int32)), (.ref b5)])) rfl rfl (hb hby at_102)
    have K105 : Keep h0 h104 [] := K61.wr W104 (Or.inr sz_b5)
    have z106 : n0 ≤ h104.size := Nat.le_trans z62 (Keep.of_wr W104).1
    have N107 := Fr.snoc X104 N63 g_b5
    have f108 : Arv Z h104 b5 k5 .byte (8 : Int32) [(.int (nar .byte v9)), (.int (nar .byte v102)), (.int (nar .byte v23)), (.int (nar .byte v30)), (.int (nar .byte v37)), (.int (nar .byte v44)), (.int (nar .byte v51)), (.int (nar .byte v58))] (.int (0 : Int32)) := Arv.set Ar103 q103 S103 M103 H103 G103 (fits_nar_byte _) W104 1 rfl (Nat.le_of_ble_eq_true rfl)
    obtain ⟨v109, hv109⟩ : ∃ z : Int32, z = (((p0.toUInt32 >>> ((16 : Int32) &&& 31).toUInt32).toInt32).toInt8.toInt32) := ⟨_, rfl⟩
    obtain ⟨cl110, Ar110, q110, S110, M110, H110, G110⟩ := id f108
    have hin110 : ¬ ((2 : Int32) < 0 ∨ cl110.slots.size ≤ ((2 : Int32)).toNatClampNeg) := inb_of S110 ⟨by decide, by decide⟩
    obtain ⟨T111, h111, X111, e111, W111, st111⟩ := stB X104 hx hZ e104 Ar110 (j := (2 : Int32)) hin110 (g := (mkF m 114 #[.val (.int p0), .val (.long q1), .second, .val (.int p2), .val (.ref b5), .val (.int (1 : Int32))] [(.int v109), (.int (2 : Int32)), (.ref b5)])) rfl rfl (hb hby at_114)
    have K112 : Keep h0 h111 [] := K105.wr W111 (Or.inr sz_b5)
    have z113 : n0 ≤ h111.size := Nat.le_trans z106 (Keep.of_wr W111).1
    have N114 := Fr.snoc X111 N107 g_b5
    have f115 : Arv Z h111 b5 k5 .byte (8 : Int32) [(.int (nar .byte v9)), (.int (nar .byte v102)), (.int (nar .byte v109)), (.int (nar .byte v30)), (.int (nar .byte v37)), (.int (nar .byte v44)), (.int (nar .byte v51)), (.int (nar .byte v58))] (.int (0 : Int32)) := Arv.set Ar110 q110 S110 M110 H110 G110 (fits_nar_byte _) W111 2 rfl (Nat.le_of_ble_eq_true rfl)
    obtain ⟨v116, hv116⟩ : ∃ z : Int32, z = (((p0.toUInt32 >>> ((8 : Int32) &&& 31).toUInt32).toInt32).toInt8.toInt32) := ⟨_, rfl⟩
    obtain ⟨cl117, Ar117, q117, S117, M117, H117, G117⟩ := id f115
    have hin117 : ¬ ((3 : Int32) < 0 ∨ cl117.slots.size ≤ ((3 : Int32)).toNatClampNeg) := inb_of S117 ⟨by decide, by decide⟩
    obtain ⟨T118, h118, X118, e118, W118, st118⟩ := stB X111 hx hZ e111 Ar117 (j := (3 : Int32)) hin117 (g := (mkF m 126 #[.val (.int p0), .val (.long q1), .second, .val (.int p2), .val (.ref b5), .val (.int (1 : Int32))] [(.int v116), (.int (3 : Int32)), (.ref b5)])) rfl rfl (hb hby at_126)
    have K119 : Keep h0 h118 [] := K112.wr W118 (Or.inr sz_b5)
    have z120 : n0 ≤ h118.size := Nat.le_trans z113 (Keep.of_wr W118).1
    have N121 := Fr.snoc X118 N114 g_b5
    have f122 : Arv Z h118 b5 k5 .byte (8 : Int32) [(.int (nar .byte v9)), (.int (nar .byte v102)), (.int (nar .byte v109)), (.int (nar .byte v116)), (.int (nar .byte v37)), (.int (nar .byte v44)), (.int (nar .byte v51)), (.int (nar .byte v58))] (.int (0 : Int32)) := Arv.set Ar117 q117 S117 M117 H117 G117 (fits_nar_byte _) W118 3 rfl (Nat.le_of_ble_eq_true rfl)
    obtain ⟨v123, hv123⟩ : ∃ z : Int32, z = (p0.toInt8.toInt32) := ⟨_, rfl⟩
    obtain ⟨cl124, Ar124, q124, S124, M124, H124, G124⟩ := id f122
    have hin124 : ¬ ((4 : Int32) < 0 ∨ cl124.slots.size ≤ ((4 : Int32)).toNatClampNeg) := inb_of S124 ⟨by decide, by decide⟩
    obtain ⟨T125, h125, X125, e125, W125, st125⟩ := stB X118 hx hZ e118 Ar124 (j := (4 : Int32)) hin124 (g := (mkF m 135 #[.val (.int p0), .val (.long q1), .second, .val (.int p2), .val (.ref b5), .val (.int (1 : Int32))] [(.int v123), (.int (4 : Int32)), (.ref b5)])) rfl rfl (hb hby at_135)
    have K126 : Keep h0 h125 [] := K119.wr W125 (Or.inr sz_b5)
    have z127 : n0 ≤ h125.size := Nat.le_trans z120 (Keep.of_wr W125).1
    have N128 := Fr.snoc X125 N121 g_b5
    have f129 : Arv Z h125 b5 k5 .byte (8 : Int32) [(.int (nar .byte v9)), (.int (nar .byte v102)), (.int (nar .byte v109)), (.int (nar .byte v116)), (.int (nar .byte v123)), (.int (nar .byte v44)), (.int (nar .byte v51)), (.int (nar .byte v58))] (.int (0 : Int32)) := Arv.set Ar124 q124 S124 M124 H124 G124 (fits_nar_byte _) W125 4 rfl (Nat.le_of_ble_eq_true rfl)
    obtain ⟨_, _, ⟨T130, L130, k130, n130⟩, -, X130, ⟨Lc130, hQ130, l130, y130, z130⟩, st130⟩ := Jvm.LawKit.callS X125 hx (y := (⟨"com/example/all1/all1/Encoding", "readInt", "([BI)I"⟩ : MethodName)) hown (mvT hZ (hw _ (List.mem_of_getElem? (i := 2) rfl))) (mvT hZ (hw _ (List.mem_of_getElem? (i := 3) rfl))) (mvT hZ (hw _ (List.mem_of_getElem? (i := 4) rfl))) (mvT hZ (hw _ (List.mem_of_getElem? (i := 5) rfl))) (by decide) (backOf (W := 0) (own_rm1 l Z a0 hw [] b5 (1 : Int32) (k5) ((8 : Int32)) ([(.int (nar .byte v9)), (.int (nar .byte v102)), (.int (nar .byte v109)), (.int (nar .byte v116)), (.int (nar .byte v123)), (.int (nar .byte v44)), (.int (nar .byte v51)), (.int (nar .byte v58))]) ((.int (0 : Int32))) ((nar .byte v102)) ((nar .byte v109)) ((nar .byte v116)) ((nar .byte v123)) h125 n0 z127 f129 (⟨by decide, by decide⟩) (⟨by decide, by decide⟩) (⟨by decide, by decide⟩) (⟨by decide, by decide⟩) (rfl) (rfl) (rfl) (rfl)) hZ (hw _ (List.mem_of_getElem? (i := 5) rfl)) (hw _ (List.mem_of_getElem? (i := 4) rfl)) (by decide) (by decide)) (g := (mkF m 140 #[.val (.int p0), .val (.long q1), .second, .val (.int p2), .val (.ref b5), .val (.int (1 : Int32))] [(.int (1 : Int32)), (.ref b5)])) rfl (by rw [hml]; rfl) (argsL := [(.ref b5), (.int (1 : Int32))]) (rest := []) (lenOf own_pd0 rfl) rfl (by show 2 * 0 + _ ≤ _; exact Nat.le_of_eq rfl) (hb hby at_140) (fun _ _ => ⟨rfl, e125, (by decide : 1 + 0 ≤ _), (by decide : 8 + 0 ≤ _)⟩)
    dsimp only [Pt.U, Pt.locs, Pt.cells, Pt.slots] at X130 l130 y130 z130 st130 hQ130
    subst l130 y130 z130
    obtain ⟨rfl, N130q, e132⟩ := hQ130
    have N131 := Fr.app N128 N130q
    have pre133 : ∀ t, Steps p.tables e below (T130.setTop (mkF m 144 #[.val (.int p0), .val (.long q1), .second, .val (.int p2), .val (.ref b5), .val (.int (1 : Int32))] [(.int p0), (.int (own_rd (nar .byte v102) (nar .byte v109) (nar .byte v116) (nar .byte v123)))])) t → Steps p.tables e below (s₁.setTop (entryFrame m #[(.int p0), (.long q1), (.int p2)] maxLocals)) t := fun t kk => pre67 t (by
      show Steps p.tables e below (T60.setTop (mkF m 93 #[.val (.int p0), .val (.long q1), .second, .val (.int p2), .val (.ref b5), .val (.int (1 : Int32))] [])) _
      refine XS.aload X60.here hx rfl (hb hby at_93) rfl rfl ?_
      show Steps p.tables e below (T60.setTop (mkF m 95 #[.val (.int p0), .val (.long q1), .second, .val (.int p2), .val (.ref b5), .val (.int (1 : Int32))] [(.ref b5)])) _
      refine XS.iload X60.here hx rfl (hb hby at_95) rfl ?_
      show Steps p.tables e below (T60.setTop (mkF m 97 #[.val (.int p0), .val (.long q1), .second, .val (.int p2), .val (.ref b5), .val (.int (1 : Int32))] [(.int (1 : Int32)), (.ref b5)])) _
      refine XS.iloadN X60.here hx rfl (hb hby at_97) rfl ?_
      show Steps p.tables e below (T60.setTop (mkF m 98 #[.val (.int p0), .val (.long q1), .second, .val (.int p2), .val (.ref b5), .val (.int (1 : Int32))] [(.int p0), (.int (1 : Int32)), (.ref b5)])) _
      refine XS.bipush X60.here hx rfl (hb hby at_98) ?_
      show Steps p.tables e below (T60.setTop (mkF m 100 #[.val (.int p0), .val (.long q1), .second, .val (.int p2), .val (.ref b5), .val (.int (1 : Int32))] [(.int (24 : Int32)), (.int p0), (.int (1 : Int32)), (.ref b5)])) _
      refine XS.iushr X60.here hx rfl (hb hby at_100) rfl ?_
      show Steps p.tables e below (T60.setTop (mkF m 101 #[.val (.int p0), .val (.long q1), .second, .val (.int p2), .val (.ref b5), .val (.int (1 : Int32))] [(.int ((p0.toUInt32 >>> ((24 : Int32) &&& 31).toUInt32).toInt32)), (.int (1 : Int32)), (.ref b5)])) _
      refine XS.i2b X60.here hx rfl (hb hby at_101) rfl ?_
      show Steps p.tables e below (T60.setTop (mkF m 102 #[.val (.int p0), .val (.long q1), .second, .val (.int p2), .val (.ref b5), .val (.int (1 : Int32))] [(.int (((p0.toUInt32 >>> ((24 : Int32) &&& 31).toUInt32).toInt32).toInt8.toInt32)), (.int (1 : Int32)), (.ref b5)])) _
      show Steps p.tables e below (T60.setTop (mkF m 102 #[.val (.int p0), .val (.long q1), .second, .val (.int p2), .val (.ref b5), .val (.int (1 : Int32))] [(.int (((p0.toUInt32 >>> ((24 : Int32) &&& 31).toUInt32).toInt32).toInt8.toInt32)), (.int (1 : Int32)), (.ref b5)])) _
      refine castTop (congrArg (fun z : Int32 => mkF m 102 #[.val (.int p0), .val (.long q1), .second, .val (.int p2), .val (.ref b5), .val (.int (1 : Int32))] [(.int z), (.int (1 : Int32)), (.ref b5)]) hv102.symm) ?_
      refine st104 _ ?_
      show Steps p.tables e below (T104.setTop (mkF m 103 #[.val (.int p0), .val (.long q1), .second, .val (.int p2), .val (.ref b5), .val (.int (1 : Int32))] [])) _
      refine XS.aload X104.here hx rfl (hb hby at_103) rfl rfl ?_
      show Steps p.tables e below (T104.setTop (mkF m 105 #[.val (.int p0), .val (.long q1), .second, .val (.int p2), .val (.ref b5), .val (.int (1 : Int32))] [(.ref b5)])) _
      refine XS.iload X104.here hx rfl (hb hby at_105) rfl ?_
      show Steps p.tables e below (T104.setTop (mkF m 107 #[.val (.int p0), .val (.long q1), .second, .val (.int p2), .val (.ref b5), .val (.int (1 : Int32))] [(.int (1 : Int32)), (.ref b5)])) _
      refine XS.iconst X104.here hx rfl (hb hby at_107) ?_
      show Steps p.tables e below (T104.setTop (mkF m 108 #[.val (.int p0), .val (.long q1), .second, .val (.int p2), .val (.ref b5), .val (.int (1 : Int32))] [(.int (1 : Int32)), (.int (1 : Int32)), (.ref b5)])) _
      refine XS.iadd X104.here hx rfl (hb hby at_108) rfl ?_
      show Steps p.tables e below (T104.setTop (mkF m 109 #[.val (.int p0), .val (.long q1), .second, .val (.int p2), .val (.ref b5), .val (.int (1 : Int32))] [(.int ((1 : Int32) + (1 : Int32))), (.ref b5)])) _
      refine castTop (congrArg (fun z : Int32 => mkF m 109 #[.val (.int p0), .val (.long q1), .second, .val (.int p2), .val (.ref b5), .val (.int (1 : Int32))] [(.int z), (.ref b5)]) (by decide : ((1 : Int32) + (1 : Int32)) = (2 : Int32))) ?_
      show Steps p.tables e below (T104.setTop (mkF m 109 #[.val (.int p0), .val (.long q1), .second, .val (.int p2), .val (.ref b5), .val (.int (1 : Int32))] [(.int (2 : Int32)), (.ref b5)])) _
      refine XS.iloadN X104.here hx rfl (hb hby at_109) rfl ?_
      show Steps p.tables e below (T104.setTop (mkF m 110 #[.val (.int p0), .val (.long q1), .second, .val (.int p2), .val (.ref b5), .val (.int (1 : Int32))] [(.int p0), (.int (2 : Int32)), (.ref b5)])) _
      refine XS.bipush X104.here hx rfl (hb hby at_110) ?_
      show Steps p.tables e below (T104.setTop (mkF m 112 #[.val (.int p0), .val (.long q1), .second, .val (.int p2), .val (.ref b5), .val (.int (1 : Int32))] [(.int (16 : Int32)), (.int p0), (.int (2 : Int32)), (.ref b5)])) _
      refine XS.iushr X104.here hx rfl (hb hby at_112) rfl ?_
      show Steps p.tables e below (T104.setTop (mkF m 113 #[.val (.int p0), .val (.long q1), .second, .val (.int p2), .val (.ref b5), .val (.int (1 : Int32))] [(.int ((p0.toUInt32 >>> ((16 : Int32) &&& 31).toUInt32).toInt32)), (.int (2 : Int32)), (.ref b5)])) _
      refine XS.i2b X104.here hx rfl (hb hby at_113) rfl ?_
      show Steps p.tables e below (T104.setTop (mkF m 114 #[.val (.int p0), .val (.long q1), .second, .val (.int p2), .val (.ref b5), .val (.int (1 : Int32))] [(.int (((p0.toUInt32 >>> ((16 : Int32) &&& 31).toUInt32).toInt32).toInt8.toInt32)), (.int (2 : Int32)), (.ref b5)])) _
      show Steps p.tables e below (T104.setTop (mkF m 114 #[.val (.int p0), .val (.long q1), .second, .val (.int p2), .val (.ref b5), .val (.int (1 : Int32))] [(.int (((p0.toUInt32 >>> ((16 : Int32) &&& 31).toUInt32).toInt32).toInt8.toInt32)), (.int (2 : Int32)), (.ref b5)])) _
      refine castTop (congrArg (fun z : Int32 => mkF m 114 #[.val (.int p0), .val (.long q1), .second, .val (.int p2), .val (.ref b5), .val (.int (1 : Int32))] [(.int z), (.int (2 : Int32)), (.ref b5)]) hv109.symm) ?_
      refine st111 _ ?_
      show Steps p.tables e below (T111.setTop (mkF m 115 #[.val (.int p0), .val (.long q1), .second, .val (.int p2), .val (.ref b5), .val (.int (1 : Int32))] [])) _
      refine XS.aload X111.here hx rfl (hb hby at_115) rfl rfl ?_
      show Steps p.tables e below (T111.setTop (mkF m 117 #[.val (.int p0), .val (.long q1), .second, .val (.int p2), .val (.ref b5), .val (.int (1 : Int32))] [(.ref b5)])) _
      refine XS.iload X111.here hx rfl (hb hby at_117) rfl ?_
      show Steps p.tables e below (T111.setTop (mkF m 119 #[.val (.int p0), .val (.long q1), .second, .val (.int p2), .val (.ref b5), .val (.int (1 : Int32))] [(.int (1 : Int32)), (.ref b5)])) _
      refine XS.iconst X111.here hx rfl (hb hby at_119) ?_
      show Steps p.tables e below (T111.setTop (mkF m 120 #[.val (.int p0), .val (.long q1), .second, .val (.int p2), .val (.ref b5), .val (.int (1 : Int32))] [(.int (2 : Int32)), (.int (1 : Int32)), (.ref b5)])) _
      refine XS.iadd X111.here hx rfl (hb hby at_120) rfl ?_
      show Steps p.tables e below (T111.setTop (mkF m 121 #[.val (.int p0), .val (.long q1), .second, .val (.int p2), .val (.ref b5), .val (.int (1 : Int32))] [(.int ((1 : Int32) + (2 : Int32))), (.ref b5)])) _
      refine castTop (congrArg (fun z : Int32 => mkF m 121 #[.val (.int p0), .val (.long q1), .second, .val (.int p2), .val (.ref b5), .val (.int (1 : Int32))] [(.int z), (.ref b5)]) (by decide : ((1 : Int32) + (2 : Int32)) = (3 : Int32))) ?_
      show Steps p.tables e below (T111.setTop (mkF m 121 #[.val (.int p0), .val (.long q1), .second, .val (.int p2), .val (.ref b5), .val (.int (1 : Int32))] [(.int (3 : Int32)), (.ref b5)])) _
      refine XS.iloadN X111.here hx rfl (hb hby at_121) rfl ?_
      show Steps p.tables e below (T111.setTop (mkF m 122 #[.val (.int p0), .val (.long q1), .second, .val (.int p2), .val (.ref b5), .val (.int (1 : Int32))] [(.int p0), (.int (3 : Int32)), (.ref b5)])) _
      refine XS.bipush X111.here hx rfl (hb hby at_122) ?_
      show Steps p.tables e below (T111.setTop (mkF m 124 #[.val (.int p0), .val (.long q1), .second, .val (.int p2), .val (.ref b5), .val (.int (1 : Int32))] [(.int (8 : Int32)), (.int p0), (.int (3 : Int32)), (.ref b5)])) _
      refine XS.iushr X111.here hx rfl (hb hby at_124) rfl ?_
      show Steps p.tables e below (T111.setTop (mkF m 125 #[.val (.int p0), .val (.long q1), .second, .val (.int p2), .val (.ref b5), .val (.int (1 : Int32))] [(.int ((p0.toUInt32 >>> ((8 : Int32) &&& 31).toUInt32).toInt32)), (.int (3 : Int32)), (.ref b5)])) _
      refine XS.i2b X111.here hx rfl (hb hby at_125) rfl ?_
      show Steps p.tables e below (T111.setTop (mkF m 126 #[.val (.int p0), .val (.long q1), .second, .val (.int p2), .val (.ref b5), .val (.int (1 : Int32))] [(.int (((p0.toUInt32 >>> ((8 : Int32) &&& 31).toUInt32).toInt32).toInt8.toInt32)), (.int (3 : Int32)), (.ref b5)])) _
      show Steps p.tables e below (T111.setTop (mkF m 126 #[.val (.int p0), .val (.long q1), .second, .val (.int p2), .val (.ref b5), .val (.int (1 : Int32))] [(.int (((p0.toUInt32 >>> ((8 : Int32) &&& 31).toUInt32).toInt32).toInt8.toInt32)), (.int (3 : Int32)), (.ref b5)])) _
      refine castTop (congrArg (fun z : Int32 => mkF m 126 #[.val (.int p0), .val (.long q1), .second, .val (.int p2), .val (.ref b5), .val (.int (1 : Int32))] [(.int z), (.int (3 : Int32)), (.ref b5)]) hv116.symm) ?_
      refine st118 _ ?_
      show Steps p.tables e below (T118.setTop (mkF m 127 #[.val (.int p0), .val (.long q1), .second, .val (.int p2), .val (.ref b5), .val (.int (1 : Int32))] [])) _
      refine XS.aload X118.here hx rfl (hb hby at_127) rfl rfl ?_
      show Steps p.tables e below (T118.setTop (mkF m 129 #[.val (.int p0), .val (.long q1), .second, .val (.int p2), .val (.ref b5), .val (.int (1 : Int32))] [(.ref b5)])) _
      refine XS.iload X118.here hx rfl (hb hby at_129) rfl ?_
      show Steps p.tables e below (T118.setTop (mkF m 131 #[.val (.int p0), .val (.long q1), .second, .val (.int p2), .val (.ref b5), .val (.int (1 : Int32))] [(.int (1 : Int32)), (.ref b5)])) _
      refine XS.iconst X118.here hx rfl (hb hby at_131) ?_
      show Steps p.tables e below (T118.setTop (mkF m 132 #[.val (.int p0), .val (.long q1), .second, .val (.int p2), .val (.ref b5), .val (.int (1 : Int32))] [(.int (3 : Int32)), (.int (1 : Int32)), (.ref b5)])) _
      refine XS.iadd X118.here hx rfl (hb hby at_132) rfl ?_
      show Steps p.tables e below (T118.setTop (mkF m 133 #[.val (.int p0), .val (.long q1), .second, .val (.int p2), .val (.ref b5), .val (.int (1 : Int32))] [(.int ((1 : Int32) + (3 : Int32))), (.ref b5)])) _
      refine castTop (congrArg (fun z : Int32 => mkF m 133 #[.val (.int p0), .val (.long q1), .second, .val (.int p2), .val (.ref b5), .val (.int (1 : Int32))] [(.int z), (.ref b5)]) (by decide : ((1 : Int32) + (3 : Int32)) = (4 : Int32))) ?_
      show Steps p.tables e below (T118.setTop (mkF m 133 #[.val (.int p0), .val (.long q1), .second, .val (.int p2), .val (.ref b5), .val (.int (1 : Int32))] [(.int (4 : Int32)), (.ref b5)])) _
      refine XS.iloadN X118.here hx rfl (hb hby at_133) rfl ?_
      show Steps p.tables e below (T118.setTop (mkF m 134 #[.val (.int p0), .val (.long q1), .second, .val (.int p2), .val (.ref b5), .val (.int (1 : Int32))] [(.int p0), (.int (4 : Int32)), (.ref b5)])) _
      refine XS.i2b X118.here hx rfl (hb hby at_134) rfl ?_
      show Steps p.tables e below (T118.setTop (mkF m 135 #[.val (.int p0), .val (.long q1), .second, .val (.int p2), .val (.ref b5), .val (.int (1 : Int32))] [(.int (p0.toInt8.toInt32)), (.int (4 : Int32)), (.ref b5)])) _
      show Steps p.tables e below (T118.setTop (mkF m 135 #[.val (.int p0), .val (.long q1), .second, .val (.int p2), .val (.ref b5), .val (.int (1 : Int32))] [(.int (p0.toInt8.toInt32)), (.int (4 : Int32)), (.ref b5)])) _
      refine castTop (congrArg (fun z : Int32 => mkF m 135 #[.val (.int p0), .val (.long q1), .second, .val (.int p2), .val (.ref b5), .val (.int (1 : Int32))] [(.int z), (.int (4 : Int32)), (.ref b5)]) hv123.symm) ?_
      refine st125 _ ?_
      show Steps p.tables e below (T125.setTop (mkF m 136 #[.val (.int p0), .val (.long q1), .second, .val (.int p2), .val (.ref b5), .val (.int (1 : Int32))] [])) _
      refine XS.aload X125.here hx rfl (hb hby at_136) rfl rfl ?_
      show Steps p.tables e below (T125.setTop (mkF m 138 #[.val (.int p0), .val (.long q1), .second, .val (.int p2), .val (.ref b5), .val (.int (1 : Int32))] [(.ref b5)])) _
      refine XS.iload X125.here hx rfl (hb hby at_138) rfl ?_
      show Steps p.tables e below (T125.setTop (mkF m 140 #[.val (.int p0), .val (.long q1), .second, .val (.int p2), .val (.ref b5), .val (.int (1 : Int32))] [(.int (1 : Int32)), (.ref b5)])) _
      refine st130 _ ?_
      show Steps p.tables e below (T130.setTop (mkF m 143 #[.val (.int p0), .val (.long q1), .second, .val (.int p2), .val (.ref b5), .val (.int (1 : Int32))] [(.int (own_rd (nar .byte v102) (nar .byte v109) (nar .byte v116) (nar .byte v123)))])) _
      refine XS.iloadN X130.here hx rfl (hb hby at_143) rfl ?_
      show Steps p.tables e below (T130.setTop (mkF m 144 #[.val (.int p0), .val (.long q1), .second, .val (.int p2), .val (.ref b5), .val (.int (1 : Int32))] [(.int p0), (.int (own_rd (nar .byte v102) (nar .byte v109) (nar .byte v116) (nar .byte v123)))])) _
      exact kk)
    by_cases hc134 : (own_rd (nar .byte v102) (nar .byte v109) (nar .byte v116) (nar .byte v123)) = p0
    · obtain ⟨fs, hr, hrun, hended, hW, hsame⟩ := X130.leave (v := some (.int (1 : Int32))) (fun h => by rw [Bd.returns] at h; cases h)
      refine ⟨_, _, pre133 _ ?_, hrun, hended, _, _, rfl, ?_, ⟨_, rfl⟩, hW, hsame.mono (by decide) (by decide)⟩
      · show Steps p.tables e below (T130.setTop (mkF m 144 #[.val (.int p0), .val (.long q1), .second, .val (.int p2), .val (.ref b5), .val (.int (1 : Int32))] [(.int p0), (.int (own_rd (nar .byte v102) (nar .byte v109) (nar .byte v116) (nar .byte v123)))])) _
        refine XS.icmpNo X130.here hx rfl (hb hby at_144) rfl (teq hc134).2 ?_
        show Steps p.tables e below (T130.setTop (mkF m 147 #[.val (.int p0), .val (.long q1), .second, .val (.int p2), .val (.ref b5), .val (.int (1 : Int32))] [])) _
        refine XS.iconst X130.here hx rfl (hb hby at_147) ?_
        show Steps p.tables e below (T130.setTop (mkF m 148 #[.val (.int p0), .val (.long q1), .second, .val (.int p2), .val (.ref b5), .val (.int (1 : Int32))] [(.int (1 : Int32))])) _
        refine XS.goto X130.here hx rfl (pc0 := 148) (pc' := 152) rfl (hb hby at_148) (by decide) (by decide) ?_
        show Steps p.tables e below (T130.setTop (mkF m 152 #[.val (.int p0), .val (.long q1), .second, .val (.int p2), .val (.ref b5), .val (.int (1 : Int32))] [(.int (1 : Int32))])) _
        exact retN X130 hx (t := .boolean) Bd.returns (by simp) (hb hby at_152) hr
      · show own_Q0 Z p0 q1 p2 h0 n0 _ T130.heap _
        rw [e132]
        exact ⟨rfl, N131⟩
    · exact (own_leaf0_4 p0 v102 hv102 v109 hv109 v116 hv116 v123 hv123 hc134).elim
  · subst hs68
    obtain ⟨v135, hv135⟩ : ∃ z : Int32, z = (((p0.toUInt32 >>> ((24 : Int32) &&& 31).toUInt32).toInt32).toInt8.toInt32) := ⟨_, rfl⟩
    obtain ⟨cl136, Ar136, q136, S136, M136, H136, G136⟩ := id f64
    have hin136 : ¬ ((2 : Int32) < 0 ∨ cl136.slots.size ≤ ((2 : Int32)).toNatClampNeg) := inb_of S136 ⟨by decide, by decide⟩
    obtain ⟨T137, h137, X137, e137, W137, st137⟩ := stB X60 hx hZ e60 Ar136 (j := (2 : Int32)) hin136 (g := (mkF m 102 #[.val (.int p0), .val (.long q1), .second, .val (.int p2), .val (.ref b5), .val (.int (2 : Int32))] [(.int v135), (.int (2 : Int32)), (.ref b5)])) rfl rfl (hb hby at_102)
    have K138 : Keep h0 h137 [] := K61.wr W137 (Or.inr sz_b5)
    have z139 : n0 ≤ h137.size := Nat.le_trans z62 (Keep.of_wr W137).1
    have N140 := Fr.snoc X137 N63 g_b5
    have f141 : Arv Z h137 b5 k5 .byte (8 : Int32) [(.int (nar .byte v9)), (.int (nar .byte v16)), (.int (nar .byte v135)), (.int (nar .byte v30)), (.int (nar .byte v37)), (.int (nar .byte v44)), (.int (nar .byte v51)), (.int (nar .byte v58))] (.int (0 : Int32)) := Arv.set Ar136 q136 S136 M136 H136 G136 (fits_nar_byte _) W137 2 rfl (Nat.le_of_ble_eq_true rfl)
    obtain ⟨v142, hv142⟩ : ∃ z : Int32, z = (((p0.toUInt32 >>> ((16 : Int32) &&& 31).toUInt32).toInt32).toInt8.toInt32) := ⟨_, rfl⟩
    obtain ⟨cl143, Ar143, q143, S143, M143, H143, G143⟩ := id f141
    have hin143 : ¬ ((3 : Int32) < 0 ∨ cl143.slots.size ≤ ((3 : Int32)).toNatClampNeg) := inb_of S143 ⟨by decide, by decide⟩
    obtain ⟨T144, h144, X144, e144, W144, st144⟩ := stB X137 hx hZ e137 Ar143 (j := (3 : Int32)) hin143 (g := (mkF m 114 #[.val (.int p0), .val (.long q1), .second, .val (.int p2), .val (.ref b5), .val (.int (2 : Int32))] [(.int v142), (.int (3 : Int32)), (.ref b5)])) rfl rfl (hb hby at_114)
    have K145 : Keep h0 h144 [] := K138.wr W144 (Or.inr sz_b5)
    have z146 : n0 ≤ h144.size := Nat.le_trans z139 (Keep.of_wr W144).1
    have N147 := Fr.snoc X144 N140 g_b5
    have f148 : Arv Z h144 b5 k5 .byte (8 : Int32) [(.int (nar .byte v9)), (.int (nar .byte v16)), (.int (nar .byte v135)), (.int (nar .byte v142)), (.int (nar .byte v37)), (.int (nar .byte v44)), (.int (nar .byte v51)), (.int (nar .byte v58))] (.int (0 : Int32)) := Arv.set Ar143 q143 S143 M143 H143 G143 (fits_nar_byte _) W144 3 rfl (Nat.le_of_ble_eq_true rfl)
    obtain ⟨v149, hv149⟩ : ∃ z : Int32, z = (((p0.toUInt32 >>> ((8 : Int32) &&& 31).toUInt32).toInt32).toInt8.toInt32) := ⟨_, rfl⟩
    obtain ⟨cl150, Ar150, q150, S150, M150, H150, G150⟩ := id f148
    have hin150 : ¬ ((4 : Int32) < 0 ∨ cl150.slots.size ≤ ((4 : Int32)).toNatClampNeg) := inb_of S150 ⟨by decide, by decide⟩
    obtain ⟨T151, h151, X151, e151, W151, st151⟩ := stB X144 hx hZ e144 Ar150 (j := (4 : Int32)) hin150 (g := (mkF m 126 #[.val (.int p0), .val (.long q1), .second, .val (.int p2), .val (.ref b5), .val (.int (2 : Int32))] [(.int v149), (.int (4 : Int32)), (.ref b5)])) rfl rfl (hb hby at_126)
    have K152 : Keep h0 h151 [] := K145.wr W151 (Or.inr sz_b5)
    have z153 : n0 ≤ h151.size := Nat.le_trans z146 (Keep.of_wr W151).1
    have N154 := Fr.snoc X151 N147 g_b5
    have f155 : Arv Z h151 b5 k5 .byte (8 : Int32) [(.int (nar .byte v9)), (.int (nar .byte v16)), (.int (nar .byte v135)), (.int (nar .byte v142)), (.int (nar .byte v149)), (.int (nar .byte v44)), (.int (nar .byte v51)), (.int (nar .byte v58))] (.int (0 : Int32)) := Arv.set Ar150 q150 S150 M150 H150 G150 (fits_nar_byte _) W151 4 rfl (Nat.le_of_ble_eq_true rfl)
    obtain ⟨v156, hv156⟩ : ∃ z : Int32, z = (p0.toInt8.toInt32) := ⟨_, rfl⟩
    obtain ⟨cl157, Ar157, q157, S157, M157, H157, G157⟩ := id f155
    have hin157 : ¬ ((5 : Int32) < 0 ∨ cl157.slots.size ≤ ((5 : Int32)).toNatClampNeg) := inb_of S157 ⟨by decide, by decide⟩
    obtain ⟨T158, h158, X158, e158, W158, st158⟩ := stB X151 hx hZ e151 Ar157 (j := (5 : Int32)) hin157 (g := (mkF m 135 #[.val (.int p0), .val (.long q1), .second, .val (.int p2), .val (.ref b5), .val (.int (2 : Int32))] [(.int v156), (.int (5 : Int32)), (.ref b5)])) rfl rfl (hb hby at_135)
    have K159 : Keep h0 h158 [] := K152.wr W158 (Or.inr sz_b5)
    have z160 : n0 ≤ h158.size := Nat.le_trans z153 (Keep.of_wr W158).1
    have N161 := Fr.snoc X158 N154 g_b5
    have f162 : Arv Z h158 b5 k5 .byte (8 : Int32) [(.int (nar .byte v9)), (.int (nar .byte v16)), (.int (nar .byte v135)), (.int (nar .byte v142)), (.int (nar .byte v149)), (.int (nar .byte v156)), (.int (nar .byte v51)), (.int (nar .byte v58))] (.int (0 : Int32)) := Arv.set Ar157 q157 S157 M157 H157 G157 (fits_nar_byte _) W158 5 rfl (Nat.le_of_ble_eq_true rfl)
    obtain ⟨_, _, ⟨T163, L163, k163, n163⟩, -, X163, ⟨Lc163, hQ163, l163, y163, z163⟩, st163⟩ := Jvm.LawKit.callS X158 hx (y := (⟨"com/example/all1/all1/Encoding", "readInt", "([BI)I"⟩ : MethodName)) hown (mvT hZ (hw _ (List.mem_of_getElem? (i := 2) rfl))) (mvT hZ (hw _ (List.mem_of_getElem? (i := 3) rfl))) (mvT hZ (hw _ (List.mem_of_getElem? (i := 4) rfl))) (mvT hZ (hw _ (List.mem_of_getElem? (i := 5) rfl))) (by decide) (backOf (W := 0) (own_rm1 l Z a0 hw [] b5 (2 : Int32) (k5) ((8 : Int32)) ([(.int (nar .byte v9)), (.int (nar .byte v16)), (.int (nar .byte v135)), (.int (nar .byte v142)), (.int (nar .byte v149)), (.int (nar .byte v156)), (.int (nar .byte v51)), (.int (nar .byte v58))]) ((.int (0 : Int32))) ((nar .byte v135)) ((nar .byte v142)) ((nar .byte v149)) ((nar .byte v156)) h158 n0 z160 f162 (⟨by decide, by decide⟩) (⟨by decide, by decide⟩) (⟨by decide, by decide⟩) (⟨by decide, by decide⟩) (rfl) (rfl) (rfl) (rfl)) hZ (hw _ (List.mem_of_getElem? (i := 5) rfl)) (hw _ (List.mem_of_getElem? (i := 4) rfl)) (by decide) (by decide)) (g := (mkF m 140 #[.val (.int p0), .val (.long q1), .second, .val (.int p2), .val (.ref b5), .val (.int (2 : Int32))] [(.int (2 : Int32)), (.ref b5)])) rfl (by rw [hml]; rfl) (argsL := [(.ref b5), (.int (2 : Int32))]) (rest := []) (lenOf own_pd0 rfl) rfl (by show 2 * 0 + _ ≤ _; exact Nat.le_of_eq rfl) (hb hby at_140) (fun _ _ => ⟨rfl, e158, (by decide : 1 + 0 ≤ _), (by decide : 8 + 0 ≤ _)⟩)
    dsimp only [Pt.U, Pt.locs, Pt.cells, Pt.slots] at X163 l163 y163 z163 st163 hQ163
    subst l163 y163 z163
    obtain ⟨rfl, N163q, e165⟩ := hQ163
    have N164 := Fr.app N161 N163q
    have pre166 : ∀ t, Steps p.tables e below (T163.setTop (mkF m 144 #[.val (.int p0), .val (.long q1), .second, .val (.int p2), .val (.ref b5), .val (.int (2 : Int32))] [(.int p0), (.int (own_rd (nar .byte v135) (nar .byte v142) (nar .byte v149) (nar .byte v156)))])) t → Steps p.tables e below (s₁.setTop (entryFrame m #[(.int p0), (.long q1), (.int p2)] maxLocals)) t := fun t kk => pre67 t (by
      show Steps p.tables e below (T60.setTop (mkF m 93 #[.val (.int p0), .val (.long q1), .second, .val (.int p2), .val (.ref b5), .val (.int (2 : Int32))] [])) _
      refine XS.aload X60.here hx rfl (hb hby at_93) rfl rfl ?_
      show Steps p.tables e below (T60.setTop (mkF m 95 #[.val (.int p0), .val (.long q1), .second, .val (.int p2), .val (.ref b5), .val (.int (2 : Int32))] [(.ref b5)])) _
      refine XS.iload X60.here hx rfl (hb hby at_95) rfl ?_
      show Steps p.tables e below (T60.setTop (mkF m 97 #[.val (.int p0), .val (.long q1), .second, .val (.int p2), .val (.ref b5), .val (.int (2 : Int32))] [(.int (2 : Int32)), (.ref b5)])) _
      refine XS.iloadN X60.here hx rfl (hb hby at_97) rfl ?_
      show Steps p.tables e below (T60.setTop (mkF m 98 #[.val (.int p0), .val (.long q1), .second, .val (.int p2), .val (.ref b5), .val (.int (2 : Int32))] [(.int p0), (.int (2 : Int32)), (.ref b5)])) _
      refine XS.bipush X60.here hx rfl (hb hby at_98) ?_
      show Steps p.tables e below (T60.setTop (mkF m 100 #[.val (.int p0), .val (.long q1), .second, .val (.int p2), .val (.ref b5), .val (.int (2 : Int32))] [(.int (24 : Int32)), (.int p0), (.int (2 : Int32)), (.ref b5)])) _
      refine XS.iushr X60.here hx rfl (hb hby at_100) rfl ?_
      show Steps p.tables e below (T60.setTop (mkF m 101 #[.val (.int p0), .val (.long q1), .second, .val (.int p2), .val (.ref b5), .val (.int (2 : Int32))] [(.int ((p0.toUInt32 >>> ((24 : Int32) &&& 31).toUInt32).toInt32)), (.int (2 : Int32)), (.ref b5)])) _
      refine XS.i2b X60.here hx rfl (hb hby at_101) rfl ?_
      show Steps p.tables e below (T60.setTop (mkF m 102 #[.val (.int p0), .val (.long q1), .second, .val (.int p2), .val (.ref b5), .val (.int (2 : Int32))] [(.int (((p0.toUInt32 >>> ((24 : Int32) &&& 31).toUInt32).toInt32).toInt8.toInt32)), (.int (2 : Int32)), (.ref b5)])) _
      show Steps p.tables e below (T60.setTop (mkF m 102 #[.val (.int p0), .val (.long q1), .second, .val (.int p2), .val (.ref b5), .val (.int (2 : Int32))] [(.int (((p0.toUInt32 >>> ((24 : Int32) &&& 31).toUInt32).toInt32).toInt8.toInt32)), (.int (2 : Int32)), (.ref b5)])) _
      refine castTop (congrArg (fun z : Int32 => mkF m 102 #[.val (.int p0), .val (.long q1), .second, .val (.int p2), .val (.ref b5), .val (.int (2 : Int32))] [(.int z), (.int (2 : Int32)), (.ref b5)]) hv135.symm) ?_
      refine st137 _ ?_
      show Steps p.tables e below (T137.setTop (mkF m 103 #[.val (.int p0), .val (.long q1), .second, .val (.int p2), .val (.ref b5), .val (.int (2 : Int32))] [])) _
      refine XS.aload X137.here hx rfl (hb hby at_103) rfl rfl ?_
      show Steps p.tables e below (T137.setTop (mkF m 105 #[.val (.int p0), .val (.long q1), .second, .val (.int p2), .val (.ref b5), .val (.int (2 : Int32))] [(.ref b5)])) _
      refine XS.iload X137.here hx rfl (hb hby at_105) rfl ?_
      show Steps p.tables e below (T137.setTop (mkF m 107 #[.val (.int p0), .val (.long q1), .second, .val (.int p2), .val (.ref b5), .val (.int (2 : Int32))] [(.int (2 : Int32)), (.ref b5)])) _
      refine XS.iconst X137.here hx rfl (hb hby at_107) ?_
      show Steps p.tables e below (T137.setTop (mkF m 108 #[.val (.int p0), .val (.long q1), .second, .val (.int p2), .val (.ref b5), .val (.int (2 : Int32))] [(.int (1 : Int32)), (.int (2 : Int32)), (.ref b5)])) _
      refine XS.iadd X137.here hx rfl (hb hby at_108) rfl ?_
      show Steps p.tables e below (T137.setTop (mkF m 109 #[.val (.int p0), .val (.long q1), .second, .val (.int p2), .val (.ref b5), .val (.int (2 : Int32))] [(.int ((2 : Int32) + (1 : Int32))), (.ref b5)])) _
      refine castTop (congrArg (fun z : Int32 => mkF m 109 #[.val (.int p0), .val (.long q1), .second, .val (.int p2), .val (.ref b5), .val (.int (2 : Int32))] [(.int z), (.ref b5)]) (by decide : ((2 : Int32) + (1 : Int32)) = (3 : Int32))) ?_
      show Steps p.tables e below (T137.setTop (mkF m 109 #[.val (.int p0), .val (.long q1), .second, .val (.int p2), .val (.ref b5), .val (.int (2 : Int32))] [(.int (3 : Int32)), (.ref b5)])) _
      refine XS.iloadN X137.here hx rfl (hb hby at_109) rfl ?_
      show Steps p.tables e below (T137.setTop (mkF m 110 #[.val (.int p0), .val (.long q1), .second, .val (.int p2), .val (.ref b5), .val (.int (2 : Int32))] [(.int p0), (.int (3 : Int32)), (.ref b5)])) _
      refine XS.bipush X137.here hx rfl (hb hby at_110) ?_
      show Steps p.tables e below (T137.setTop (mkF m 112 #[.val (.int p0), .val (.long q1), .second, .val (.int p2), .val (.ref b5), .val (.int (2 : Int32))] [(.int (16 : Int32)), (.int p0), (.int (3 : Int32)), (.ref b5)])) _
      refine XS.iushr X137.here hx rfl (hb hby at_112) rfl ?_
      show Steps p.tables e below (T137.setTop (mkF m 113 #[.val (.int p0), .val (.long q1), .second, .val (.int p2), .val (.ref b5), .val (.int (2 : Int32))] [(.int ((p0.toUInt32 >>> ((16 : Int32) &&& 31).toUInt32).toInt32)), (.int (3 : Int32)), (.ref b5)])) _
      refine XS.i2b X137.here hx rfl (hb hby at_113) rfl ?_
      show Steps p.tables e below (T137.setTop (mkF m 114 #[.val (.int p0), .val (.long q1), .second, .val (.int p2), .val (.ref b5), .val (.int (2 : Int32))] [(.int (((p0.toUInt32 >>> ((16 : Int32) &&& 31).toUInt32).toInt32).toInt8.toInt32)), (.int (3 : Int32)), (.ref b5)])) _
      show Steps p.tables e below (T137.setTop (mkF m 114 #[.val (.int p0), .val (.long q1), .second, .val (.int p2), .val (.ref b5), .val (.int (2 : Int32))] [(.int (((p0.toUInt32 >>> ((16 : Int32) &&& 31).toUInt32).toInt32).toInt8.toInt32)), (.int (3 : Int32)), (.ref b5)])) _
      refine castTop (congrArg (fun z : Int32 => mkF m 114 #[.val (.int p0), .val (.long q1), .second, .val (.int p2), .val (.ref b5), .val (.int (2 : Int32))] [(.int z), (.int (3 : Int32)), (.ref b5)]) hv142.symm) ?_
      refine st144 _ ?_
      show Steps p.tables e below (T144.setTop (mkF m 115 #[.val (.int p0), .val (.long q1), .second, .val (.int p2), .val (.ref b5), .val (.int (2 : Int32))] [])) _
      refine XS.aload X144.here hx rfl (hb hby at_115) rfl rfl ?_
      show Steps p.tables e below (T144.setTop (mkF m 117 #[.val (.int p0), .val (.long q1), .second, .val (.int p2), .val (.ref b5), .val (.int (2 : Int32))] [(.ref b5)])) _
      refine XS.iload X144.here hx rfl (hb hby at_117) rfl ?_
      show Steps p.tables e below (T144.setTop (mkF m 119 #[.val (.int p0), .val (.long q1), .second, .val (.int p2), .val (.ref b5), .val (.int (2 : Int32))] [(.int (2 : Int32)), (.ref b5)])) _
      refine XS.iconst X144.here hx rfl (hb hby at_119) ?_
      show Steps p.tables e below (T144.setTop (mkF m 120 #[.val (.int p0), .val (.long q1), .second, .val (.int p2), .val (.ref b5), .val (.int (2 : Int32))] [(.int (2 : Int32)), (.int (2 : Int32)), (.ref b5)])) _
      refine XS.iadd X144.here hx rfl (hb hby at_120) rfl ?_
      show Steps p.tables e below (T144.setTop (mkF m 121 #[.val (.int p0), .val (.long q1), .second, .val (.int p2), .val (.ref b5), .val (.int (2 : Int32))] [(.int ((2 : Int32) + (2 : Int32))), (.ref b5)])) _
      refine castTop (congrArg (fun z : Int32 => mkF m 121 #[.val (.int p0), .val (.long q1), .second, .val (.int p2), .val (.ref b5), .val (.int (2 : Int32))] [(.int z), (.ref b5)]) (by decide : ((2 : Int32) + (2 : Int32)) = (4 : Int32))) ?_
      show Steps p.tables e below (T144.setTop (mkF m 121 #[.val (.int p0), .val (.long q1), .second, .val (.int p2), .val (.ref b5), .val (.int (2 : Int32))] [(.int (4 : Int32)), (.ref b5)])) _
      refine XS.iloadN X144.here hx rfl (hb hby at_121) rfl ?_
      show Steps p.tables e below (T144.setTop (mkF m 122 #[.val (.int p0), .val (.long q1), .second, .val (.int p2), .val (.ref b5), .val (.int (2 : Int32))] [(.int p0), (.int (4 : Int32)), (.ref b5)])) _
      refine XS.bipush X144.here hx rfl (hb hby at_122) ?_
      show Steps p.tables e below (T144.setTop (mkF m 124 #[.val (.int p0), .val (.long q1), .second, .val (.int p2), .val (.ref b5), .val (.int (2 : Int32))] [(.int (8 : Int32)), (.int p0), (.int (4 : Int32)), (.ref b5)])) _
      refine XS.iushr X144.here hx rfl (hb hby at_124) rfl ?_
      show Steps p.tables e below (T144.setTop (mkF m 125 #[.val (.int p0), .val (.long q1), .second, .val (.int p2), .val (.ref b5), .val (.int (2 : Int32))] [(.int ((p0.toUInt32 >>> ((8 : Int32) &&& 31).toUInt32).toInt32)), (.int (4 : Int32)), (.ref b5)])) _
      refine XS.i2b X144.here hx rfl (hb hby at_125) rfl ?_
      show Steps p.tables e below (T144.setTop (mkF m 126 #[.val (.int p0), .val (.long q1), .second, .val (.int p2), .val (.ref b5), .val (.int (2 : Int32))] [(.int (((p0.toUInt32 >>> ((8 : Int32) &&& 31).toUInt32).toInt32).toInt8.toInt32)), (.int (4 : Int32)), (.ref b5)])) _
      show Steps p.tables e below (T144.setTop (mkF m 126 #[.val (.int p0), .val (.long q1), .second, .val (.int p2), .val (.ref b5), .val (.int (2 : Int32))] [(.int (((p0.toUInt32 >>> ((8 : Int32) &&& 31).toUInt32).toInt32).toInt8.toInt32)), (.int (4 : Int32)), (.ref b5)])) _
      refine castTop (congrArg (fun z : Int32 => mkF m 126 #[.val (.int p0), .val (.long q1), .second, .val (.int p2), .val (.ref b5), .val (.int (2 : Int32))] [(.int z), (.int (4 : Int32)), (.ref b5)]) hv149.symm) ?_
      refine st151 _ ?_
      show Steps p.tables e below (T151.setTop (mkF m 127 #[.val (.int p0), .val (.long q1), .second, .val (.int p2), .val (.ref b5), .val (.int (2 : Int32))] [])) _
      refine XS.aload X151.here hx rfl (hb hby at_127) rfl rfl ?_
      show Steps p.tables e below (T151.setTop (mkF m 129 #[.val (.int p0), .val (.long q1), .second, .val (.int p2), .val (.ref b5), .val (.int (2 : Int32))] [(.ref b5)])) _
      refine XS.iload X151.here hx rfl (hb hby at_129) rfl ?_
      show Steps p.tables e below (T151.setTop (mkF m 131 #[.val (.int p0), .val (.long q1), .second, .val (.int p2), .val (.ref b5), .val (.int (2 : Int32))] [(.int (2 : Int32)), (.ref b5)])) _
      refine XS.iconst X151.here hx rfl (hb hby at_131) ?_
      show Steps p.tables e below (T151.setTop (mkF m 132 #[.val (.int p0), .val (.long q1), .second, .val (.int p2), .val (.ref b5), .val (.int (2 : Int32))] [(.int (3 : Int32)), (.int (2 : Int32)), (.ref b5)])) _
      refine XS.iadd X151.here hx rfl (hb hby at_132) rfl ?_
      show Steps p.tables e below (T151.setTop (mkF m 133 #[.val (.int p0), .val (.long q1), .second, .val (.int p2), .val (.ref b5), .val (.int (2 : Int32))] [(.int ((2 : Int32) + (3 : Int32))), (.ref b5)])) _
      refine castTop (congrArg (fun z : Int32 => mkF m 133 #[.val (.int p0), .val (.long q1), .second, .val (.int p2), .val (.ref b5), .val (.int (2 : Int32))] [(.int z), (.ref b5)]) (by decide : ((2 : Int32) + (3 : Int32)) = (5 : Int32))) ?_
      show Steps p.tables e below (T151.setTop (mkF m 133 #[.val (.int p0), .val (.long q1), .second, .val (.int p2), .val (.ref b5), .val (.int (2 : Int32))] [(.int (5 : Int32)), (.ref b5)])) _
      refine XS.iloadN X151.here hx rfl (hb hby at_133) rfl ?_
      show Steps p.tables e below (T151.setTop (mkF m 134 #[.val (.int p0), .val (.long q1), .second, .val (.int p2), .val (.ref b5), .val (.int (2 : Int32))] [(.int p0), (.int (5 : Int32)), (.ref b5)])) _
      refine XS.i2b X151.here hx rfl (hb hby at_134) rfl ?_
      show Steps p.tables e below (T151.setTop (mkF m 135 #[.val (.int p0), .val (.long q1), .second, .val (.int p2), .val (.ref b5), .val (.int (2 : Int32))] [(.int (p0.toInt8.toInt32)), (.int (5 : Int32)), (.ref b5)])) _
      show Steps p.tables e below (T151.setTop (mkF m 135 #[.val (.int p0), .val (.long q1), .second, .val (.int p2), .val (.ref b5), .val (.int (2 : Int32))] [(.int (p0.toInt8.toInt32)), (.int (5 : Int32)), (.ref b5)])) _
      refine castTop (congrArg (fun z : Int32 => mkF m 135 #[.val (.int p0), .val (.long q1), .second, .val (.int p2), .val (.ref b5), .val (.int (2 : Int32))] [(.int z), (.int (5 : Int32)), (.ref b5)]) hv156.symm) ?_
      refine st158 _ ?_
      show Steps p.tables e below (T158.setTop (mkF m 136 #[.val (.int p0), .val (.long q1), .second, .val (.int p2), .val (.ref b5), .val (.int (2 : Int32))] [])) _
      refine XS.aload X158.here hx rfl (hb hby at_136) rfl rfl ?_
      show Steps p.tables e below (T158.setTop (mkF m 138 #[.val (.int p0), .val (.long q1), .second, .val (.int p2), .val (.ref b5), .val (.int (2 : Int32))] [(.ref b5)])) _
      refine XS.iload X158.here hx rfl (hb hby at_138) rfl ?_
      show Steps p.tables e below (T158.setTop (mkF m 140 #[.val (.int p0), .val (.long q1), .second, .val (.int p2), .val (.ref b5), .val (.int (2 : Int32))] [(.int (2 : Int32)), (.ref b5)])) _
      refine st163 _ ?_
      show Steps p.tables e below (T163.setTop (mkF m 143 #[.val (.int p0), .val (.long q1), .second, .val (.int p2), .val (.ref b5), .val (.int (2 : Int32))] [(.int (own_rd (nar .byte v135) (nar .byte v142) (nar .byte v149) (nar .byte v156)))])) _
      refine XS.iloadN X163.here hx rfl (hb hby at_143) rfl ?_
      show Steps p.tables e below (T163.setTop (mkF m 144 #[.val (.int p0), .val (.long q1), .second, .val (.int p2), .val (.ref b5), .val (.int (2 : Int32))] [(.int p0), (.int (own_rd (nar .byte v135) (nar .byte v142) (nar .byte v149) (nar .byte v156)))])) _
      exact kk)
    by_cases hc167 : (own_rd (nar .byte v135) (nar .byte v142) (nar .byte v149) (nar .byte v156)) = p0
    · obtain ⟨fs, hr, hrun, hended, hW, hsame⟩ := X163.leave (v := some (.int (1 : Int32))) (fun h => by rw [Bd.returns] at h; cases h)
      refine ⟨_, _, pre166 _ ?_, hrun, hended, _, _, rfl, ?_, ⟨_, rfl⟩, hW, hsame.mono (by decide) (by decide)⟩
      · show Steps p.tables e below (T163.setTop (mkF m 144 #[.val (.int p0), .val (.long q1), .second, .val (.int p2), .val (.ref b5), .val (.int (2 : Int32))] [(.int p0), (.int (own_rd (nar .byte v135) (nar .byte v142) (nar .byte v149) (nar .byte v156)))])) _
        refine XS.icmpNo X163.here hx rfl (hb hby at_144) rfl (teq hc167).2 ?_
        show Steps p.tables e below (T163.setTop (mkF m 147 #[.val (.int p0), .val (.long q1), .second, .val (.int p2), .val (.ref b5), .val (.int (2 : Int32))] [])) _
        refine XS.iconst X163.here hx rfl (hb hby at_147) ?_
        show Steps p.tables e below (T163.setTop (mkF m 148 #[.val (.int p0), .val (.long q1), .second, .val (.int p2), .val (.ref b5), .val (.int (2 : Int32))] [(.int (1 : Int32))])) _
        refine XS.goto X163.here hx rfl (pc0 := 148) (pc' := 152) rfl (hb hby at_148) (by decide) (by decide) ?_
        show Steps p.tables e below (T163.setTop (mkF m 152 #[.val (.int p0), .val (.long q1), .second, .val (.int p2), .val (.ref b5), .val (.int (2 : Int32))] [(.int (1 : Int32))])) _
        exact retN X163 hx (t := .boolean) Bd.returns (by simp) (hb hby at_152) hr
      · show own_Q0 Z p0 q1 p2 h0 n0 _ T163.heap _
        rw [e165]
        exact ⟨rfl, N164⟩
    · exact (own_leaf0_6 p0 v135 hv135 v142 hv142 v149 hv149 v156 hv156 hc167).elim
  · subst hs68
    obtain ⟨v168, hv168⟩ : ∃ z : Int32, z = (((p0.toUInt32 >>> ((24 : Int32) &&& 31).toUInt32).toInt32).toInt8.toInt32) := ⟨_, rfl⟩
    obtain ⟨cl169, Ar169, q169, S169, M169, H169, G169⟩ := id f64
    have hin169 : ¬ ((3 : Int32) < 0 ∨ cl169.slots.size ≤ ((3 : Int32)).toNatClampNeg) := inb_of S169 ⟨by decide, by decide⟩
    obtain ⟨T170, h170, X170, e170, W170, st170⟩ := stB X60 hx hZ e60 Ar169 (j := (3 : Int32)) hin169 (g := (mkF m 102 #[.val (.int p0), .val (.long q1), .second, .val (.int p2), .val (.ref b5), .val (.int (3 : Int32))] [(.int v168), (.int (3 : Int32)), (.ref b5)])) rfl rfl (hb hby at_102)
    have K171 : Keep h0 h170 [] := K61.wr W170 (Or.inr sz_b5)
    have z172 : n0 ≤ h170.size := Nat.le_trans z62 (Keep.of_wr W170).1
    have N173 := Fr.snoc X170 N63 g_b5
    have f174 : Arv Z h170 b5 k5 .byte (8 : Int32) [(.int (nar .byte v9)), (.int (nar .byte v16)), (.int (nar .byte v23)), (.int (nar .byte v168)), (.int (nar .byte v37)), (.int (nar .byte v44)), (.int (nar .byte v51)), (.int (nar .byte v58))] (.int (0 : Int32)) := Arv.set Ar169 q169 S169 M169 H169 G169 (fits_nar_byte _) W170 3 rfl (Nat.le_of_ble_eq_true rfl)
    obtain ⟨v175, hv175⟩ : ∃ z : Int32, z = (((p0.toUInt32 >>> ((16 : Int32) &&& 31).toUInt32).toInt32).toInt8.toInt32) := ⟨_, rfl⟩
    obtain ⟨cl176, Ar176, q176, S176, M176, H176, G176⟩ := id f174
    have hin176 : ¬ ((4 : Int32) < 0 ∨ cl176.slots.size ≤ ((4 : Int32)).toNatClampNeg) := inb_of S176 ⟨by decide, by decide⟩
    obtain ⟨T177, h177, X177, e177, W177, st177⟩ := stB X170 hx hZ e170 Ar176 (j := (4 : Int32)) hin176 (g := (mkF m 114 #[.val (.int p0), .val (.long q1), .second, .val (.int p2), .val (.ref b5), .val (.int (3 : Int32))] [(.int v175), (.int (4 : Int32)), (.ref b5)])) rfl rfl (hb hby at_114)
    have K178 : Keep h0 h177 [] := K171.wr W177 (Or.inr sz_b5)
    have z179 : n0 ≤ h177.size := Nat.le_trans z172 (Keep.of_wr W177).1
    have N180 := Fr.snoc X177 N173 g_b5
    have f181 : Arv Z h177 b5 k5 .byte (8 : Int32) [(.int (nar .byte v9)), (.int (nar .byte v16)), (.int (nar .byte v23)), (.int (nar .byte v168)), (.int (nar .byte v175)), (.int (nar .byte v44)), (.int (nar .byte v51)), (.int (nar .byte v58))] (.int (0 : Int32)) := Arv.set Ar176 q176 S176 M176 H176 G176 (fits_nar_byte _) W177 4 rfl (Nat.le_of_ble_eq_true rfl)
    obtain ⟨v182, hv182⟩ : ∃ z : Int32, z = (((p0.toUInt32 >>> ((8 : Int32) &&& 31).toUInt32).toInt32).toInt8.toInt32) := ⟨_, rfl⟩
    obtain ⟨cl183, Ar183, q183, S183, M183, H183, G183⟩ := id f181
    have hin183 : ¬ ((5 : Int32) < 0 ∨ cl183.slots.size ≤ ((5 : Int32)).toNatClampNeg) := inb_of S183 ⟨by decide, by decide⟩
    obtain ⟨T184, h184, X184, e184, W184, st184⟩ := stB X177 hx hZ e177 Ar183 (j := (5 : Int32)) hin183 (g := (mkF m 126 #[.val (.int p0), .val (.long q1), .second, .val (.int p2), .val (.ref b5), .val (.int (3 : Int32))] [(.int v182), (.int (5 : Int32)), (.ref b5)])) rfl rfl (hb hby at_126)
    have K185 : Keep h0 h184 [] := K178.wr W184 (Or.inr sz_b5)
    have z186 : n0 ≤ h184.size := Nat.le_trans z179 (Keep.of_wr W184).1
    have N187 := Fr.snoc X184 N180 g_b5
    have f188 : Arv Z h184 b5 k5 .byte (8 : Int32) [(.int (nar .byte v9)), (.int (nar .byte v16)), (.int (nar .byte v23)), (.int (nar .byte v168)), (.int (nar .byte v175)), (.int (nar .byte v182)), (.int (nar .byte v51)), (.int (nar .byte v58))] (.int (0 : Int32)) := Arv.set Ar183 q183 S183 M183 H183 G183 (fits_nar_byte _) W184 5 rfl (Nat.le_of_ble_eq_true rfl)
    obtain ⟨v189, hv189⟩ : ∃ z : Int32, z = (p0.toInt8.toInt32) := ⟨_, rfl⟩
    obtain ⟨cl190, Ar190, q190, S190, M190, H190, G190⟩ := id f188
    have hin190 : ¬ ((6 : Int32) < 0 ∨ cl190.slots.size ≤ ((6 : Int32)).toNatClampNeg) := inb_of S190 ⟨by decide, by decide⟩
    obtain ⟨T191, h191, X191, e191, W191, st191⟩ := stB X184 hx hZ e184 Ar190 (j := (6 : Int32)) hin190 (g := (mkF m 135 #[.val (.int p0), .val (.long q1), .second, .val (.int p2), .val (.ref b5), .val (.int (3 : Int32))] [(.int v189), (.int (6 : Int32)), (.ref b5)])) rfl rfl (hb hby at_135)
    have K192 : Keep h0 h191 [] := K185.wr W191 (Or.inr sz_b5)
    have z193 : n0 ≤ h191.size := Nat.le_trans z186 (Keep.of_wr W191).1
    have N194 := Fr.snoc X191 N187 g_b5
    have f195 : Arv Z h191 b5 k5 .byte (8 : Int32) [(.int (nar .byte v9)), (.int (nar .byte v16)), (.int (nar .byte v23)), (.int (nar .byte v168)), (.int (nar .byte v175)), (.int (nar .byte v182)), (.int (nar .byte v189)), (.int (nar .byte v58))] (.int (0 : Int32)) := Arv.set Ar190 q190 S190 M190 H190 G190 (fits_nar_byte _) W191 6 rfl (Nat.le_of_ble_eq_true rfl)
    obtain ⟨_, _, ⟨T196, L196, k196, n196⟩, -, X196, ⟨Lc196, hQ196, l196, y196, z196⟩, st196⟩ := Jvm.LawKit.callS X191 hx (y := (⟨"com/example/all1/all1/Encoding", "readInt", "([BI)I"⟩ : MethodName)) hown (mvT hZ (hw _ (List.mem_of_getElem? (i := 2) rfl))) (mvT hZ (hw _ (List.mem_of_getElem? (i := 3) rfl))) (mvT hZ (hw _ (List.mem_of_getElem? (i := 4) rfl))) (mvT hZ (hw _ (List.mem_of_getElem? (i := 5) rfl))) (by decide) (backOf (W := 0) (own_rm1 l Z a0 hw [] b5 (3 : Int32) (k5) ((8 : Int32)) ([(.int (nar .byte v9)), (.int (nar .byte v16)), (.int (nar .byte v23)), (.int (nar .byte v168)), (.int (nar .byte v175)), (.int (nar .byte v182)), (.int (nar .byte v189)), (.int (nar .byte v58))]) ((.int (0 : Int32))) ((nar .byte v168)) ((nar .byte v175)) ((nar .byte v182)) ((nar .byte v189)) h191 n0 z193 f195 (⟨by decide, by decide⟩) (⟨by decide, by decide⟩) (⟨by decide, by decide⟩) (⟨by decide, by decide⟩) (rfl) (rfl) (rfl) (rfl)) hZ (hw _ (List.mem_of_getElem? (i := 5) rfl)) (hw _ (List.mem_of_getElem? (i := 4) rfl)) (by decide) (by decide)) (g := (mkF m 140 #[.val (.int p0), .val (.long q1), .second, .val (.int p2), .val (.ref b5), .val (.int (3 : Int32))] [(.int (3 : Int32)), (.ref b5)])) rfl (by rw [hml]; rfl) (argsL := [(.ref b5), (.int (3 : Int32))]) (rest := []) (lenOf own_pd0 rfl) rfl (by show 2 * 0 + _ ≤ _; exact Nat.le_of_eq rfl) (hb hby at_140) (fun _ _ => ⟨rfl, e191, (by decide : 1 + 0 ≤ _), (by decide : 8 + 0 ≤ _)⟩)
    dsimp only [Pt.U, Pt.locs, Pt.cells, Pt.slots] at X196 l196 y196 z196 st196 hQ196
    subst l196 y196 z196
    obtain ⟨rfl, N196q, e198⟩ := hQ196
    have N197 := Fr.app N194 N196q
    have pre199 : ∀ t, Steps p.tables e below (T196.setTop (mkF m 144 #[.val (.int p0), .val (.long q1), .second, .val (.int p2), .val (.ref b5), .val (.int (3 : Int32))] [(.int p0), (.int (own_rd (nar .byte v168) (nar .byte v175) (nar .byte v182) (nar .byte v189)))])) t → Steps p.tables e below (s₁.setTop (entryFrame m #[(.int p0), (.long q1), (.int p2)] maxLocals)) t := fun t kk => pre67 t (by
      show Steps p.tables e below (T60.setTop (mkF m 93 #[.val (.int p0), .val (.long q1), .second, .val (.int p2), .val (.ref b5), .val (.int (3 : Int32))] [])) _
      refine XS.aload X60.here hx rfl (hb hby at_93) rfl rfl ?_
      show Steps p.tables e below (T60.setTop (mkF m 95 #[.val (.int p0), .val (.long q1), .second, .val (.int p2), .val (.ref b5), .val (.int (3 : Int32))] [(.ref b5)])) _
      refine XS.iload X60.here hx rfl (hb hby at_95) rfl ?_
      show Steps p.tables e below (T60.setTop (mkF m 97 #[.val (.int p0), .val (.long q1), .second, .val (.int p2), .val (.ref b5), .val (.int (3 : Int32))] [(.int (3 : Int32)), (.ref b5)])) _
      refine XS.iloadN X60.here hx rfl (hb hby at_97) rfl ?_
      show Steps p.tables e below (T60.setTop (mkF m 98 #[.val (.int p0), .val (.long q1), .second, .val (.int p2), .val (.ref b5), .val (.int (3 : Int32))] [(.int p0), (.int (3 : Int32)), (.ref b5)])) _
      refine XS.bipush X60.here hx rfl (hb hby at_98) ?_
      show Steps p.tables e below (T60.setTop (mkF m 100 #[.val (.int p0), .val (.long q1), .second, .val (.int p2), .val (.ref b5), .val (.int (3 : Int32))] [(.int (24 : Int32)), (.int p0), (.int (3 : Int32)), (.ref b5)])) _
      refine XS.iushr X60.here hx rfl (hb hby at_100) rfl ?_
      show Steps p.tables e below (T60.setTop (mkF m 101 #[.val (.int p0), .val (.long q1), .second, .val (.int p2), .val (.ref b5), .val (.int (3 : Int32))] [(.int ((p0.toUInt32 >>> ((24 : Int32) &&& 31).toUInt32).toInt32)), (.int (3 : Int32)), (.ref b5)])) _
      refine XS.i2b X60.here hx rfl (hb hby at_101) rfl ?_
      show Steps p.tables e below (T60.setTop (mkF m 102 #[.val (.int p0), .val (.long q1), .second, .val (.int p2), .val (.ref b5), .val (.int (3 : Int32))] [(.int (((p0.toUInt32 >>> ((24 : Int32) &&& 31).toUInt32).toInt32).toInt8.toInt32)), (.int (3 : Int32)), (.ref b5)])) _
      show Steps p.tables e below (T60.setTop (mkF m 102 #[.val (.int p0), .val (.long q1), .second, .val (.int p2), .val (.ref b5), .val (.int (3 : Int32))] [(.int (((p0.toUInt32 >>> ((24 : Int32) &&& 31).toUInt32).toInt32).toInt8.toInt32)), (.int (3 : Int32)), (.ref b5)])) _
      refine castTop (congrArg (fun z : Int32 => mkF m 102 #[.val (.int p0), .val (.long q1), .second, .val (.int p2), .val (.ref b5), .val (.int (3 : Int32))] [(.int z), (.int (3 : Int32)), (.ref b5)]) hv168.symm) ?_
      refine st170 _ ?_
      show Steps p.tables e below (T170.setTop (mkF m 103 #[.val (.int p0), .val (.long q1), .second, .val (.int p2), .val (.ref b5), .val (.int (3 : Int32))] [])) _
      refine XS.aload X170.here hx rfl (hb hby at_103) rfl rfl ?_
      show Steps p.tables e below (T170.setTop (mkF m 105 #[.val (.int p0), .val (.long q1), .second, .val (.int p2), .val (.ref b5), .val (.int (3 : Int32))] [(.ref b5)])) _
      refine XS.iload X170.here hx rfl (hb hby at_105) rfl ?_
      show Steps p.tables e below (T170.setTop (mkF m 107 #[.val (.int p0), .val (.long q1), .second, .val (.int p2), .val (.ref b5), .val (.int (3 : Int32))] [(.int (3 : Int32)), (.ref b5)])) _
      refine XS.iconst X170.here hx rfl (hb hby at_107) ?_
      show Steps p.tables e below (T170.setTop (mkF m 108 #[.val (.int p0), .val (.long q1), .second, .val (.int p2), .val (.ref b5), .val (.int (3 : Int32))] [(.int (1 : Int32)), (.int (3 : Int32)), (.ref b5)])) _
      refine XS.iadd X170.here hx rfl (hb hby at_108) rfl ?_
      show Steps p.tables e below (T170.setTop (mkF m 109 #[.val (.int p0), .val (.long q1), .second, .val (.int p2), .val (.ref b5), .val (.int (3 : Int32))] [(.int ((3 : Int32) + (1 : Int32))), (.ref b5)])) _
      refine castTop (congrArg (fun z : Int32 => mkF m 109 #[.val (.int p0), .val (.long q1), .second, .val (.int p2), .val (.ref b5), .val (.int (3 : Int32))] [(.int z), (.ref b5)]) (by decide : ((3 : Int32) + (1 : Int32)) = (4 : Int32))) ?_
      show Steps p.tables e below (T170.setTop (mkF m 109 #[.val (.int p0), .val (.long q1), .second, .val (.int p2), .val (.ref b5), .val (.int (3 : Int32))] [(.int (4 : Int32)), (.ref b5)])) _
      refine XS.iloadN X170.here hx rfl (hb hby at_109) rfl ?_
      show Steps p.tables e below (T170.setTop (mkF m 110 #[.val (.int p0), .val (.long q1), .second, .val (.int p2), .val (.ref b5), .val (.int (3 : Int32))] [(.int p0), (.int (4 : Int32)), (.ref b5)])) _
      refine XS.bipush X170.here hx rfl (hb hby at_110) ?_
      show Steps p.tables e below (T170.setTop (mkF m 112 #[.val (.int p0), .val (.long q1), .second, .val (.int p2), .val (.ref b5), .val (.int (3 : Int32))] [(.int (16 : Int32)), (.int p0), (.int (4 : Int32)), (.ref b5)])) _
      refine XS.iushr X170.here hx rfl (hb hby at_112) rfl ?_
      show Steps p.tables e below (T170.setTop (mkF m 113 #[.val (.int p0), .val (.long q1), .second, .val (.int p2), .val (.ref b5), .val (.int (3 : Int32))] [(.int ((p0.toUInt32 >>> ((16 : Int32) &&& 31).toUInt32).toInt32)), (.int (4 : Int32)), (.ref b5)])) _
      refine XS.i2b X170.here hx rfl (hb hby at_113) rfl ?_
      show Steps p.tables e below (T170.setTop (mkF m 114 #[.val (.int p0), .val (.long q1), .second, .val (.int p2), .val (.ref b5), .val (.int (3 : Int32))] [(.int (((p0.toUInt32 >>> ((16 : Int32) &&& 31).toUInt32).toInt32).toInt8.toInt32)), (.int (4 : Int32)), (.ref b5)])) _
      show Steps p.tables e below (T170.setTop (mkF m 114 #[.val (.int p0), .val (.long q1), .second, .val (.int p2), .val (.ref b5), .val (.int (3 : Int32))] [(.int (((p0.toUInt32 >>> ((16 : Int32) &&& 31).toUInt32).toInt32).toInt8.toInt32)), (.int (4 : Int32)), (.ref b5)])) _
      refine castTop (congrArg (fun z : Int32 => mkF m 114 #[.val (.int p0), .val (.long q1), .second, .val (.int p2), .val (.ref b5), .val (.int (3 : Int32))] [(.int z), (.int (4 : Int32)), (.ref b5)]) hv175.symm) ?_
      refine st177 _ ?_
      show Steps p.tables e below (T177.setTop (mkF m 115 #[.val (.int p0), .val (.long q1), .second, .val (.int p2), .val (.ref b5), .val (.int (3 : Int32))] [])) _
      refine XS.aload X177.here hx rfl (hb hby at_115) rfl rfl ?_
      show Steps p.tables e below (T177.setTop (mkF m 117 #[.val (.int p0), .val (.long q1), .second, .val (.int p2), .val (.ref b5), .val (.int (3 : Int32))] [(.ref b5)])) _
      refine XS.iload X177.here hx rfl (hb hby at_117) rfl ?_
      show Steps p.tables e below (T177.setTop (mkF m 119 #[.val (.int p0), .val (.long q1), .second, .val (.int p2), .val (.ref b5), .val (.int (3 : Int32))] [(.int (3 : Int32)), (.ref b5)])) _
      refine XS.iconst X177.here hx rfl (hb hby at_119) ?_
      show Steps p.tables e below (T177.setTop (mkF m 120 #[.val (.int p0), .val (.long q1), .second, .val (.int p2), .val (.ref b5), .val (.int (3 : Int32))] [(.int (2 : Int32)), (.int (3 : Int32)), (.ref b5)])) _
      refine XS.iadd X177.here hx rfl (hb hby at_120) rfl ?_
      show Steps p.tables e below (T177.setTop (mkF m 121 #[.val (.int p0), .val (.long q1), .second, .val (.int p2), .val (.ref b5), .val (.int (3 : Int32))] [(.int ((3 : Int32) + (2 : Int32))), (.ref b5)])) _
      refine castTop (congrArg (fun z : Int32 => mkF m 121 #[.val (.int p0), .val (.long q1), .second, .val (.int p2), .val (.ref b5), .val (.int (3 : Int32))] [(.int z), (.ref b5)]) (by decide : ((3 : Int32) + (2 : Int32)) = (5 : Int32))) ?_
      show Steps p.tables e below (T177.setTop (mkF m 121 #[.val (.int p0), .val (.long q1), .second, .val (.int p2), .val (.ref b5), .val (.int (3 : Int32))] [(.int (5 : Int32)), (.ref b5)])) _
      refine XS.iloadN X177.here hx rfl (hb hby at_121) rfl ?_
      show Steps p.tables e below (T177.setTop (mkF m 122 #[.val (.int p0), .val (.long q1), .second, .val (.int p2), .val (.ref b5), .val (.int (3 : Int32))] [(.int p0), (.int (5 : Int32)), (.ref b5)])) _
      refine XS.bipush X177.here hx rfl (hb hby at_122) ?_
      show Steps p.tables e below (T177.setTop (mkF m 124 #[.val (.int p0), .val (.long q1), .second, .val (.int p2), .val (.ref b5), .val (.int (3 : Int32))] [(.int (8 : Int32)), (.int p0), (.int (5 : Int32)), (.ref b5)])) _
      refine XS.iushr X177.here hx rfl (hb hby at_124) rfl ?_
      show Steps p.tables e below (T177.setTop (mkF m 125 #[.val (.int p0), .val (.long q1), .second, .val (.int p2), .val (.ref b5), .val (.int (3 : Int32))] [(.int ((p0.toUInt32 >>> ((8 : Int32) &&& 31).toUInt32).toInt32)), (.int (5 : Int32)), (.ref b5)])) _
      refine XS.i2b X177.here hx rfl (hb hby at_125) rfl ?_
      show Steps p.tables e below (T177.setTop (mkF m 126 #[.val (.int p0), .val (.long q1), .second, .val (.int p2), .val (.ref b5), .val (.int (3 : Int32))] [(.int (((p0.toUInt32 >>> ((8 : Int32) &&& 31).toUInt32).toInt32).toInt8.toInt32)), (.int (5 : Int32)), (.ref b5)])) _
      show Steps p.tables e below (T177.setTop (mkF m 126 #[.val (.int p0), .val (.long q1), .second, .val (.int p2), .val (.ref b5), .val (.int (3 : Int32))] [(.int (((p0.toUInt32 >>> ((8 : Int32) &&& 31).toUInt32).toInt32).toInt8.toInt32)), (.int (5 : Int32)), (.ref b5)])) _
      refine castTop (congrArg (fun z : Int32 => mkF m 126 #[.val (.int p0), .val (.long q1), .second, .val (.int p2), .val (.ref b5), .val (.int (3 : Int32))] [(.int z), (.int (5 : Int32)), (.ref b5)]) hv182.symm) ?_
      refine st184 _ ?_
      show Steps p.tables e below (T184.setTop (mkF m 127 #[.val (.int p0), .val (.long q1), .second, .val (.int p2), .val (.ref b5), .val (.int (3 : Int32))] [])) _
      refine XS.aload X184.here hx rfl (hb hby at_127) rfl rfl ?_
      show Steps p.tables e below (T184.setTop (mkF m 129 #[.val (.int p0), .val (.long q1), .second, .val (.int p2), .val (.ref b5), .val (.int (3 : Int32))] [(.ref b5)])) _
      refine XS.iload X184.here hx rfl (hb hby at_129) rfl ?_
      show Steps p.tables e below (T184.setTop (mkF m 131 #[.val (.int p0), .val (.long q1), .second, .val (.int p2), .val (.ref b5), .val (.int (3 : Int32))] [(.int (3 : Int32)), (.ref b5)])) _
      refine XS.iconst X184.here hx rfl (hb hby at_131) ?_
      show Steps p.tables e below (T184.setTop (mkF m 132 #[.val (.int p0), .val (.long q1), .second, .val (.int p2), .val (.ref b5), .val (.int (3 : Int32))] [(.int (3 : Int32)), (.int (3 : Int32)), (.ref b5)])) _
      refine XS.iadd X184.here hx rfl (hb hby at_132) rfl ?_
      show Steps p.tables e below (T184.setTop (mkF m 133 #[.val (.int p0), .val (.long q1), .second, .val (.int p2), .val (.ref b5), .val (.int (3 : Int32))] [(.int ((3 : Int32) + (3 : Int32))), (.ref b5)])) _
      refine castTop (congrArg (fun z : Int32 => mkF m 133 #[.val (.int p0), .val (.long q1), .second, .val (.int p2), .val (.ref b5), .val (.int (3 : Int32))] [(.int z), (.ref b5)]) (by decide : ((3 : Int32) + (3 : Int32)) = (6 : Int32))) ?_
      show Steps p.tables e below (T184.setTop (mkF m 133 #[.val (.int p0), .val (.long q1), .second, .val (.int p2), .val (.ref b5), .val (.int (3 : Int32))] [(.int (6 : Int32)), (.ref b5)])) _
      refine XS.iloadN X184.here hx rfl (hb hby at_133) rfl ?_
      show Steps p.tables e below (T184.setTop (mkF m 134 #[.val (.int p0), .val (.long q1), .second, .val (.int p2), .val (.ref b5), .val (.int (3 : Int32))] [(.int p0), (.int (6 : Int32)), (.ref b5)])) _
      refine XS.i2b X184.here hx rfl (hb hby at_134) rfl ?_
      show Steps p.tables e below (T184.setTop (mkF m 135 #[.val (.int p0), .val (.long q1), .second, .val (.int p2), .val (.ref b5), .val (.int (3 : Int32))] [(.int (p0.toInt8.toInt32)), (.int (6 : Int32)), (.ref b5)])) _
      show Steps p.tables e below (T184.setTop (mkF m 135 #[.val (.int p0), .val (.long q1), .second, .val (.int p2), .val (.ref b5), .val (.int (3 : Int32))] [(.int (p0.toInt8.toInt32)), (.int (6 : Int32)), (.ref b5)])) _
      refine castTop (congrArg (fun z : Int32 => mkF m 135 #[.val (.int p0), .val (.long q1), .second, .val (.int p2), .val (.ref b5), .val (.int (3 : Int32))] [(.int z), (.int (6 : Int32)), (.ref b5)]) hv189.symm) ?_
      refine st191 _ ?_
      show Steps p.tables e below (T191.setTop (mkF m 136 #[.val (.int p0), .val (.long q1), .second, .val (.int p2), .val (.ref b5), .val (.int (3 : Int32))] [])) _
      refine XS.aload X191.here hx rfl (hb hby at_136) rfl rfl ?_
      show Steps p.tables e below (T191.setTop (mkF m 138 #[.val (.int p0), .val (.long q1), .second, .val (.int p2), .val (.ref b5), .val (.int (3 : Int32))] [(.ref b5)])) _
      refine XS.iload X191.here hx rfl (hb hby at_138) rfl ?_
      show Steps p.tables e below (T191.setTop (mkF m 140 #[.val (.int p0), .val (.long q1), .second, .val (.int p2), .val (.ref b5), .val (.int (3 : Int32))] [(.int (3 : Int32)), (.ref b5)])) _
      refine st196 _ ?_
      show Steps p.tables e below (T196.setTop (mkF m 143 #[.val (.int p0), .val (.long q1), .second, .val (.int p2), .val (.ref b5), .val (.int (3 : Int32))] [(.int (own_rd (nar .byte v168) (nar .byte v175) (nar .byte v182) (nar .byte v189)))])) _
      refine XS.iloadN X196.here hx rfl (hb hby at_143) rfl ?_
      show Steps p.tables e below (T196.setTop (mkF m 144 #[.val (.int p0), .val (.long q1), .second, .val (.int p2), .val (.ref b5), .val (.int (3 : Int32))] [(.int p0), (.int (own_rd (nar .byte v168) (nar .byte v175) (nar .byte v182) (nar .byte v189)))])) _
      exact kk)
    by_cases hc200 : (own_rd (nar .byte v168) (nar .byte v175) (nar .byte v182) (nar .byte v189)) = p0
    · obtain ⟨fs, hr, hrun, hended, hW, hsame⟩ := X196.leave (v := some (.int (1 : Int32))) (fun h => by rw [Bd.returns] at h; cases h)
      refine ⟨_, _, pre199 _ ?_, hrun, hended, _, _, rfl, ?_, ⟨_, rfl⟩, hW, hsame.mono (by decide) (by decide)⟩
      · show Steps p.tables e below (T196.setTop (mkF m 144 #[.val (.int p0), .val (.long q1), .second, .val (.int p2), .val (.ref b5), .val (.int (3 : Int32))] [(.int p0), (.int (own_rd (nar .byte v168) (nar .byte v175) (nar .byte v182) (nar .byte v189)))])) _
        refine XS.icmpNo X196.here hx rfl (hb hby at_144) rfl (teq hc200).2 ?_
        show Steps p.tables e below (T196.setTop (mkF m 147 #[.val (.int p0), .val (.long q1), .second, .val (.int p2), .val (.ref b5), .val (.int (3 : Int32))] [])) _
        refine XS.iconst X196.here hx rfl (hb hby at_147) ?_
        show Steps p.tables e below (T196.setTop (mkF m 148 #[.val (.int p0), .val (.long q1), .second, .val (.int p2), .val (.ref b5), .val (.int (3 : Int32))] [(.int (1 : Int32))])) _
        refine XS.goto X196.here hx rfl (pc0 := 148) (pc' := 152) rfl (hb hby at_148) (by decide) (by decide) ?_
        show Steps p.tables e below (T196.setTop (mkF m 152 #[.val (.int p0), .val (.long q1), .second, .val (.int p2), .val (.ref b5), .val (.int (3 : Int32))] [(.int (1 : Int32))])) _
        exact retN X196 hx (t := .boolean) Bd.returns (by simp) (hb hby at_152) hr
      · show own_Q0 Z p0 q1 p2 h0 n0 _ T196.heap _
        rw [e198]
        exact ⟨rfl, N197⟩
    · exact (own_leaf0_8 p0 v168 hv168 v175 hv175 v182 hv182 v189 hv189 hc200).elim
  · subst hs68
    obtain ⟨v201, hv201⟩ : ∃ z : Int32, z = (((p0.toUInt32 >>> ((24 : Int32) &&& 31).toUInt32).toInt32).toInt8.toInt32) := ⟨_, rfl⟩
    obtain ⟨cl202, Ar202, q202, S202, M202, H202, G202⟩ := id f64
    have hin202 : ¬ ((4 : Int32) < 0 ∨ cl202.slots.size ≤ ((4 : Int32)).toNatClampNeg) := inb_of S202 ⟨by decide, by decide⟩
    obtain ⟨T203, h203, X203, e203, W203, st203⟩ := stB X60 hx hZ e60 Ar202 (j := (4 : Int32)) hin202 (g := (mkF m 102 #[.val (.int p0), .val (.long q1), .second, .val (.int p2), .val (.ref b5), .val (.int (4 : Int32))] [(.int v201), (.int (4 : Int32)), (.ref b5)])) rfl rfl (hb hby at_102)
    have K204 : Keep h0 h203 [] := K61.wr W203 (Or.inr sz_b5)
    have z205 : n0 ≤ h203.size := Nat.le_trans z62 (Keep.of_wr W203).1
    have N206 := Fr.snoc X203 N63 g_b5
    have f207 : Arv Z h203 b5 k5 .byte (8 : Int32) [(.int (nar .byte v9)), (.int (nar .byte v16)), (.int (nar .byte v23)), (.int (nar .byte v30)), (.int (nar .byte v201)), (.int (nar .byte v44)), (.int (nar .byte v51)), (.int (nar .byte v58))] (.int (0 : Int32)) := Arv.set Ar202 q202 S202 M202 H202 G202 (fits_nar_byte _) W203 4 rfl (Nat.le_of_ble_eq_true rfl)
    obtain ⟨v208, hv208⟩ : ∃ z : Int32, z = (((p0.toUInt32 >>> ((16 : Int32) &&& 31).toUInt32).toInt32).toInt8.toInt32) := ⟨_, rfl⟩
    obtain ⟨cl209, Ar209, q209, S209, M209, H209, G209⟩ := id f207
    have hin209 : ¬ ((5 : Int32) < 0 ∨ cl209.slots.size ≤ ((5 : Int32)).toNatClampNeg) := inb_of S209 ⟨by decide, by decide⟩
    obtain ⟨T210, h210, X210, e210, W210, st210⟩ := stB X203 hx hZ e203 Ar209 (j := (5 : Int32)) hin209 (g := (mkF m 114 #[.val (.int p0), .val (.long q1), .second, .val (.int p2), .val (.ref b5), .val (.int (4 : Int32))] [(.int v208), (.int (5 : Int32)), (.ref b5)])) rfl rfl (hb hby at_114)
    have K211 : Keep h0 h210 [] := K204.wr W210 (Or.inr sz_b5)
    have z212 : n0 ≤ h210.size := Nat.le_trans z205 (Keep.of_wr W210).1
    have N213 := Fr.snoc X210 N206 g_b5
    have f214 : Arv Z h210 b5 k5 .byte (8 : Int32) [(.int (nar .byte v9)), (.int (nar .byte v16)), (.int (nar .byte v23)), (.int (nar .byte v30)), (.int (nar .byte v201)), (.int (nar .byte v208)), (.int (nar .byte v51)), (.int (nar .byte v58))] (.int (0 : Int32)) := Arv.set Ar209 q209 S209 M209 H209 G209 (fits_nar_byte _) W210 5 rfl (Nat.le_of_ble_eq_true rfl)
    obtain ⟨v215, hv215⟩ : ∃ z : Int32, z = (((p0.toUInt32 >>> ((8 : Int32) &&& 31).toUInt32).toInt32).toInt8.toInt32) := ⟨_, rfl⟩
    obtain ⟨cl216, Ar216, q216, S216, M216, H216, G216⟩ := id f214
    have hin216 : ¬ ((6 : Int32) < 0 ∨ cl216.slots.size ≤ ((6 : Int32)).toNatClampNeg) := inb_of S216 ⟨by decide, by decide⟩
    obtain ⟨T217, h217, X217, e217, W217, st217⟩ := stB X210 hx hZ e210 Ar216 (j := (6 : Int32)) hin216 (g := (mkF m 126 #[.val (.int p0), .val (.long q1), .second, .val (.int p2), .val (.ref b5), .val (.int (4 : Int32))] [(.int v215), (.int (6 : Int32)), (.ref b5)])) rfl rfl (hb hby at_126)
    have K218 : Keep h0 h217 [] := K211.wr W217 (Or.inr sz_b5)
    have z219 : n0 ≤ h217.size := Nat.le_trans z212 (Keep.of_wr W217).1
    have N220 := Fr.snoc X217 N213 g_b5
    have f221 : Arv Z h217 b5 k5 .byte (8 : Int32) [(.int (nar .byte v9)), (.int (nar .byte v16)), (.int (nar .byte v23)), (.int (nar .byte v30)), (.int (nar .byte v201)), (.int (nar .byte v208)), (.int (nar .byte v215)), (.int (nar .byte v58))] (.int (0 : Int32)) := Arv.set Ar216 q216 S216 M216 H216 G216 (fits_nar_byte _) W217 6 rfl (Nat.le_of_ble_eq_true rfl)
    obtain ⟨v222, hv222⟩ : ∃ z : Int32, z = (p0.toInt8.toInt32) := ⟨_, rfl⟩
    obtain ⟨cl223, Ar223, q223, S223, M223, H223, G223⟩ := id f221
    have hin223 : ¬ ((7 : Int32) < 0 ∨ cl223.slots.size ≤ ((7 : Int32)).toNatClampNeg) := inb_of S223 ⟨by decide, by decide⟩
    obtain ⟨T224, h224, X224, e224, W224, st224⟩ := stB X217 hx hZ e217 Ar223 (j := (7 : Int32)) hin223 (g := (mkF m 135 #[.val (.int p0), .val (.long q1), .second, .val (.int p2), .val (.ref b5), .val (.int (4 : Int32))] [(.int v222), (.int (7 : Int32)), (.ref b5)])) rfl rfl (hb hby at_135)
    have K225 : Keep h0 h224 [] := K218.wr W224 (Or.inr sz_b5)
    have z226 : n0 ≤ h224.size := Nat.le_trans z219 (Keep.of_wr W224).1
    have N227 := Fr.snoc X224 N220 g_b5
    have f228 : Arv Z h224 b5 k5 .byte (8 : Int32) [(.int (nar .byte v9)), (.int (nar .byte v16)), (.int (nar .byte v23)), (.int (nar .byte v30)), (.int (nar .byte v201)), (.int (nar .byte v208)), (.int (nar .byte v215)), (.int (nar .byte v222))] (.int (0 : Int32)) := Arv.set Ar223 q223 S223 M223 H223 G223 (fits_nar_byte _) W224 7 rfl (Nat.le_of_ble_eq_true rfl)
    obtain ⟨_, _, ⟨T229, L229, k229, n229⟩, -, X229, ⟨Lc229, hQ229, l229, y229, z229⟩, st229⟩ := Jvm.LawKit.callS X224 hx (y := (⟨"com/example/all1/all1/Encoding", "readInt", "([BI)I"⟩ : MethodName)) hown (mvT hZ (hw _ (List.mem_of_getElem? (i := 2) rfl))) (mvT hZ (hw _ (List.mem_of_getElem? (i := 3) rfl))) (mvT hZ (hw _ (List.mem_of_getElem? (i := 4) rfl))) (mvT hZ (hw _ (List.mem_of_getElem? (i := 5) rfl))) (by decide) (backOf (W := 0) (own_rm1 l Z a0 hw [] b5 (4 : Int32) (k5) ((8 : Int32)) ([(.int (nar .byte v9)), (.int (nar .byte v16)), (.int (nar .byte v23)), (.int (nar .byte v30)), (.int (nar .byte v201)), (.int (nar .byte v208)), (.int (nar .byte v215)), (.int (nar .byte v222))]) ((.int (0 : Int32))) ((nar .byte v201)) ((nar .byte v208)) ((nar .byte v215)) ((nar .byte v222)) h224 n0 z226 f228 (⟨by decide, by decide⟩) (⟨by decide, by decide⟩) (⟨by decide, by decide⟩) (⟨by decide, by decide⟩) (rfl) (rfl) (rfl) (rfl)) hZ (hw _ (List.mem_of_getElem? (i := 5) rfl)) (hw _ (List.mem_of_getElem? (i := 4) rfl)) (by decide) (by decide)) (g := (mkF m 140 #[.val (.int p0), .val (.long q1), .second, .val (.int p2), .val (.ref b5), .val (.int (4 : Int32))] [(.int (4 : Int32)), (.ref b5)])) rfl (by rw [hml]; rfl) (argsL := [(.ref b5), (.int (4 : Int32))]) (rest := []) (lenOf own_pd0 rfl) rfl (by show 2 * 0 + _ ≤ _; exact Nat.le_of_eq rfl) (hb hby at_140) (fun _ _ => ⟨rfl, e224, (by decide : 1 + 0 ≤ _), (by decide : 8 + 0 ≤ _)⟩)
    dsimp only [Pt.U, Pt.locs, Pt.cells, Pt.slots] at X229 l229 y229 z229 st229 hQ229
    subst l229 y229 z229
    obtain ⟨rfl, N229q, e231⟩ := hQ229
    have N230 := Fr.app N227 N229q
    have pre232 : ∀ t, Steps p.tables e below (T229.setTop (mkF m 144 #[.val (.int p0), .val (.long q1), .second, .val (.int p2), .val (.ref b5), .val (.int (4 : Int32))] [(.int p0), (.int (own_rd (nar .byte v201) (nar .byte v208) (nar .byte v215) (nar .byte v222)))])) t → Steps p.tables e below (s₁.setTop (entryFrame m #[(.int p0), (.long q1), (.int p2)] maxLocals)) t := fun t kk => pre67 t (by
      show Steps p.tables e below (T60.setTop (mkF m 93 #[.val (.int p0), .val (.long q1), .second, .val (.int p2), .val (.ref b5), .val (.int (4 : Int32))] [])) _
      refine XS.aload X60.here hx rfl (hb hby at_93) rfl rfl ?_
      show Steps p.tables e below (T60.setTop (mkF m 95 #[.val (.int p0), .val (.long q1), .second, .val (.int p2), .val (.ref b5), .val (.int (4 : Int32))] [(.ref b5)])) _
      refine XS.iload X60.here hx rfl (hb hby at_95) rfl ?_
      show Steps p.tables e below (T60.setTop (mkF m 97 #[.val (.int p0), .val (.long q1), .second, .val (.int p2), .val (.ref b5), .val (.int (4 : Int32))] [(.int (4 : Int32)), (.ref b5)])) _
      refine XS.iloadN X60.here hx rfl (hb hby at_97) rfl ?_
      show Steps p.tables e below (T60.setTop (mkF m 98 #[.val (.int p0), .val (.long q1), .second, .val (.int p2), .val (.ref b5), .val (.int (4 : Int32))] [(.int p0), (.int (4 : Int32)), (.ref b5)])) _
      refine XS.bipush X60.here hx rfl (hb hby at_98) ?_
      show Steps p.tables e below (T60.setTop (mkF m 100 #[.val (.int p0), .val (.long q1), .second, .val (.int p2), .val (.ref b5), .val (.int (4 : Int32))] [(.int (24 : Int32)), (.int p0), (.int (4 : Int32)), (.ref b5)])) _
      refine XS.iushr X60.here hx rfl (hb hby at_100) rfl ?_
      show Steps p.tables e below (T60.setTop (mkF m 101 #[.val (.int p0), .val (.long q1), .second, .val (.int p2), .val (.ref b5), .val (.int (4 : Int32))] [(.int ((p0.toUInt32 >>> ((24 : Int32) &&& 31).toUInt32).toInt32)), (.int (4 : Int32)), (.ref b5)])) _
      refine XS.i2b X60.here hx rfl (hb hby at_101) rfl ?_
      show Steps p.tables e below (T60.setTop (mkF m 102 #[.val (.int p0), .val (.long q1), .second, .val (.int p2), .val (.ref b5), .val (.int (4 : Int32))] [(.int (((p0.toUInt32 >>> ((24 : Int32) &&& 31).toUInt32).toInt32).toInt8.toInt32)), (.int (4 : Int32)), (.ref b5)])) _
      show Steps p.tables e below (T60.setTop (mkF m 102 #[.val (.int p0), .val (.long q1), .second, .val (.int p2), .val (.ref b5), .val (.int (4 : Int32))] [(.int (((p0.toUInt32 >>> ((24 : Int32) &&& 31).toUInt32).toInt32).toInt8.toInt32)), (.int (4 : Int32)), (.ref b5)])) _
      refine castTop (congrArg (fun z : Int32 => mkF m 102 #[.val (.int p0), .val (.long q1), .second, .val (.int p2), .val (.ref b5), .val (.int (4 : Int32))] [(.int z), (.int (4 : Int32)), (.ref b5)]) hv201.symm) ?_
      refine st203 _ ?_
      show Steps p.tables e below (T203.setTop (mkF m 103 #[.val (.int p0), .val (.long q1), .second, .val (.int p2), .val (.ref b5), .val (.int (4 : Int32))] [])) _
      refine XS.aload X203.here hx rfl (hb hby at_103) rfl rfl ?_
      show Steps p.tables e below (T203.setTop (mkF m 105 #[.val (.int p0), .val (.long q1), .second, .val (.int p2), .val (.ref b5), .val (.int (4 : Int32))] [(.ref b5)])) _
      refine XS.iload X203.here hx rfl (hb hby at_105) rfl ?_
      show Steps p.tables e below (T203.setTop (mkF m 107 #[.val (.int p0), .val (.long q1), .second, .val (.int p2), .val (.ref b5), .val (.int (4 : Int32))] [(.int (4 : Int32)), (.ref b5)])) _
      refine XS.iconst X203.here hx rfl (hb hby at_107) ?_
      show Steps p.tables e below (T203.setTop (mkF m 108 #[.val (.int p0), .val (.long q1), .second, .val (.int p2), .val (.ref b5), .val (.int (4 : Int32))] [(.int (1 : Int32)), (.int (4 : Int32)), (.ref b5)])) _
      refine XS.iadd X203.here hx rfl (hb hby at_108) rfl ?_
      show Steps p.tables e below (T203.setTop (mkF m 109 #[.val (.int p0), .val (.long q1), .second, .val (.int p2), .val (.ref b5), .val (.int (4 : Int32))] [(.int ((4 : Int32) + (1 : Int32))), (.ref b5)])) _
      refine castTop (congrArg (fun z : Int32 => mkF m 109 #[.val (.int p0), .val (.long q1), .second, .val (.int p2), .val (.ref b5), .val (.int (4 : Int32))] [(.int z), (.ref b5)]) (by decide : ((4 : Int32) + (1 : Int32)) = (5 : Int32))) ?_
      show Steps p.tables e below (T203.setTop (mkF m 109 #[.val (.int p0), .val (.long q1), .second, .val (.int p2), .val (.ref b5), .val (.int (4 : Int32))] [(.int (5 : Int32)), (.ref b5)])) _
      refine XS.iloadN X203.here hx rfl (hb hby at_109) rfl ?_
      show Steps p.tables e below (T203.setTop (mkF m 110 #[.val (.int p0), .val (.long q1), .second, .val (.int p2), .val (.ref b5), .val (.int (4 : Int32))] [(.int p0), (.int (5 : Int32)), (.ref b5)])) _
      refine XS.bipush X203.here hx rfl (hb hby at_110) ?_
      show Steps p.tables e below (T203.setTop (mkF m 112 #[.val (.int p0), .val (.long q1), .second, .val (.int p2), .val (.ref b5), .val (.int (4 : Int32))] [(.int (16 : Int32)), (.int p0), (.int (5 : Int32)), (.ref b5)])) _
      refine XS.iushr X203.here hx rfl (hb hby at_112) rfl ?_
      show Steps p.tables e below (T203.setTop (mkF m 113 #[.val (.int p0), .val (.long q1), .second, .val (.int p2), .val (.ref b5), .val (.int (4 : Int32))] [(.int ((p0.toUInt32 >>> ((16 : Int32) &&& 31).toUInt32).toInt32)), (.int (5 : Int32)), (.ref b5)])) _
      refine XS.i2b X203.here hx rfl (hb hby at_113) rfl ?_
      show Steps p.tables e below (T203.setTop (mkF m 114 #[.val (.int p0), .val (.long q1), .second, .val (.int p2), .val (.ref b5), .val (.int (4 : Int32))] [(.int (((p0.toUInt32 >>> ((16 : Int32) &&& 31).toUInt32).toInt32).toInt8.toInt32)), (.int (5 : Int32)), (.ref b5)])) _
      show Steps p.tables e below (T203.setTop (mkF m 114 #[.val (.int p0), .val (.long q1), .second, .val (.int p2), .val (.ref b5), .val (.int (4 : Int32))] [(.int (((p0.toUInt32 >>> ((16 : Int32) &&& 31).toUInt32).toInt32).toInt8.toInt32)), (.int (5 : Int32)), (.ref b5)])) _
      refine castTop (congrArg (fun z : Int32 => mkF m 114 #[.val (.int p0), .val (.long q1), .second, .val (.int p2), .val (.ref b5), .val (.int (4 : Int32))] [(.int z), (.int (5 : Int32)), (.ref b5)]) hv208.symm) ?_
      refine st210 _ ?_
      show Steps p.tables e below (T210.setTop (mkF m 115 #[.val (.int p0), .val (.long q1), .second, .val (.int p2), .val (.ref b5), .val (.int (4 : Int32))] [])) _
      refine XS.aload X210.here hx rfl (hb hby at_115) rfl rfl ?_
      show Steps p.tables e below (T210.setTop (mkF m 117 #[.val (.int p0), .val (.long q1), .second, .val (.int p2), .val (.ref b5), .val (.int (4 : Int32))] [(.ref b5)])) _
      refine XS.iload X210.here hx rfl (hb hby at_117) rfl ?_
      show Steps p.tables e below (T210.setTop (mkF m 119 #[.val (.int p0), .val (.long q1), .second, .val (.int p2), .val (.ref b5), .val (.int (4 : Int32))] [(.int (4 : Int32)), (.ref b5)])) _
      refine XS.iconst X210.here hx rfl (hb hby at_119) ?_
      show Steps p.tables e below (T210.setTop (mkF m 120 #[.val (.int p0), .val (.long q1), .second, .val (.int p2), .val (.ref b5), .val (.int (4 : Int32))] [(.int (2 : Int32)), (.int (4 : Int32)), (.ref b5)])) _
      refine XS.iadd X210.here hx rfl (hb hby at_120) rfl ?_
      show Steps p.tables e below (T210.setTop (mkF m 121 #[.val (.int p0), .val (.long q1), .second, .val (.int p2), .val (.ref b5), .val (.int (4 : Int32))] [(.int ((4 : Int32) + (2 : Int32))), (.ref b5)])) _
      refine castTop (congrArg (fun z : Int32 => mkF m 121 #[.val (.int p0), .val (.long q1), .second, .val (.int p2), .val (.ref b5), .val (.int (4 : Int32))] [(.int z), (.ref b5)]) (by decide : ((4 : Int32) + (2 : Int32)) = (6 : Int32))) ?_
      show Steps p.tables e below (T210.setTop (mkF m 121 #[.val (.int p0), .val (.long q1), .second, .val (.int p2), .val (.ref b5), .val (.int (4 : Int32))] [(.int (6 : Int32)), (.ref b5)])) _
      refine XS.iloadN X210.here hx rfl (hb hby at_121) rfl ?_
      show Steps p.tables e below (T210.setTop (mkF m 122 #[.val (.int p0), .val (.long q1), .second, .val (.int p2), .val (.ref b5), .val (.int (4 : Int32))] [(.int p0), (.int (6 : Int32)), (.ref b5)])) _
      refine XS.bipush X210.here hx rfl (hb hby at_122) ?_
      show Steps p.tables e below (T210.setTop (mkF m 124 #[.val (.int p0), .val (.long q1), .second, .val (.int p2), .val (.ref b5), .val (.int (4 : Int32))] [(.int (8 : Int32)), (.int p0), (.int (6 : Int32)), (.ref b5)])) _
      refine XS.iushr X210.here hx rfl (hb hby at_124) rfl ?_
      show Steps p.tables e below (T210.setTop (mkF m 125 #[.val (.int p0), .val (.long q1), .second, .val (.int p2), .val (.ref b5), .val (.int (4 : Int32))] [(.int ((p0.toUInt32 >>> ((8 : Int32) &&& 31).toUInt32).toInt32)), (.int (6 : Int32)), (.ref b5)])) _
      refine XS.i2b X210.here hx rfl (hb hby at_125) rfl ?_
      show Steps p.tables e below (T210.setTop (mkF m 126 #[.val (.int p0), .val (.long q1), .second, .val (.int p2), .val (.ref b5), .val (.int (4 : Int32))] [(.int (((p0.toUInt32 >>> ((8 : Int32) &&& 31).toUInt32).toInt32).toInt8.toInt32)), (.int (6 : Int32)), (.ref b5)])) _
      show Steps p.tables e below (T210.setTop (mkF m 126 #[.val (.int p0), .val (.long q1), .second, .val (.int p2), .val (.ref b5), .val (.int (4 : Int32))] [(.int (((p0.toUInt32 >>> ((8 : Int32) &&& 31).toUInt32).toInt32).toInt8.toInt32)), (.int (6 : Int32)), (.ref b5)])) _
      refine castTop (congrArg (fun z : Int32 => mkF m 126 #[.val (.int p0), .val (.long q1), .second, .val (.int p2), .val (.ref b5), .val (.int (4 : Int32))] [(.int z), (.int (6 : Int32)), (.ref b5)]) hv215.symm) ?_
      refine st217 _ ?_
      show Steps p.tables e below (T217.setTop (mkF m 127 #[.val (.int p0), .val (.long q1), .second, .val (.int p2), .val (.ref b5), .val (.int (4 : Int32))] [])) _
      refine XS.aload X217.here hx rfl (hb hby at_127) rfl rfl ?_
      show Steps p.tables e below (T217.setTop (mkF m 129 #[.val (.int p0), .val (.long q1), .second, .val (.int p2), .val (.ref b5), .val (.int (4 : Int32))] [(.ref b5)])) _
      refine XS.iload X217.here hx rfl (hb hby at_129) rfl ?_
      show Steps p.tables e below (T217.setTop (mkF m 131 #[.val (.int p0), .val (.long q1), .second, .val (.int p2), .val (.ref b5), .val (.int (4 : Int32))] [(.int (4 : Int32)), (.ref b5)])) _
      refine XS.iconst X217.here hx rfl (hb hby at_131) ?_
      show Steps p.tables e below (T217.setTop (mkF m 132 #[.val (.int p0), .val (.long q1), .second, .val (.int p2), .val (.ref b5), .val (.int (4 : Int32))] [(.int (3 : Int32)), (.int (4 : Int32)), (.ref b5)])) _
      refine XS.iadd X217.here hx rfl (hb hby at_132) rfl ?_
      show Steps p.tables e below (T217.setTop (mkF m 133 #[.val (.int p0), .val (.long q1), .second, .val (.int p2), .val (.ref b5), .val (.int (4 : Int32))] [(.int ((4 : Int32) + (3 : Int32))), (.ref b5)])) _
      refine castTop (congrArg (fun z : Int32 => mkF m 133 #[.val (.int p0), .val (.long q1), .second, .val (.int p2), .val (.ref b5), .val (.int (4 : Int32))] [(.int z), (.ref b5)]) (by decide : ((4 : Int32) + (3 : Int32)) = (7 : Int32))) ?_
      show Steps p.tables e below (T217.setTop (mkF m 133 #[.val (.int p0), .val (.long q1), .second, .val (.int p2), .val (.ref b5), .val (.int (4 : Int32))] [(.int (7 : Int32)), (.ref b5)])) _
      refine XS.iloadN X217.here hx rfl (hb hby at_133) rfl ?_
      show Steps p.tables e below (T217.setTop (mkF m 134 #[.val (.int p0), .val (.long q1), .second, .val (.int p2), .val (.ref b5), .val (.int (4 : Int32))] [(.int p0), (.int (7 : Int32)), (.ref b5)])) _
      refine XS.i2b X217.here hx rfl (hb hby at_134) rfl ?_
      show Steps p.tables e below (T217.setTop (mkF m 135 #[.val (.int p0), .val (.long q1), .second, .val (.int p2), .val (.ref b5), .val (.int (4 : Int32))] [(.int (p0.toInt8.toInt32)), (.int (7 : Int32)), (.ref b5)])) _
      show Steps p.tables e below (T217.setTop (mkF m 135 #[.val (.int p0), .val (.long q1), .second, .val (.int p2), .val (.ref b5), .val (.int (4 : Int32))] [(.int (p0.toInt8.toInt32)), (.int (7 : Int32)), (.ref b5)])) _
      refine castTop (congrArg (fun z : Int32 => mkF m 135 #[.val (.int p0), .val (.long q1), .second, .val (.int p2), .val (.ref b5), .val (.int (4 : Int32))] [(.int z), (.int (7 : Int32)), (.ref b5)]) hv222.symm) ?_
      refine st224 _ ?_
      show Steps p.tables e below (T224.setTop (mkF m 136 #[.val (.int p0), .val (.long q1), .second, .val (.int p2), .val (.ref b5), .val (.int (4 : Int32))] [])) _
      refine XS.aload X224.here hx rfl (hb hby at_136) rfl rfl ?_
      show Steps p.tables e below (T224.setTop (mkF m 138 #[.val (.int p0), .val (.long q1), .second, .val (.int p2), .val (.ref b5), .val (.int (4 : Int32))] [(.ref b5)])) _
      refine XS.iload X224.here hx rfl (hb hby at_138) rfl ?_
      show Steps p.tables e below (T224.setTop (mkF m 140 #[.val (.int p0), .val (.long q1), .second, .val (.int p2), .val (.ref b5), .val (.int (4 : Int32))] [(.int (4 : Int32)), (.ref b5)])) _
      refine st229 _ ?_
      show Steps p.tables e below (T229.setTop (mkF m 143 #[.val (.int p0), .val (.long q1), .second, .val (.int p2), .val (.ref b5), .val (.int (4 : Int32))] [(.int (own_rd (nar .byte v201) (nar .byte v208) (nar .byte v215) (nar .byte v222)))])) _
      refine XS.iloadN X229.here hx rfl (hb hby at_143) rfl ?_
      show Steps p.tables e below (T229.setTop (mkF m 144 #[.val (.int p0), .val (.long q1), .second, .val (.int p2), .val (.ref b5), .val (.int (4 : Int32))] [(.int p0), (.int (own_rd (nar .byte v201) (nar .byte v208) (nar .byte v215) (nar .byte v222)))])) _
      exact kk)
    by_cases hc233 : (own_rd (nar .byte v201) (nar .byte v208) (nar .byte v215) (nar .byte v222)) = p0
    · obtain ⟨fs, hr, hrun, hended, hW, hsame⟩ := X229.leave (v := some (.int (1 : Int32))) (fun h => by rw [Bd.returns] at h; cases h)
      refine ⟨_, _, pre232 _ ?_, hrun, hended, _, _, rfl, ?_, ⟨_, rfl⟩, hW, hsame.mono (by decide) (by decide)⟩
      · show Steps p.tables e below (T229.setTop (mkF m 144 #[.val (.int p0), .val (.long q1), .second, .val (.int p2), .val (.ref b5), .val (.int (4 : Int32))] [(.int p0), (.int (own_rd (nar .byte v201) (nar .byte v208) (nar .byte v215) (nar .byte v222)))])) _
        refine XS.icmpNo X229.here hx rfl (hb hby at_144) rfl (teq hc233).2 ?_
        show Steps p.tables e below (T229.setTop (mkF m 147 #[.val (.int p0), .val (.long q1), .second, .val (.int p2), .val (.ref b5), .val (.int (4 : Int32))] [])) _
        refine XS.iconst X229.here hx rfl (hb hby at_147) ?_
        show Steps p.tables e below (T229.setTop (mkF m 148 #[.val (.int p0), .val (.long q1), .second, .val (.int p2), .val (.ref b5), .val (.int (4 : Int32))] [(.int (1 : Int32))])) _
        refine XS.goto X229.here hx rfl (pc0 := 148) (pc' := 152) rfl (hb hby at_148) (by decide) (by decide) ?_
        show Steps p.tables e below (T229.setTop (mkF m 152 #[.val (.int p0), .val (.long q1), .second, .val (.int p2), .val (.ref b5), .val (.int (4 : Int32))] [(.int (1 : Int32))])) _
        exact retN X229 hx (t := .boolean) Bd.returns (by simp) (hb hby at_152) hr
      · show own_Q0 Z p0 q1 p2 h0 n0 _ T229.heap _
        rw [e231]
        exact ⟨rfl, N230⟩
    · exact (own_leaf0_10 p0 v201 hv201 v208 hv208 v215 hv215 v222 hv222 hc233).elim
set_option maxRecDepth 65536 in
set_option maxHeartbeats 40000000 in
theorem comes_1 {Post : Tables → Env → Array Value → State → Outcome → State → Prop} (hpost : ∀ tb e args s v u, (limb_1_1.after args s (.returned v) u = true ∧ limb_1_2.after args s (.returned v) u = true ∧ True) → FrameEnd s (.returned v) u (Jvm.fieldLocs frame_1_writes args s ++ Jvm.arrayLocs frame_1_arrays args s ++ Jvm.staticLocs frame_1_statics s) 16 128 → Post tb e args s (.returned v) u) :
    ArmFor flags0 classFile x code maxLocals ret World_1 tables_1 room_1 Calls_1 rest_1 Pre_1 Post := by
  intro l hfl _ _ p e ha hc hk s m args below hf hA hF happ hP
  obtain ⟨hcalls, hrest, hpre⟩ := hP
  obtain ⟨-, -, -, hnamed, -, -, -, hat⟩ := (Spec.applies_iff hf).mp happ
  obtain ⟨hg, hn⟩ := and_e (Cond.before_iff.mp (show (Jvm.Cond.and given_1 narrow_1).before args s = true from hpre))
  obtain ⟨gg1, gg2⟩ := and_e hg
  obtain ⟨gg3, gg4⟩ := and_e gg2
  obtain ⟨gg5, gg6⟩ := and_e gg4
  obtain ⟨w0, w1, w2, rfl⟩ : ∃ w0 w1 w2 : Value, args = #[w0, w1, w2] := by
    have hs : args.size = 3 := by simpa [Cond.value, given_1] using gg1
    obtain ⟨L⟩ := args
    match L, hs with
    | [w0, w1, w2], _ => exact ⟨w0, w1, w2, rfl⟩
  have hw := fun d (hd : d ∈ tables_1) => atoms_spec (ws := Jvm.Cond.code x code maxLocals ret :: tables_1) hat d (List.mem_cons_of_mem _ hd)
  have hfit : Fit s := fun {y c} hc i hi => by
    obtain ⟨ha, rfl⟩ := Array.getElem?_eq_some_iff.mp hc
    have q := List.all_eq_true.mp ((Array.all_eq_true_iff_forall_mem.mp hF) _ (Array.getElem_mem ha)) i (List.mem_range.mpr hi)
    simpa [Array.getElem?_eq_getElem hi] using q
  obtain ⟨i0, ei0⟩ := is_v gg3
  obtain rfl : w0 = (.int i0) := Option.some.inj ei0
  obtain ⟨i1, ei1⟩ := isL_v gg5
  obtain rfl : w1 = (.long i1) := Option.some.inj ei1
  obtain ⟨i2, ei2⟩ := is_v gg6
  obtain rfl : w2 = (.int i2) := Option.some.inj ei2
  obtain ⟨n, o, h1, h2, h3, _, L, rfl, ⟨rfl, N⟩, hq⟩ := own_rm0 l s _ hw tables_1 i0 i1 i2 s.heap s.heap.size (Nat.le_refl _)  p e ha hc hk s m _ below hf ((Spec.applies_iff_loose hf).mp happ).1 ⟨rfl, State.Warmed39.refl s, rfl⟩ trivial
  refine ⟨n, _, h1, h2, h3, hpost _ _ _ _ _ _ ⟨Cond.after_iff.mpr rfl, Cond.after_iff.mpr (eq_i res_at (Term.int_eval (1)) rfl), trivial⟩ ⟨hq.1, hq.2.1, (hq.2.2.sift fun y hy => Or.inr (N y hy)).mono (by decide) (by decide)⟩⟩
theorem main_1_1 : Claimed_1_1 := comes_1 fun _ _ _ _ _ _ h hF => ⟨h.1, hF⟩
theorem main_1_2 : Claimed_1_2 := comes_1 fun _ _ _ _ _ _ h hF => ⟨h.2.1, hF⟩
end Jvm.Pilot.@@N@@
namespace Jvm.Pilot.@@N@@
open Jvm Jvm.ClassFile Sem Op Lib Jvm.Free Jvm.Stand Jvm.Pilot.@@N@@.Jvm.D
/-! MADE BY PROGRAM (witnessworld.py) out of the Statement's table words and the real class files: 9 classes; the members and pool entries that the words name. The judged class is class 1, her method 1. -/
namespace start1
open Jvm.ClassFile
def u (s : String) : CpInfo := .utf8 (stringToUtf16 s)
/-- a pool by its gaps: so many unusable entries, then the entry; so many at the end -/
def gap : Nat → List CpInfo → List CpInfo
  | 0, r => r
  | n + 1, r => .unusable :: gap n r
def poolList (es : List (Nat × CpInfo)) (last : Nat) : List CpInfo := es.foldr (fun e r => gap e.1 (e.2 :: r)) (gap last [])
def pool (es : List (Nat × CpInfo)) (last : Nat) : Array CpInfo := ⟨poolList es last⟩
def fileOf (pool : Array CpInfo) (this : Nat) (attrs : Array Attribute := #[]) (ms : Array MethodInfo := #[]) (fl : Nat := 33) (sup : Nat := 0) (ifs : Array Nat := #[]) (fds : Array FieldInfo := #[]) : ClassFile where
  minorVersion := 0
  majorVersion := 65
  constantPool := pool
  accessFlags := fl
  thisClass := this
  superClass := sup
  interfaces := ifs
  fields := fds
  methods := ms
  attributes := attrs
def plain (name : String) (sup : Option ClassId) : Class where
  name := name
  kind := .ordinary
  loader := none
  accessFlags := 33
  super := sup
  interfaces := #[]
  cf := none
  fields := #[]
  methods := #[]
  instanceTypes := #[]
  staticTypes := #[]
  resolved := #[]
  callSites := []
  init := .initialized
  statics := none
  mirror := none

def pool0 : Array CpInfo := pool [(5, u "<init>"), (0, u "()V"), (1, .class_ 10), (1, u "java/lang/Object")] 113

def k0m0 : Method := { name := "<init>", desc := "()V", sig := { parameters := [], returnType := none }, accessFlags := 1, code := none }
/-- java/lang/Object -/
def k0 : Class := { plain "java/lang/Object" none with
  accessFlags := 33
  interfaces := #[]
  cf := some (fileOf pool0 8 #[] #[{ accessFlags := 1, nameIndex := 5, descriptorIndex := 6, attributes := #[] }] 33 0 #[] #[])
  fields := #[]
  methods := #[k0m0]
  instanceTypes := #[]
  staticTypes := #[]
  resolved := Array.replicate 124 none
  statics := none }

def pool1 : Array CpInfo := pool [(2, .class_ 4), (1, u "java/lang/Object"), (0, u "<init>"), (0, u "()V"), (0, .integer 2147483647), (0, .methodref 9 10), (0, .class_ 11), (0, .nameAndType 12 13), (0, u "com/example/all1/all1/Encoding"), (0, u "readInt"), (0, u "([BI)I"), (0, .class_ 15), (0, u "com/example/all1/all1/EncodingReadIntPinLaw"), (2, u "law"), (0, u "(IJI)Z")] 5

def k1m0 : Method := { name := "<init>", desc := "()V", sig := { parameters := [], returnType := none }, accessFlags := 2, code := none }
def k1c1 : Code := { maxStack := 5, maxLocals := 6, code := code, exceptionTable := #[], attributes := #[] }
def k1m1 : Method := { name := "law", desc := "(IJI)Z", sig := { parameters := [.int, .long, .int], returnType := some .boolean }, accessFlags := 9, code := some k1c1 }
/-- com/example/all1/all1/EncodingReadIntPinLaw -/
def k1 : Class := { plain "com/example/all1/all1/EncodingReadIntPinLaw" (some 0) with
  accessFlags := 49
  interfaces := #[]
  cf := some (fileOf pool1 14 #[] #[{ accessFlags := 2, nameIndex := 5, descriptorIndex := 6, attributes := #[] }, { accessFlags := 9, nameIndex := 18, descriptorIndex := 19, attributes := #[] }] 49 2 #[] #[])
  fields := #[]
  methods := #[k1m0, k1m1]
  instanceTypes := #[]
  staticTypes := #[]
  resolved := Array.replicate 25 none
  statics := none }

def pool2 : Array CpInfo := pool [(2, .class_ 4), (1, u "java/lang/Object"), (0, u "<init>"), (0, u "()V"), (7, .class_ 16), (1, u "com/example/all1/all1/Encoding"), (99, .class_ 118), (1, u "com/example/all1/all1/Encoding$ElementReader"), (40, u "readInt"), (0, u "([BI)I"), (17, u "CHECKSUM_BYTES"), (0, u "I")] 51

def k2m0 : Method := { name := "<init>", desc := "()V", sig := { parameters := [], returnType := none }, accessFlags := 2, code := none }
def k2c1 : Code := { maxStack := 4, maxLocals := 2, code := prog_20_method_15_code, exceptionTable := #[], attributes := #[] }
def k2m1 : Method := { name := "readInt", desc := "([BI)I", sig := { parameters := [(.array .byte), .int], returnType := some .int }, accessFlags := 8, code := some k2c1 }
/-- com/example/all1/all1/Encoding -/
def k2 : Class := { plain "com/example/all1/all1/Encoding" (some 0) with
  accessFlags := 32
  interfaces := #[]
  cf := some (fileOf pool2 14 #[.nestMembers #[116]] #[{ accessFlags := 2, nameIndex := 5, descriptorIndex := 6, attributes := #[] }, { accessFlags := 8, nameIndex := 159, descriptorIndex := 160, attributes := #[] }] 32 2 #[] #[{ accessFlags := 24, nameIndex := 178, descriptorIndex := 179, attributes := #[] }])
  fields := #[{ name := "CHECKSUM_BYTES", type := .int, accessFlags := 24, slot := 0, constantValue := 0 }]
  methods := #[k2m0, k2m1]
  instanceTypes := #[]
  staticTypes := #[.int]
  resolved := Array.replicate 231 none
  statics := none }

def pool3 : Array CpInfo := pool [(1, u "java/lang/Cloneable"), (0, .class_ 1), (0, u "java/lang/Object"), (0, .class_ 3)] 3

/-- java/lang/Cloneable -/
def k3 : Class := { plain "java/lang/Cloneable" (some 0) with
  accessFlags := 1537
  interfaces := #[]
  cf := some (fileOf pool3 2 #[] #[] 1537 4 #[] #[])
  fields := #[]
  methods := #[]
  instanceTypes := #[]
  staticTypes := #[]
  resolved := Array.replicate 8 none
  statics := none }

def pool4 : Array CpInfo := pool [(1, u "java/io/Serializable"), (0, .class_ 1), (0, u "java/lang/Object"), (0, .class_ 3)] 3

/-- java/io/Serializable -/
def k4 : Class := { plain "java/io/Serializable" (some 0) with
  accessFlags := 1537
  interfaces := #[]
  cf := some (fileOf pool4 2 #[] #[] 1537 4 #[] #[])
  fields := #[]
  methods := #[]
  instanceTypes := #[]
  staticTypes := #[]
  resolved := Array.replicate 8 none
  statics := none }

/-- the primitive byte -/
def k5 : Class := { plain "byte" none with kind := .primitive 'B', accessFlags := 0x411 }
/-- [B -/
def k6 : Class := { plain "[B" (some 0) with kind := .array 5 .byte, interfaces := #[3, 4], accessFlags := 1041 }

/-- the primitive int -/
def k7 : Class := { plain "int" none with kind := .primitive 'I', accessFlags := 0x411 }
/-- [I -/
def k8 : Class := { plain "[I" (some 0) with kind := .array 7 .int, interfaces := #[3, 4], accessFlags := 1041 }

def heap : Heap := #[]
def classes : Array Class := #[k0, k1, k2, k3, k4, k5, k6, k7, k8]
def interned : List (Array UInt16 × Addr) := []
def slotsUsed : Nat := 0
def theMethod : MethodId := ⟨1, 1⟩
def args0 : Array Value := #[.int 5, .long 7, .int 1]
def aboutOver (below : List Frame) : State where
  vm := { classes := classes, interned := interned.toArray }
  heap := heap
  slotsUsed := slotsUsed
  threads := #[{ frames := .invoking theMethod args0 :: below }]
def below0 : List Frame := [.native { method := ⟨0, 0⟩, args := #[] }]
def about1 : State := aboutOver below0
def p0 : Program := .bare "" "" ""
def e0 : Env := launch0.env 0 0 0
theorem w_frames : about1.frames = Frame.invoking theMethod args0 :: below0 := rfl
set_option maxRecDepth 65536 in
theorem w_args : argsFit about1.vm theMethod args0 = true := by decide +kernel
set_option maxRecDepth 65536 in
theorem w_heap : heapFits about1 = true := by decide +kernel
set_option maxRecDepth 65536 in
theorem w_runnable : about1.curStatus? = some .runnable := by decide +kernel
set_option maxRecDepth 65536 in
theorem w_alone : about1.alone = true := by decide +kernel
set_option maxRecDepth 65536 in
theorem w_named : about1.methodNamed? x = some theMethod := by decide +kernel
set_option maxRecDepth 65536 in
theorem w_hears : about1.hears theMethod below0 = true := by decide +kernel
set_option maxRecDepth 65536 in
theorem w_ripe : about1.ripe theMethod args0 below0 = true := by decide +kernel
theorem w_running : about1.status = .running := rfl
set_option maxRecDepth 65536 in
theorem w_room : about1.hasRoom e0.platform room_1 = true :=
  launch0.hasRoom_least _ room_1 (by decide +kernel) (by decide +kernel) (by decide +kernel) (by decide +kernel) (by decide +kernel) (by decide +kernel)
theorem allAtoms_all (ts : List Jvm.Cond) (a : Array Jvm.Value) (st : Jvm.State) : (allAtoms ts).before a st = ts.all (fun c => c.before a st) := by
  induction ts with
  | nil => rfl
  | cons c t ih =>
    show (Jvm.Cond.and c (allAtoms t)).before a st = _
    rw [Jvm.Cond.before_and, ih, List.all_cons]
def words1 : List Jvm.Cond := Jvm.Cond.code x code maxLocals ret :: tables_1
/-- a 'code' word, met by the world's own term for the bytes: nothing is compared byte by byte -/
theorem code_word {y : MethodName} {bytes : ByteArray} {mx : Nat} {rt : Option FieldType} {a : Array Value} {s : State} {m : MethodId} {meth : Method} {c : Code} (h1 : s.methodNamed? y = some m) (h2 : s.vm.method? m = some meth) (h3 : meth.code = some c) (h4 : c.code = bytes)
    (h5 : (c.maxLocals == mx && c.exceptionTable.isEmpty && decide (c.maxStack ≤ mostOperands) && decide (meth.sig.returnType = rt) && !meth.locks && decide (parseMethodDescriptor y.desc = some meth.sig)) = true) : (Jvm.Cond.code y bytes mx rt).before a s = true := by
  simp only [Bool.and_eq_true, beq_iff_eq, Bool.not_eq_true', decide_eq_true_eq] at h5
  obtain ⟨⟨⟨⟨⟨g1, g2⟩, g3⟩, g4⟩, g5⟩, g6⟩ := h5
  simp [Cond.before, Cond.holds, Cond.value, h1, h2, h3, h4, g1, g2, g3, g4, g5, g6]
def isCode : Jvm.Cond → Bool
  | .code _ _ _ _ => true
  | _ => false
theorem all_split {L : List Jvm.Cond} {P : Jvm.Cond → Bool} (h1 : L.all (fun c => isCode c || P c) = true) (h2 : ∀ c ∈ L.filter isCode, P c = true) : L.all P = true := by
  refine List.all_eq_true.mpr fun c hc => ?_
  have h := List.all_eq_true.mp h1 c hc
  rcases Bool.eq_false_or_eq_true (isCode c) with hi | hi
  · exact h2 c (List.mem_filter.mpr ⟨hc, hi⟩)
  · simpa [hi] using h
set_option maxRecDepth 65536 in
theorem w_c0 : (Jvm.Cond.code x code maxLocals ret).before args0 about1 = true := code_word (m := ⟨1, 1⟩) (meth := k1m1) (c := k1c1) (by decide +kernel) rfl rfl rfl (by decide +kernel)
set_option maxRecDepth 65536 in
theorem w_c1 : (Jvm.Cond.code ({ cls := "com/example/all1/all1/Encoding", name := "readInt", desc := "([BI)I" } : Jvm.MethodName) prog_20_method_15_code (2 : Nat) (Option.some Jvm.ClassFile.FieldType.int)).before args0 about1 = true := code_word (m := ⟨2, 1⟩) (meth := k2m1) (c := k2c1) (by decide +kernel) rfl rfl rfl (by decide +kernel)
def codes1 : List Jvm.Cond := [Jvm.Cond.code x code maxLocals ret, Jvm.Cond.code ({ cls := "com/example/all1/all1/Encoding", name := "readInt", desc := "([BI)I" } : Jvm.MethodName) prog_20_method_15_code (2 : Nat) (Option.some Jvm.ClassFile.FieldType.int)]
set_option maxRecDepth 65536 in
theorem codes_eq : words1.filter isCode = codes1 := rfl
theorem w_codes : ∀ c ∈ words1.filter isCode, c.before args0 about1 = true := by
  rw [codes_eq]
  intro c hc
  simp only [codes1, List.mem_cons, List.not_mem_nil, or_false] at hc
  rcases hc with rfl | rfl
  · exact w_c0
  · exact w_c1
set_option maxRecDepth 65536 in
theorem w_t1 : words1.all (fun c => isCode c || c.before args0 about1) = true := by decide +kernel
theorem w_tables : (allAtoms (Jvm.Cond.code x code maxLocals ret :: tables_1)).before args0 about1 = true := by
  rw [allAtoms_all]
  show words1.all (fun c => c.before args0 about1) = true
  refine all_split ?_ w_codes
  rw [w_t1]
set_option maxRecDepth 65536 in
theorem w_case : (Jvm.Cond.and given_1 narrow_1).before args0 about1 = true := by decide +kernel
theorem w_applies : (headSpec (Jvm.Cond.code x code maxLocals ret :: tables_1) room_1).applies x e0.platform about1 = true :=
  (Spec.applies_iff w_frames).mpr ⟨w_running, w_runnable, w_alone, w_named, w_hears, w_ripe, w_room, w_tables⟩
theorem atStart : AtStart classFile x code maxLocals ret World_1 tables_1 room_1 Calls_1 rest_1 Pre_1 launch0 p0 e0 about1 theMethod args0 below0 :=
  ⟨lists_1, trivial, launch0.admits_env _ _ _, launch0.least_env, fairChoices_fair.cas, fairChoices_fair.clock, w_frames, w_args, w_heap, w_applies, trivial, trivial, w_case⟩
end start1
theorem witness_1 : WitnessClaimed_1 := ⟨start1.p0, start1.e0, start1.about1, start1.theMethod, start1.args0, start1.below0, start1.atStart⟩
end Jvm.Pilot.@@N@@
