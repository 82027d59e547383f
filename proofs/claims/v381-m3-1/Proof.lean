import JvmDerived
import JvmDerived.Pilot.@@N@@Statement
import JvmDerived.Pilot.@@N@@Code
set_option linter.unusedVariables false
set_option linter.unusedSimpArgs false
namespace Jvm.RoadKit
open Sem ClassFile Op Lib Jvm.Stand Jvm.Free Jvm.LawKit
section New
variable {p : Program} {l : Launch} {e : Env} {R : Room} {s : State} {m : MethodId} {args : Array Value} {below : List Frame} {meth : Method} {c : Code} {T : State} {locs : List Loc} {cells slots : Nat}
theorem retI (X : Stand p l e R s m args below meth c T locs cells slots) (hx : p.tables.exec = Jvm.exec) {pc : Nat} {Ls : Array Slot} {z : Int32} {rest : List Value} (hret : meth.sig.returnType = some .int) (hd : decode c.code pc = .ok (.ireturn, 1)) {fs : List Frame}
    (hl : ∀ (f : JFrame) (acts : List Action), f.method = m → f.locked = none → f.entered = [] → (doReturn e (T.setTop f) acts (some (.int z))).1 = T.setFrames fs) : Steps p.tables e below (T.setTop (mkF m pc Ls (.int z :: rest))) (T.setFrames fs) := by
  have hm' : T.vm.method? m = some meth := X.method'
  have hn : narrow .int (.int z) = .int z := rfl
  show Steps p.tables e below (T.setTop { method := m, pc := pc, locals := Ls, stack := _ :: rest, locked := none }) _
  jvm_step X.here [X.here.top, hx, hd, hm', hret, hn]
  first | (intro acts; rw [hl _ acts rfl rfl rfl]) | rw [hl _ _ rfl rfl rfl]
  exact Steps.refl _
end New
end Jvm.RoadKit
namespace Jvm.Pilot.@@N@@
open Jvm Jvm.ClassFile Sem Op Lib Jvm.Free Jvm.Stand Jvm.LawKit Jvm.RoadKit Bundle Jvm.Pilot.@@N@@.Jvm.D
def own_rd (w0 w1 w2 w3 : Int32) : Int32 := (((((w0 &&& (255 : Int32)) <<< ((24 : Int32) &&& 31)) ||| ((w1 &&& (255 : Int32)) <<< ((16 : Int32) &&& 31))) ||| ((w2 &&& (255 : Int32)) <<< ((8 : Int32) &&& 31))) ||| (w3 &&& (255 : Int32)))
def own_rdl (x y : Int32) : Int64 := (((x.toInt64) <<< ((32 : Int32) &&& 0x3f).toInt64) ||| ((y.toInt64) &&& (4294967295 : Int64)))
theorem own_d2_0 : decode prog_20_method_15_code 0 = .ok (.aload_n 0, 1) := by decide +kernel
theorem own_d2_1 : decode prog_20_method_15_code 1 = .ok (.iload_n 1, 1) := by decide +kernel
theorem own_d2_2 : decode prog_20_method_15_code 2 = .ok (.baload, 1) := by decide +kernel
theorem own_d2_3 : decode prog_20_method_15_code 3 = .ok (.sipush 255, 3) := by decide +kernel
theorem own_d2_6 : decode prog_20_method_15_code 6 = .ok (.iand, 1) := by decide +kernel
theorem own_d2_7 : decode prog_20_method_15_code 7 = .ok (.bipush 24, 2) := by decide +kernel
theorem own_d2_9 : decode prog_20_method_15_code 9 = .ok (.ishl, 1) := by decide +kernel
theorem own_d2_10 : decode prog_20_method_15_code 10 = .ok (.aload_n 0, 1) := by decide +kernel
theorem own_d2_11 : decode prog_20_method_15_code 11 = .ok (.iload_n 1, 1) := by decide +kernel
theorem own_d2_12 : decode prog_20_method_15_code 12 = .ok (.iconst 1, 1) := by decide +kernel
theorem own_d2_13 : decode prog_20_method_15_code 13 = .ok (.iadd, 1) := by decide +kernel
theorem own_d2_14 : decode prog_20_method_15_code 14 = .ok (.baload, 1) := by decide +kernel
theorem own_d2_15 : decode prog_20_method_15_code 15 = .ok (.sipush 255, 3) := by decide +kernel
theorem own_d2_18 : decode prog_20_method_15_code 18 = .ok (.iand, 1) := by decide +kernel
theorem own_d2_19 : decode prog_20_method_15_code 19 = .ok (.bipush 16, 2) := by decide +kernel
theorem own_d2_21 : decode prog_20_method_15_code 21 = .ok (.ishl, 1) := by decide +kernel
theorem own_d2_22 : decode prog_20_method_15_code 22 = .ok (.ior, 1) := by decide +kernel
theorem own_d2_23 : decode prog_20_method_15_code 23 = .ok (.aload_n 0, 1) := by decide +kernel
theorem own_d2_24 : decode prog_20_method_15_code 24 = .ok (.iload_n 1, 1) := by decide +kernel
theorem own_d2_25 : decode prog_20_method_15_code 25 = .ok (.iconst 2, 1) := by decide +kernel
theorem own_d2_26 : decode prog_20_method_15_code 26 = .ok (.iadd, 1) := by decide +kernel
theorem own_d2_27 : decode prog_20_method_15_code 27 = .ok (.baload, 1) := by decide +kernel
theorem own_d2_28 : decode prog_20_method_15_code 28 = .ok (.sipush 255, 3) := by decide +kernel
theorem own_d2_31 : decode prog_20_method_15_code 31 = .ok (.iand, 1) := by decide +kernel
theorem own_d2_32 : decode prog_20_method_15_code 32 = .ok (.bipush 8, 2) := by decide +kernel
theorem own_d2_34 : decode prog_20_method_15_code 34 = .ok (.ishl, 1) := by decide +kernel
theorem own_d2_35 : decode prog_20_method_15_code 35 = .ok (.ior, 1) := by decide +kernel
theorem own_d2_36 : decode prog_20_method_15_code 36 = .ok (.aload_n 0, 1) := by decide +kernel
theorem own_d2_37 : decode prog_20_method_15_code 37 = .ok (.iload_n 1, 1) := by decide +kernel
theorem own_d2_38 : decode prog_20_method_15_code 38 = .ok (.iconst 3, 1) := by decide +kernel
theorem own_d2_39 : decode prog_20_method_15_code 39 = .ok (.iadd, 1) := by decide +kernel
theorem own_d2_40 : decode prog_20_method_15_code 40 = .ok (.baload, 1) := by decide +kernel
theorem own_d2_41 : decode prog_20_method_15_code 41 = .ok (.sipush 255, 3) := by decide +kernel
theorem own_d2_44 : decode prog_20_method_15_code 44 = .ok (.iand, 1) := by decide +kernel
theorem own_d2_45 : decode prog_20_method_15_code 45 = .ok (.ior, 1) := by decide +kernel
theorem own_d2_46 : decode prog_20_method_15_code 46 = .ok (.ireturn, 1) := by decide +kernel
theorem own_pn36 : plainName "com/example/all1/all1/Encoding" = true := by first | (simp [plainName, overriddenIn]; done) | decide +kernel
theorem own_ef2 (m : MethodId) (a0 : Addr) (p1 : Int32) : entryFrame m #[(.ref a0), (.int p1)] 2 = mkF m 0 #[.val (.ref a0), .val (.int p1)] [] := by first | (simp [entryFrame, mkF, argsToLocals, Value.category]; done) | rfl
def own_Q2 (Z : State) (a0 : Addr) (p1 : Int32) (kk : ClassId) (nn : Int32) (vs : List Value) (dv : Value) (w0 : Int32) (w1 : Int32) (w2 : Int32) (w3 : Int32) (h0 : Heap) (n0 : Nat) (v : Option Value) (h : Heap) (L : List Loc) : Prop := v = some (.int (own_rd w0 w1 w2 w3)) ∧ Fr n0 L ∧ h = h0
set_option maxRecDepth 65536 in
set_option maxHeartbeats 40000000 in
theorem own_rm2 (l : Launch) (Z : State) (av : Array Value) (hw : ∀ d ∈ tables_1, d.before av Z = true) (ws : List Jvm.Cond) (a0 : Addr) (p1 : Int32) (kk : ClassId) (nn : Int32) (vs : List Value) (dv : Value) (w0 : Int32) (w1 : Int32) (w2 : Int32) (w3 : Int32) (h0 : Heap) (n0 : Nat) (Z0 : n0 ≤ h0.size) (pr0 : Arv Z h0 a0 kk .byte nn vs dv) (hj0 : ¬ p1 < 0 ∧ p1 < nn) (hj1 : ¬ (p1 + (1 : Int32)) < 0 ∧ (p1 + (1 : Int32)) < nn) (hj2 : ¬ (p1 + (2 : Int32)) < 0 ∧ (p1 + (2 : Int32)) < nn) (hj3 : ¬ (p1 + (3 : Int32)) < 0 ∧ (p1 + (3 : Int32)) < nn) (hg0 : vs.getD (p1).toNatClampNeg dv = (.int w0)) (hg1 : vs.getD ((p1 + (1 : Int32))).toNatClampNeg dv = (.int w1)) (hg2 : vs.getD ((p1 + (2 : Int32))).toNatClampNeg dv = (.int w2)) (hg3 : vs.getD ((p1 + (3 : Int32))).toNatClampNeg dv = (.int w3)) :
    MetFree l (⟨"com/example/all1/all1/Encoding", "readInt", "([BI)I"⟩ : MethodName) (head1 (Jvm.Cond.code (⟨"com/example/all1/all1/Encoding", "readInt", "([BI)I"⟩ : MethodName) prog_20_method_15_code 2 (some .int) :: ws) ({ frames := 0, cells := 0, slots := 0, locals := 0 } : Room)) (fun a U => a = #[(.ref a0), (.int p1)] ∧ Z.Warmed39 U.vm ∧ U.heap = h0) (fun _ _ _ _ _ => True) (fun _ U o U' => ∃ v L, o = .returned v ∧ own_Q2 Z a0 p1 kk nn vs dv w0 w1 w2 w3 h0 n0 v U'.heap L ∧ FrameEnd U o U' L ({ frames := 0, cells := 0, slots := 0, locals := 0 } : Room).cells ({ frames := 0, cells := 0, slots := 0, locals := 0 } : Room).slots) := by
  refine MetFree.of_bodySF (plainFor_of_name own_pn36) hisR ?_
  intro p e s m args below meth c s₁ Bd hml0 hP hK
  obtain ⟨rfl, hZ, hh⟩ := hP
  have hx := Bd.exec
  have hby := Bd.bytes
  have hml : c.maxLocals = 2 := hml0
  have hown : s.vm.findClass "com/example/all1/all1/Encoding" = some m.cls := findClass_of_methodNamed Bd.named
  have hnm := (name_of_methodNamed Bd.named Bd.method).1
  have X0 : Stand p l e ({ frames := 0, cells := 0, slots := 0, locals := 0 } : Room) s m #[(.ref a0), (.int p1)] below meth c s₁ [] 0 0 := Stand.of_body Bd
  have e0 : s₁.heap = h0 := by rw [← hh, Bd.state]; rfl
  have N0 := Fr.nil n0
  have pre0 : ∀ t, Steps p.tables e below (s₁.setTop (mkF m 0 #[.val (.ref a0), .val (.int p1)] [])) t → Steps p.tables e below (s₁.setTop (entryFrame m #[(.ref a0), (.int p1)] 2)) t := fun t k => castTop (own_ef2 m a0 p1) k
  obtain ⟨cl1, Ar1, q1, S1, M1, H1, G1⟩ := id pr0
  have hin1 : ¬ (p1 < 0 ∨ cl1.slots.size ≤ (p1).toNatClampNeg) := inb_of S1 hj0
  have hat1 : cl1.slots[(p1).toNatClampNeg]? = some (.int w0) := H1.at hin1 hg0
  obtain ⟨cl2, Ar2, q2, S2, M2, H2, G2⟩ := id pr0
  have hin2 : ¬ ((p1 + (1 : Int32)) < 0 ∨ cl2.slots.size ≤ ((p1 + (1 : Int32))).toNatClampNeg) := inb_of S2 hj1
  have hat2 : cl2.slots[((p1 + (1 : Int32))).toNatClampNeg]? = some (.int w1) := H2.at hin2 hg1
  obtain ⟨cl3, Ar3, q3, S3, M3, H3, G3⟩ := id pr0
  have hin3 : ¬ ((p1 + (2 : Int32)) < 0 ∨ cl3.slots.size ≤ ((p1 + (2 : Int32))).toNatClampNeg) := inb_of S3 hj2
  have hat3 : cl3.slots[((p1 + (2 : Int32))).toNatClampNeg]? = some (.int w2) := H3.at hin3 hg2
  obtain ⟨cl4, Ar4, q4, S4, M4, H4, G4⟩ := id pr0
  have hin4 : ¬ ((p1 + (3 : Int32)) < 0 ∨ cl4.slots.size ≤ ((p1 + (3 : Int32))).toNatClampNeg) := inb_of S4 hj3
  have hat4 : cl4.slots[((p1 + (3 : Int32))).toNatClampNeg]? = some (.int w3) := H4.at hin4 hg3
  obtain ⟨fs, hr, hrun, hended, hW, hsame⟩ := X0.leave (v := some (.int (((((w0 &&& (255 : Int32)) <<< ((24 : Int32) &&& 31)) ||| ((w1 &&& (255 : Int32)) <<< ((16 : Int32) &&& 31))) ||| ((w2 &&& (255 : Int32)) <<< ((8 : Int32) &&& 31))) ||| (w3 &&& (255 : Int32))))) (fun h => by rw [Bd.returns] at h; cases h)
  refine ⟨_, _, pre0 _ ?_, hrun, hended, _, _, rfl, ?_, ⟨_, rfl⟩, hW, hsame.mono (by decide) (by decide)⟩
  · show Steps p.tables e below (s₁.setTop (mkF m 0 #[.val (.ref a0), .val (.int p1)] [])) _
    refine XS.aloadN X0.here hx rfl (hb hby own_d2_0) rfl rfl ?_
    show Steps p.tables e below (s₁.setTop (mkF m 1 #[.val (.ref a0), .val (.int p1)] [(.ref a0)])) _
    refine XS.iloadN X0.here hx rfl (hb hby own_d2_1) rfl ?_
    show Steps p.tables e below (s₁.setTop (mkF m 2 #[.val (.ref a0), .val (.int p1)] [(.int p1), (.ref a0)])) _
    refine X0.baloadBytes hx (j := p1) (v := (.int w0)) (by rw [e0]; exact Ar1.1) (State.isArrayOf_alike hZ.alike Ar1.2.1) Ar1.2.2 hin1 hat1 (g := (mkF m 2 #[.val (.ref a0), .val (.int p1)] [(.int p1), (.ref a0)])) rfl rfl (hb hby own_d2_2) _ ?_
    show Steps p.tables e below (s₁.setTop (mkF m 3 #[.val (.ref a0), .val (.int p1)] [(.int w0)])) _
    refine XS.sipush X0.here hx rfl (hb hby own_d2_3) ?_
    show Steps p.tables e below (s₁.setTop (mkF m 6 #[.val (.ref a0), .val (.int p1)] [(.int (255 : Int32)), (.int w0)])) _
    refine XS.iand X0.here hx rfl (hb hby own_d2_6) rfl ?_
    show Steps p.tables e below (s₁.setTop (mkF m 7 #[.val (.ref a0), .val (.int p1)] [(.int (w0 &&& (255 : Int32)))])) _
    refine XS.bipush X0.here hx rfl (hb hby own_d2_7) ?_
    show Steps p.tables e below (s₁.setTop (mkF m 9 #[.val (.ref a0), .val (.int p1)] [(.int (24 : Int32)), (.int (w0 &&& (255 : Int32)))])) _
    refine XS.ishl X0.here hx rfl (hb hby own_d2_9) rfl ?_
    show Steps p.tables e below (s₁.setTop (mkF m 10 #[.val (.ref a0), .val (.int p1)] [(.int ((w0 &&& (255 : Int32)) <<< ((24 : Int32) &&& 31)))])) _
    refine XS.aloadN X0.here hx rfl (hb hby own_d2_10) rfl rfl ?_
    show Steps p.tables e below (s₁.setTop (mkF m 11 #[.val (.ref a0), .val (.int p1)] [(.ref a0), (.int ((w0 &&& (255 : Int32)) <<< ((24 : Int32) &&& 31)))])) _
    refine XS.iloadN X0.here hx rfl (hb hby own_d2_11) rfl ?_
    show Steps p.tables e below (s₁.setTop (mkF m 12 #[.val (.ref a0), .val (.int p1)] [(.int p1), (.ref a0), (.int ((w0 &&& (255 : Int32)) <<< ((24 : Int32) &&& 31)))])) _
    refine XS.iconst X0.here hx rfl (hb hby own_d2_12) ?_
    show Steps p.tables e below (s₁.setTop (mkF m 13 #[.val (.ref a0), .val (.int p1)] [(.int (1 : Int32)), (.int p1), (.ref a0), (.int ((w0 &&& (255 : Int32)) <<< ((24 : Int32) &&& 31)))])) _
    refine XS.iadd X0.here hx rfl (hb hby own_d2_13) rfl ?_
    show Steps p.tables e below (s₁.setTop (mkF m 14 #[.val (.ref a0), .val (.int p1)] [(.int (p1 + (1 : Int32))), (.ref a0), (.int ((w0 &&& (255 : Int32)) <<< ((24 : Int32) &&& 31)))])) _
    refine X0.baloadBytes hx (j := (p1 + (1 : Int32))) (v := (.int w1)) (by rw [e0]; exact Ar2.1) (State.isArrayOf_alike hZ.alike Ar2.2.1) Ar2.2.2 hin2 hat2 (g := (mkF m 14 #[.val (.ref a0), .val (.int p1)] [(.int (p1 + (1 : Int32))), (.ref a0), (.int ((w0 &&& (255 : Int32)) <<< ((24 : Int32) &&& 31)))])) rfl rfl (hb hby own_d2_14) _ ?_
    show Steps p.tables e below (s₁.setTop (mkF m 15 #[.val (.ref a0), .val (.int p1)] [(.int w1), (.int ((w0 &&& (255 : Int32)) <<< ((24 : Int32) &&& 31)))])) _
    refine XS.sipush X0.here hx rfl (hb hby own_d2_15) ?_
    show Steps p.tables e below (s₁.setTop (mkF m 18 #[.val (.ref a0), .val (.int p1)] [(.int (255 : Int32)), (.int w1), (.int ((w0 &&& (255 : Int32)) <<< ((24 : Int32) &&& 31)))])) _
    refine XS.iand X0.here hx rfl (hb hby own_d2_18) rfl ?_
    show Steps p.tables e below (s₁.setTop (mkF m 19 #[.val (.ref a0), .val (.int p1)] [(.int (w1 &&& (255 : Int32))), (.int ((w0 &&& (255 : Int32)) <<< ((24 : Int32) &&& 31)))])) _
    refine XS.bipush X0.here hx rfl (hb hby own_d2_19) ?_
    show Steps p.tables e below (s₁.setTop (mkF m 21 #[.val (.ref a0), .val (.int p1)] [(.int (16 : Int32)), (.int (w1 &&& (255 : Int32))), (.int ((w0 &&& (255 : Int32)) <<< ((24 : Int32) &&& 31)))])) _
    refine XS.ishl X0.here hx rfl (hb hby own_d2_21) rfl ?_
    show Steps p.tables e below (s₁.setTop (mkF m 22 #[.val (.ref a0), .val (.int p1)] [(.int ((w1 &&& (255 : Int32)) <<< ((16 : Int32) &&& 31))), (.int ((w0 &&& (255 : Int32)) <<< ((24 : Int32) &&& 31)))])) _
    refine XS.ior X0.here hx rfl (hb hby own_d2_22) rfl ?_
    show Steps p.tables e below (s₁.setTop (mkF m 23 #[.val (.ref a0), .val (.int p1)] [(.int (((w0 &&& (255 : Int32)) <<< ((24 : Int32) &&& 31)) ||| ((w1 &&& (255 : Int32)) <<< ((16 : Int32) &&& 31))))])) _
    refine XS.aloadN X0.here hx rfl (hb hby own_d2_23) rfl rfl ?_
    show Steps p.tables e below (s₁.setTop (mkF m 24 #[.val (.ref a0), .val (.int p1)] [(.ref a0), (.int (((w0 &&& (255 : Int32)) <<< ((24 : Int32) &&& 31)) ||| ((w1 &&& (255 : Int32)) <<< ((16 : Int32) &&& 31))))])) _
    refine XS.iloadN X0.here hx rfl (hb hby own_d2_24) rfl ?_
    show Steps p.tables e below (s₁.setTop (mkF m 25 #[.val (.ref a0), .val (.int p1)] [(.int p1), (.ref a0), (.int (((w0 &&& (255 : Int32)) <<< ((24 : Int32) &&& 31)) ||| ((w1 &&& (255 : Int32)) <<< ((16 : Int32) &&& 31))))])) _
    refine XS.iconst X0.here hx rfl (hb hby own_d2_25) ?_
    show Steps p.tables e below (s₁.setTop (mkF m 26 #[.val (.ref a0), .val (.int p1)] [(.int (2 : Int32)), (.int p1), (.ref a0), (.int (((w0 &&& (255 : Int32)) <<< ((24 : Int32) &&& 31)) ||| ((w1 &&& (255 : Int32)) <<< ((16 : Int32) &&& 31))))])) _
    refine XS.iadd X0.here hx rfl (hb hby own_d2_26) rfl ?_
    show Steps p.tables e below (s₁.setTop (mkF m 27 #[.val (.ref a0), .val (.int p1)] [(.int (p1 + (2 : Int32))), (.ref a0), (.int (((w0 &&& (255 : Int32)) <<< ((24 : Int32) &&& 31)) ||| ((w1 &&& (255 : Int32)) <<< ((16 : Int32) &&& 31))))])) _
    refine X0.baloadBytes hx (j := (p1 + (2 : Int32))) (v := (.int w2)) (by rw [e0]; exact Ar3.1) (State.isArrayOf_alike hZ.alike Ar3.2.1) Ar3.2.2 hin3 hat3 (g := (mkF m 27 #[.val (.ref a0), .val (.int p1)] [(.int (p1 + (2 : Int32))), (.ref a0), (.int (((w0 &&& (255 : Int32)) <<< ((24 : Int32) &&& 31)) ||| ((w1 &&& (255 : Int32)) <<< ((16 : Int32) &&& 31))))])) rfl rfl (hb hby own_d2_27) _ ?_
    show Steps p.tables e below (s₁.setTop (mkF m 28 #[.val (.ref a0), .val (.int p1)] [(.int w2), (.int (((w0 &&& (255 : Int32)) <<< ((24 : Int32) &&& 31)) ||| ((w1 &&& (255 : Int32)) <<< ((16 : Int32) &&& 31))))])) _
    refine XS.sipush X0.here hx rfl (hb hby own_d2_28) ?_
    show Steps p.tables e below (s₁.setTop (mkF m 31 #[.val (.ref a0), .val (.int p1)] [(.int (255 : Int32)), (.int w2), (.int (((w0 &&& (255 : Int32)) <<< ((24 : Int32) &&& 31)) ||| ((w1 &&& (255 : Int32)) <<< ((16 : Int32) &&& 31))))])) _
    refine XS.iand X0.here hx rfl (hb hby own_d2_31) rfl ?_
    show Steps p.tables e below (s₁.setTop (mkF m 32 #[.val (.ref a0), .val (.int p1)] [(.int (w2 &&& (255 : Int32))), (.int (((w0 &&& (255 : Int32)) <<< ((24 : Int32) &&& 31)) ||| ((w1 &&& (255 : Int32)) <<< ((16 : Int32) &&& 31))))])) _
    refine XS.bipush X0.here hx rfl (hb hby own_d2_32) ?_
    show Steps p.tables e below (s₁.setTop (mkF m 34 #[.val (.ref a0), .val (.int p1)] [(.int (8 : Int32)), (.int (w2 &&& (255 : Int32))), (.int (((w0 &&& (255 : Int32)) <<< ((24 : Int32) &&& 31)) ||| ((w1 &&& (255 : Int32)) <<< ((16 : Int32) &&& 31))))])) _
    refine XS.ishl X0.here hx rfl (hb hby own_d2_34) rfl ?_
    show Steps p.tables e below (s₁.setTop (mkF m 35 #[.val (.ref a0), .val (.int p1)] [(.int ((w2 &&& (255 : Int32)) <<< ((8 : Int32) &&& 31))), (.int (((w0 &&& (255 : Int32)) <<< ((24 : Int32) &&& 31)) ||| ((w1 &&& (255 : Int32)) <<< ((16 : Int32) &&& 31))))])) _
    refine XS.ior X0.here hx rfl (hb hby own_d2_35) rfl ?_
    show Steps p.tables e below (s₁.setTop (mkF m 36 #[.val (.ref a0), .val (.int p1)] [(.int ((((w0 &&& (255 : Int32)) <<< ((24 : Int32) &&& 31)) ||| ((w1 &&& (255 : Int32)) <<< ((16 : Int32) &&& 31))) ||| ((w2 &&& (255 : Int32)) <<< ((8 : Int32) &&& 31))))])) _
    refine XS.aloadN X0.here hx rfl (hb hby own_d2_36) rfl rfl ?_
    show Steps p.tables e below (s₁.setTop (mkF m 37 #[.val (.ref a0), .val (.int p1)] [(.ref a0), (.int ((((w0 &&& (255 : Int32)) <<< ((24 : Int32) &&& 31)) ||| ((w1 &&& (255 : Int32)) <<< ((16 : Int32) &&& 31))) ||| ((w2 &&& (255 : Int32)) <<< ((8 : Int32) &&& 31))))])) _
    refine XS.iloadN X0.here hx rfl (hb hby own_d2_37) rfl ?_
    show Steps p.tables e below (s₁.setTop (mkF m 38 #[.val (.ref a0), .val (.int p1)] [(.int p1), (.ref a0), (.int ((((w0 &&& (255 : Int32)) <<< ((24 : Int32) &&& 31)) ||| ((w1 &&& (255 : Int32)) <<< ((16 : Int32) &&& 31))) ||| ((w2 &&& (255 : Int32)) <<< ((8 : Int32) &&& 31))))])) _
    refine XS.iconst X0.here hx rfl (hb hby own_d2_38) ?_
    show Steps p.tables e below (s₁.setTop (mkF m 39 #[.val (.ref a0), .val (.int p1)] [(.int (3 : Int32)), (.int p1), (.ref a0), (.int ((((w0 &&& (255 : Int32)) <<< ((24 : Int32) &&& 31)) ||| ((w1 &&& (255 : Int32)) <<< ((16 : Int32) &&& 31))) ||| ((w2 &&& (255 : Int32)) <<< ((8 : Int32) &&& 31))))])) _
    refine XS.iadd X0.here hx rfl (hb hby own_d2_39) rfl ?_
    show Steps p.tables e below (s₁.setTop (mkF m 40 #[.val (.ref a0), .val (.int p1)] [(.int (p1 + (3 : Int32))), (.ref a0), (.int ((((w0 &&& (255 : Int32)) <<< ((24 : Int32) &&& 31)) ||| ((w1 &&& (255 : Int32)) <<< ((16 : Int32) &&& 31))) ||| ((w2 &&& (255 : Int32)) <<< ((8 : Int32) &&& 31))))])) _
    refine X0.baloadBytes hx (j := (p1 + (3 : Int32))) (v := (.int w3)) (by rw [e0]; exact Ar4.1) (State.isArrayOf_alike hZ.alike Ar4.2.1) Ar4.2.2 hin4 hat4 (g := (mkF m 40 #[.val (.ref a0), .val (.int p1)] [(.int (p1 + (3 : Int32))), (.ref a0), (.int ((((w0 &&& (255 : Int32)) <<< ((24 : Int32) &&& 31)) ||| ((w1 &&& (255 : Int32)) <<< ((16 : Int32) &&& 31))) ||| ((w2 &&& (255 : Int32)) <<< ((8 : Int32) &&& 31))))])) rfl rfl (hb hby own_d2_40) _ ?_
    show Steps p.tables e below (s₁.setTop (mkF m 41 #[.val (.ref a0), .val (.int p1)] [(.int w3), (.int ((((w0 &&& (255 : Int32)) <<< ((24 : Int32) &&& 31)) ||| ((w1 &&& (255 : Int32)) <<< ((16 : Int32) &&& 31))) ||| ((w2 &&& (255 : Int32)) <<< ((8 : Int32) &&& 31))))])) _
    refine XS.sipush X0.here hx rfl (hb hby own_d2_41) ?_
    show Steps p.tables e below (s₁.setTop (mkF m 44 #[.val (.ref a0), .val (.int p1)] [(.int (255 : Int32)), (.int w3), (.int ((((w0 &&& (255 : Int32)) <<< ((24 : Int32) &&& 31)) ||| ((w1 &&& (255 : Int32)) <<< ((16 : Int32) &&& 31))) ||| ((w2 &&& (255 : Int32)) <<< ((8 : Int32) &&& 31))))])) _
    refine XS.iand X0.here hx rfl (hb hby own_d2_44) rfl ?_
    show Steps p.tables e below (s₁.setTop (mkF m 45 #[.val (.ref a0), .val (.int p1)] [(.int (w3 &&& (255 : Int32))), (.int ((((w0 &&& (255 : Int32)) <<< ((24 : Int32) &&& 31)) ||| ((w1 &&& (255 : Int32)) <<< ((16 : Int32) &&& 31))) ||| ((w2 &&& (255 : Int32)) <<< ((8 : Int32) &&& 31))))])) _
    refine XS.ior X0.here hx rfl (hb hby own_d2_45) rfl ?_
    show Steps p.tables e below (s₁.setTop (mkF m 46 #[.val (.ref a0), .val (.int p1)] [(.int (((((w0 &&& (255 : Int32)) <<< ((24 : Int32) &&& 31)) ||| ((w1 &&& (255 : Int32)) <<< ((16 : Int32) &&& 31))) ||| ((w2 &&& (255 : Int32)) <<< ((8 : Int32) &&& 31))) ||| (w3 &&& (255 : Int32))))])) _
    exact retI X0 hx Bd.returns (hb hby own_d2_46) hr
  · show own_Q2 Z a0 p1 kk nn vs dv w0 w1 w2 w3 h0 n0 _ s₁.heap _
    rw [e0]
    exact ⟨rfl, N0, rfl⟩
theorem own_d1_0 : decode prog_20_method_16_code 0 = .ok (.aload_n 0, 1) := by decide +kernel
theorem own_d1_1 : decode prog_20_method_16_code 1 = .ok (.iload_n 1, 1) := by decide +kernel
theorem own_pd0 : parseMethodDescriptor "([BI)I" = some ⟨[(.array .byte), .int], some .int⟩ := by decide +kernel
theorem own_d1_2 : decode prog_20_method_16_code 2 = .ok (.invokestatic 157, 3) := by decide +kernel
theorem own_d1_5 : decode prog_20_method_16_code 5 = .ok (.i2l, 1) := by decide +kernel
theorem own_d1_6 : decode prog_20_method_16_code 6 = .ok (.bipush 32, 2) := by decide +kernel
theorem own_d1_8 : decode prog_20_method_16_code 8 = .ok (.lshl, 1) := by decide +kernel
theorem own_d1_9 : decode prog_20_method_16_code 9 = .ok (.aload_n 0, 1) := by decide +kernel
theorem own_d1_10 : decode prog_20_method_16_code 10 = .ok (.iload_n 1, 1) := by decide +kernel
theorem own_d1_11 : decode prog_20_method_16_code 11 = .ok (.iconst 4, 1) := by decide +kernel
theorem own_d1_12 : decode prog_20_method_16_code 12 = .ok (.iadd, 1) := by decide +kernel
theorem own_d1_13 : decode prog_20_method_16_code 13 = .ok (.invokestatic 157, 3) := by decide +kernel
theorem own_d1_16 : decode prog_20_method_16_code 16 = .ok (.i2l, 1) := by decide +kernel
theorem own_d1_17 : decode prog_20_method_16_code 17 = .ok (.ldc2_w 161, 3) := by decide +kernel
theorem own_d1_20 : decode prog_20_method_16_code 20 = .ok (.land, 1) := by decide +kernel
theorem own_d1_21 : decode prog_20_method_16_code 21 = .ok (.lor, 1) := by decide +kernel
theorem own_d1_22 : decode prog_20_method_16_code 22 = .ok (.lreturn, 1) := by decide +kernel
theorem own_ef1 (m : MethodId) (a0 : Addr) (p1 : Int32) : entryFrame m #[(.ref a0), (.int p1)] 2 = mkF m 0 #[.val (.ref a0), .val (.int p1)] [] := by first | (simp [entryFrame, mkF, argsToLocals, Value.category]; done) | rfl
def own_Q1 (Z : State) (a0 : Addr) (p1 : Int32) (kk : ClassId) (nn : Int32) (vs : List Value) (dv : Value) (w0 : Int32) (w1 : Int32) (w2 : Int32) (w3 : Int32) (w4 : Int32) (w5 : Int32) (w6 : Int32) (w7 : Int32) (h0 : Heap) (n0 : Nat) (v : Option Value) (h : Heap) (L : List Loc) : Prop := v = some (.long (own_rdl (own_rd w0 w1 w2 w3) (own_rd w4 w5 w6 w7))) ∧ Fr n0 L ∧ h = h0
set_option maxRecDepth 65536 in
set_option maxHeartbeats 40000000 in
theorem own_rm1 (l : Launch) (Z : State) (av : Array Value) (hw : ∀ d ∈ tables_1, d.before av Z = true) (ws : List Jvm.Cond) (a0 : Addr) (p1 : Int32) (kk : ClassId) (nn : Int32) (vs : List Value) (dv : Value) (w0 : Int32) (w1 : Int32) (w2 : Int32) (w3 : Int32) (w4 : Int32) (w5 : Int32) (w6 : Int32) (w7 : Int32) (h0 : Heap) (n0 : Nat) (Z0 : n0 ≤ h0.size) (pr0 : Arv Z h0 a0 kk .byte nn vs dv) (hj0 : ¬ p1 < 0 ∧ p1 < nn) (hj1 : ¬ (p1 + (1 : Int32)) < 0 ∧ (p1 + (1 : Int32)) < nn) (hj2 : ¬ (p1 + (2 : Int32)) < 0 ∧ (p1 + (2 : Int32)) < nn) (hj3 : ¬ (p1 + (3 : Int32)) < 0 ∧ (p1 + (3 : Int32)) < nn) (hj4 : ¬ (p1 + (4 : Int32)) < 0 ∧ (p1 + (4 : Int32)) < nn) (hj5 : ¬ ((p1 + (4 : Int32)) + (1 : Int32)) < 0 ∧ ((p1 + (4 : Int32)) + (1 : Int32)) < nn) (hj6 : ¬ ((p1 + (4 : Int32)) + (2 : Int32)) < 0 ∧ ((p1 + (4 : Int32)) + (2 : Int32)) < nn) (hj7 : ¬ ((p1 + (4 : Int32)) + (3 : Int32)) < 0 ∧ ((p1 + (4 : Int32)) + (3 : Int32)) < nn) (hg0 : vs.getD (p1).toNatClampNeg dv = (.int w0)) (hg1 : vs.getD ((p1 + (1 : Int32))).toNatClampNeg dv = (.int w1)) (hg2 : vs.getD ((p1 + (2 : Int32))).toNatClampNeg dv = (.int w2)) (hg3 : vs.getD ((p1 + (3 : Int32))).toNatClampNeg dv = (.int w3)) (hg4 : vs.getD ((p1 + (4 : Int32))).toNatClampNeg dv = (.int w4)) (hg5 : vs.getD (((p1 + (4 : Int32)) + (1 : Int32))).toNatClampNeg dv = (.int w5)) (hg6 : vs.getD (((p1 + (4 : Int32)) + (2 : Int32))).toNatClampNeg dv = (.int w6)) (hg7 : vs.getD (((p1 + (4 : Int32)) + (3 : Int32))).toNatClampNeg dv = (.int w7)) :
    MetFree l (⟨"com/example/all1/all1/Encoding", "readLong", "([BI)J"⟩ : MethodName) (head1 (Jvm.Cond.code (⟨"com/example/all1/all1/Encoding", "readLong", "([BI)J"⟩ : MethodName) prog_20_method_16_code 2 (some .long) :: ws) ({ frames := 1, cells := 0, slots := 0, locals := 15 } : Room)) (fun a U => a = #[(.ref a0), (.int p1)] ∧ Z.Warmed39 U.vm ∧ U.heap = h0) (fun _ _ _ _ _ => True) (fun _ U o U' => ∃ v L, o = .returned v ∧ own_Q1 Z a0 p1 kk nn vs dv w0 w1 w2 w3 w4 w5 w6 w7 h0 n0 v U'.heap L ∧ FrameEnd U o U' L ({ frames := 1, cells := 0, slots := 0, locals := 15 } : Room).cells ({ frames := 1, cells := 0, slots := 0, locals := 15 } : Room).slots) := by
  refine MetFree.of_bodySF (plainFor_of_name own_pn36) hisR ?_
  intro p e s m args below meth c s₁ Bd hml0 hP hK
  obtain ⟨rfl, hZ, hh⟩ := hP
  have hx := Bd.exec
  have hby := Bd.bytes
  have hml : c.maxLocals = 2 := hml0
  have hown : s.vm.findClass "com/example/all1/all1/Encoding" = some m.cls := findClass_of_methodNamed Bd.named
  have hnm := (name_of_methodNamed Bd.named Bd.method).1
  have X0 : Stand p l e ({ frames := 1, cells := 0, slots := 0, locals := 15 } : Room) s m #[(.ref a0), (.int p1)] below meth c s₁ [] 0 0 := Stand.of_body Bd
  have e0 : s₁.heap = h0 := by rw [← hh, Bd.state]; rfl
  have N0 := Fr.nil n0
  have pre0 : ∀ t, Steps p.tables e below (s₁.setTop (mkF m 0 #[.val (.ref a0), .val (.int p1)] [])) t → Steps p.tables e below (s₁.setTop (entryFrame m #[(.ref a0), (.int p1)] 2)) t := fun t k => castTop (own_ef1 m a0 p1) k
  obtain ⟨_, _, ⟨T5, L5, k5, n5⟩, -, X5, ⟨Lc5, hQ5, l5, y5, z5⟩, st5⟩ := Jvm.LawKit.callS X0 hx (y := (⟨"com/example/all1/all1/Encoding", "readInt", "([BI)I"⟩ : MethodName)) hown (mvT hZ (hw _ (List.mem_of_getElem? (i := 5) rfl))) (mvT hZ (hw _ (List.mem_of_getElem? (i := 6) rfl))) (mvT hZ (hw _ (List.mem_of_getElem? (i := 3) rfl))) (mvT hZ (hw _ (List.mem_of_getElem? (i := 7) rfl))) (by decide) (backOf (W := 0) (own_rm2 l Z av hw [] a0 p1 (kk) (nn) (vs) (dv) (w0) (w1) (w2) (w3) h0 n0 Z0 pr0 (hj0) (hj1) (hj2) (hj3) (hg0) (hg1) (hg2) (hg3)) hZ (hw _ (List.mem_of_getElem? (i := 7) rfl)) (hw _ (List.mem_of_getElem? (i := 3) rfl)) (by decide) (by decide)) (g := (mkF m 2 #[.val (.ref a0), .val (.int p1)] [(.int p1), (.ref a0)])) rfl (by rw [hml]; rfl) (argsL := [(.ref a0), (.int p1)]) (rest := []) (lenOf own_pd0 rfl) rfl (by show 2 * 0 + _ ≤ _; exact Nat.le_of_eq rfl) (hb hby own_d1_2) (fun _ _ => ⟨rfl, e0, (by decide : 0 + 0 ≤ _), (by decide : 0 + 0 ≤ _)⟩)
  dsimp only [Pt.U, Pt.locs, Pt.cells, Pt.slots] at X5 l5 y5 z5 st5 hQ5
  subst l5 y5 z5
  obtain ⟨rfl, N5q, e7⟩ := hQ5
  have N6 := Fr.app N0 N5q
  obtain ⟨_, _, ⟨T8, L8, k8, n8⟩, -, X8, ⟨Lc8, hQ8, l8, y8, z8⟩, st8⟩ := Jvm.LawKit.callS X5 hx (y := (⟨"com/example/all1/all1/Encoding", "readInt", "([BI)I"⟩ : MethodName)) hown (mvT hZ (hw _ (List.mem_of_getElem? (i := 5) rfl))) (mvT hZ (hw _ (List.mem_of_getElem? (i := 6) rfl))) (mvT hZ (hw _ (List.mem_of_getElem? (i := 3) rfl))) (mvT hZ (hw _ (List.mem_of_getElem? (i := 7) rfl))) (by decide) (backOf (W := 2) (own_rm2 l Z av hw [] a0 (p1 + (4 : Int32)) (kk) (nn) (vs) (dv) (w4) (w5) (w6) (w7) h0 n0 Z0 pr0 (hj4) (hj5) (hj6) (hj7) (hg4) (hg5) (hg6) (hg7)) hZ (hw _ (List.mem_of_getElem? (i := 7) rfl)) (hw _ (List.mem_of_getElem? (i := 3) rfl)) (by decide) (by decide)) (g := (mkF m 13 #[.val (.ref a0), .val (.int p1)] [(.int (p1 + (4 : Int32))), (.ref a0), (.long (((own_rd w0 w1 w2 w3).toInt64) <<< ((32 : Int32) &&& 0x3f).toInt64))])) rfl (by rw [hml]; rfl) (argsL := [(.ref a0), (.int (p1 + (4 : Int32)))]) (rest := [(.long (((own_rd w0 w1 w2 w3).toInt64) <<< ((32 : Int32) &&& 0x3f).toInt64))]) (lenOf own_pd0 rfl) rfl (by show 2 * 0 + _ ≤ _; exact Nat.le_of_eq rfl) (hb hby own_d1_13) (fun _ _ => ⟨rfl, e7, (by decide : 0 + 0 ≤ _), (by decide : 0 + 0 ≤ _)⟩)
  dsimp only [Pt.U, Pt.locs, Pt.cells, Pt.slots] at X8 l8 y8 z8 st8 hQ8
  subst l8 y8 z8
  obtain ⟨rfl, N8q, e10⟩ := hQ8
  have N9 := Fr.app N6 N8q
  obtain ⟨fs, hr, hrun, hended, hW, hsame⟩ := X8.leave (v := some (.long ((((own_rd w0 w1 w2 w3).toInt64) <<< ((32 : Int32) &&& 0x3f).toInt64) ||| (((own_rd w4 w5 w6 w7).toInt64) &&& (4294967295 : Int64))))) (fun h => by rw [Bd.returns] at h; cases h)
  refine ⟨_, _, pre0 _ ?_, hrun, hended, _, _, rfl, ?_, ⟨_, rfl⟩, hW, hsame.mono (by decide) (by decide)⟩
  · show Steps p.tables e below (s₁.setTop (mkF m 0 #[.val (.ref a0), .val (.int p1)] [])) _
    refine XS.aloadN X0.here hx rfl (hb hby own_d1_0) rfl rfl ?_
    show Steps p.tables e below (s₁.setTop (mkF m 1 #[.val (.ref a0), .val (.int p1)] [(.ref a0)])) _
    refine XS.iloadN X0.here hx rfl (hb hby own_d1_1) rfl ?_
    show Steps p.tables e below (s₁.setTop (mkF m 2 #[.val (.ref a0), .val (.int p1)] [(.int p1), (.ref a0)])) _
    refine st5 _ ?_
    show Steps p.tables e below (T5.setTop (mkF m 5 #[.val (.ref a0), .val (.int p1)] [(.int (own_rd w0 w1 w2 w3))])) _
    refine XS.i2l X5.here hx rfl (hb hby own_d1_5) rfl ?_
    show Steps p.tables e below (T5.setTop (mkF m 6 #[.val (.ref a0), .val (.int p1)] [(.long ((own_rd w0 w1 w2 w3).toInt64))])) _
    refine XS.bipush X5.here hx rfl (hb hby own_d1_6) ?_
    show Steps p.tables e below (T5.setTop (mkF m 8 #[.val (.ref a0), .val (.int p1)] [(.int (32 : Int32)), (.long ((own_rd w0 w1 w2 w3).toInt64))])) _
    refine XS.lshl X5.here hx rfl (hb hby own_d1_8) rfl ?_
    show Steps p.tables e below (T5.setTop (mkF m 9 #[.val (.ref a0), .val (.int p1)] [(.long (((own_rd w0 w1 w2 w3).toInt64) <<< ((32 : Int32) &&& 0x3f).toInt64))])) _
    refine XS.aloadN X5.here hx rfl (hb hby own_d1_9) rfl rfl ?_
    show Steps p.tables e below (T5.setTop (mkF m 10 #[.val (.ref a0), .val (.int p1)] [(.ref a0), (.long (((own_rd w0 w1 w2 w3).toInt64) <<< ((32 : Int32) &&& 0x3f).toInt64))])) _
    refine XS.iloadN X5.here hx rfl (hb hby own_d1_10) rfl ?_
    show Steps p.tables e below (T5.setTop (mkF m 11 #[.val (.ref a0), .val (.int p1)] [(.int p1), (.ref a0), (.long (((own_rd w0 w1 w2 w3).toInt64) <<< ((32 : Int32) &&& 0x3f).toInt64))])) _
    refine XS.iconst X5.here hx rfl (hb hby own_d1_11) ?_
    show Steps p.tables e below (T5.setTop (mkF m 12 #[.val (.ref a0), .val (.int p1)] [(.int (4 : Int32)), (.int p1), (.ref a0), (.long (((own_rd w0 w1 w2 w3).toInt64) <<< ((32 : Int32) &&& 0x3f).toInt64))])) _
    refine XS.iadd X5.here hx rfl (hb hby own_d1_12) rfl ?_
    show Steps p.tables e below (T5.setTop (mkF m 13 #[.val (.ref a0), .val (.int p1)] [(.int (p1 + (4 : Int32))), (.ref a0), (.long (((own_rd w0 w1 w2 w3).toInt64) <<< ((32 : Int32) &&& 0x3f).toInt64))])) _
    refine st8 _ ?_
    show Steps p.tables e below (T8.setTop (mkF m 16 #[.val (.ref a0), .val (.int p1)] [(.int (own_rd w4 w5 w6 w7)), (.long (((own_rd w0 w1 w2 w3).toInt64) <<< ((32 : Int32) &&& 0x3f).toInt64))])) _
    refine XS.i2l X8.here hx rfl (hb hby own_d1_16) rfl ?_
    show Steps p.tables e below (T8.setTop (mkF m 17 #[.val (.ref a0), .val (.int p1)] [(.long ((own_rd w4 w5 w6 w7).toInt64)), (.long (((own_rd w0 w1 w2 w3).toInt64) <<< ((32 : Int32) &&& 0x3f).toInt64))])) _
    refine X8.ldc2Long hx hown (mvT hZ (hw _ (List.mem_of_getElem? (i := 8) rfl))) (g := (mkF m 17 #[.val (.ref a0), .val (.int p1)] [(.long ((own_rd w4 w5 w6 w7).toInt64)), (.long (((own_rd w0 w1 w2 w3).toInt64) <<< ((32 : Int32) &&& 0x3f).toInt64))])) rfl (hb hby own_d1_17) _ ?_
    show Steps p.tables e below (T8.setTop (mkF m 20 #[.val (.ref a0), .val (.int p1)] [(.long (4294967295 : Int64)), (.long ((own_rd w4 w5 w6 w7).toInt64)), (.long (((own_rd w0 w1 w2 w3).toInt64) <<< ((32 : Int32) &&& 0x3f).toInt64))])) _
    refine XS.land X8.here hx rfl (hb hby own_d1_20) rfl ?_
    show Steps p.tables e below (T8.setTop (mkF m 21 #[.val (.ref a0), .val (.int p1)] [(.long (((own_rd w4 w5 w6 w7).toInt64) &&& (4294967295 : Int64))), (.long (((own_rd w0 w1 w2 w3).toInt64) <<< ((32 : Int32) &&& 0x3f).toInt64))])) _
    refine XS.lor X8.here hx rfl (hb hby own_d1_21) rfl ?_
    show Steps p.tables e below (T8.setTop (mkF m 22 #[.val (.ref a0), .val (.int p1)] [(.long ((((own_rd w0 w1 w2 w3).toInt64) <<< ((32 : Int32) &&& 0x3f).toInt64) ||| (((own_rd w4 w5 w6 w7).toInt64) &&& (4294967295 : Int64))))])) _
    exact retOut X8 hx (t := .long) (i := .lreturn) Bd.returns rfl (Or.inr (Or.inl ⟨rfl, rfl, _, rfl⟩)) (hb hby own_d1_22) hr
  · show own_Q1 Z a0 p1 kk nn vs dv w0 w1 w2 w3 w4 w5 w6 w7 h0 n0 _ T8.heap _
    rw [e10]
    exact ⟨rfl, N9, rfl⟩
theorem own_byte (x y : Int32) (h : x = (y.toInt8.toInt32)) : ((nar .byte x) &&& (255 : Int32)).toInt = y.toInt % 256 := by
  have e1 := c_i2b y
  have e2 := c_i2b (y.toInt8.toInt32)
  have e3 := c_mask (nar .byte x) (255 : Int32) 8 (by decide) (by decide)
  subst h
  change ((nar .byte (y.toInt8.toInt32)) &&& (255 : Int32)).toInt = (y.toInt8.toInt32.toInt8.toInt32).toInt % _ at e3
  rw [e3]
  generalize (y.toInt8.toInt32.toInt8.toInt32).toInt = b at *
  generalize (y.toInt8.toInt32).toInt = a at *
  omega
theorem own_join (m0 m1 m2 m3 : Int32) (h0 : 0 ≤ m0.toInt ∧ m0.toInt < 256) (h1 : 0 ≤ m1.toInt ∧ m1.toInt < 256) (h2 : 0 ≤ m2.toInt ∧ m2.toInt < 256) (h3 : 0 ≤ m3.toInt ∧ m3.toInt < 256) :
    (((((m0 <<< ((24 : Int32) &&& 31)) ||| (m1 <<< ((16 : Int32) &&& 31))) ||| (m2 <<< ((8 : Int32) &&& 31))) ||| m3).toInt - (m0.toInt * 16777216 + m1.toInt * 65536 + m2.toInt * 256 + m3.toInt)) % 4294967296 = 0 := by
  have s0 := c_ishl m0 (24 : Int32) 24 (by decide)
  have s1 := c_ishl m1 (16 : Int32) 16 (by decide)
  have s2 := c_ishl m2 (8 : Int32) 8 (by decide)
  generalize (m0 <<< ((24 : Int32) &&& 31)) = a0 at *
  generalize (m1 <<< ((16 : Int32) &&& 31)) = a1 at *
  generalize (m2 <<< ((8 : Int32) &&& 31)) = a2 at *
  have b1 := Int32.le_toInt a0; have b2 := Int32.toInt_lt a0
  have b3 := Int32.le_toInt a1; have b4 := Int32.toInt_lt a1
  have b5 := Int32.le_toInt a2; have b6 := Int32.toInt_lt a2
  have o1 := c_or a0 a1 24 (by decide) 16777216 (by decide) (by omega) (by omega) (by omega)
  generalize (a0 ||| a1) = c1 at *
  have b7 := Int32.le_toInt c1; have b8 := Int32.toInt_lt c1
  have o2 := c_or c1 a2 16 (by decide) 65536 (by decide) (by omega) (by omega) (by omega)
  generalize (c1 ||| a2) = c2 at *
  have b9 := Int32.le_toInt c2; have b10 := Int32.toInt_lt c2
  have o3 := c_or c2 m3 8 (by decide) 256 (by decide) (by omega) (by omega) (by omega)
  generalize (c2 ||| m3) = c3 at *
  omega
theorem own_rdN (b0 b1 b2 b3 y0 y1 y2 y3 : Int32) (h0 : b0 = (y0.toInt8.toInt32)) (h1 : b1 = (y1.toInt8.toInt32)) (h2 : b2 = (y2.toInt8.toInt32)) (h3 : b3 = (y3.toInt8.toInt32)) :
    ((own_rd (nar .byte b0) (nar .byte b1) (nar .byte b2) (nar .byte b3)).toInt - ((y0.toInt % 256) * 16777216 + (y1.toInt % 256) * 65536 + (y2.toInt % 256) * 256 + y3.toInt % 256)) % 4294967296 = 0 := by
  have e0 := own_byte b0 y0 h0; have e1 := own_byte b1 y1 h1; have e2 := own_byte b2 y2 h2; have e3 := own_byte b3 y3 h3
  unfold own_rd
  have j := own_join (nar .byte b0 &&& (255 : Int32)) (nar .byte b1 &&& (255 : Int32)) (nar .byte b2 &&& (255 : Int32)) (nar .byte b3 &&& (255 : Int32)) (by omega) (by omega) (by omega) (by omega)
  rw [e0, e1, e2, e3] at j
  exact j
theorem own_rdl_num (r t : Int32) (q : Int64) (hr : (r.toInt - (q.toInt % 18446744073709551616) / 4294967296) % 4294967296 = 0) (ht : (t.toInt - q.toInt) % 4294967296 = 0) : own_rdl r t = q := by
  unfold own_rdl
  have g1 := c_i2l r
  have g2 := c_i2l t
  have g3 := c_lshl r.toInt64 (32 : Int32) 32 (by decide)
  have g4 := c_maskL t.toInt64 (4294967295 : Int64) 32 (by decide) (by decide)
  generalize (r.toInt64 <<< ((32 : Int32) &&& 0x3f).toInt64) = x at *
  generalize (t.toInt64 &&& (4294967295 : Int64)) = y at *
  have bx1 := Int64.le_toInt x; have bx2 := Int64.toInt_lt x
  have bq1 := Int64.le_toInt q; have bq2 := Int64.toInt_lt q
  have o := c_orL x y 32 (by decide) 4294967296 (by decide) (by omega) (by omega) (by omega)
  apply Int64.toInt_inj.mp
  generalize (x ||| y) = z at *
  have bz1 := Int64.le_toInt z; have bz2 := Int64.toInt_lt z
  omega
theorem own_four (V : Int) (h1 : 0 ≤ V) (h2 : V < 4294967296) : (V / 16777216 % 256) * 16777216 + (V / 65536 % 256) * 65536 + (V / 256 % 256) * 256 + V % 256 = V := by omega
theorem own_bm (y : Int64) : y.toInt32.toInt % 256 = y.toInt % 256 := by
  have := c_l2i y
  omega
theorem own_rdl_ok (q : Int64) (b0 b1 b2 b3 b4 b5 b6 b7 : Int32) (h0 : b0 = ((((q.toUInt64 >>> ((56 : Int32) &&& 0x3f).toInt64.toUInt64).toInt64).toInt32).toInt8.toInt32)) (h1 : b1 = ((((q.toUInt64 >>> ((48 : Int32) &&& 0x3f).toInt64.toUInt64).toInt64).toInt32).toInt8.toInt32)) (h2 : b2 = ((((q.toUInt64 >>> ((40 : Int32) &&& 0x3f).toInt64.toUInt64).toInt64).toInt32).toInt8.toInt32)) (h3 : b3 = ((((q.toUInt64 >>> ((32 : Int32) &&& 0x3f).toInt64.toUInt64).toInt64).toInt32).toInt8.toInt32)) (h4 : b4 = ((((q.toUInt64 >>> ((24 : Int32) &&& 0x3f).toInt64.toUInt64).toInt64).toInt32).toInt8.toInt32)) (h5 : b5 = ((((q.toUInt64 >>> ((16 : Int32) &&& 0x3f).toInt64.toUInt64).toInt64).toInt32).toInt8.toInt32)) (h6 : b6 = ((((q.toUInt64 >>> ((8 : Int32) &&& 0x3f).toInt64.toUInt64).toInt64).toInt32).toInt8.toInt32)) (h7 : b7 = ((q.toInt32).toInt8.toInt32)) : own_rdl (own_rd (nar .byte b0) (nar .byte b1) (nar .byte b2) (nar .byte b3)) (own_rd (nar .byte b4) (nar .byte b5) (nar .byte b6) (nar .byte b7)) = q := by
  have j1 := own_rdN b0 b1 b2 b3 _ _ _ _ h0 h1 h2 h3
  have j2 := own_rdN b4 b5 b6 b7 _ _ _ _ h4 h5 h6 h7
  clear h0 h1 h2 h3 h4 h5 h6 h7
  rw [own_bm, own_bm, own_bm, own_bm] at j1 j2
  have e0 := c_lushr q (56 : Int32) 56 (by decide) (by decide)
  have e1 := c_lushr q (48 : Int32) 48 (by decide) (by decide)
  have e2 := c_lushr q (40 : Int32) 40 (by decide) (by decide)
  have e3 := c_lushr q (32 : Int32) 32 (by decide) (by decide)
  have e4 := c_lushr q (24 : Int32) 24 (by decide) (by decide)
  have e5 := c_lushr q (16 : Int32) 16 (by decide) (by decide)
  have e6 := c_lushr q (8 : Int32) 8 (by decide) (by decide)
  rw [e0, e1, e2, e3] at j1
  rw [e4, e5, e6] at j2
  clear e0 e1 e2 e3 e4 e5 e6
  have bq1 := Int64.le_toInt q; have bq2 := Int64.toInt_lt q
  refine own_rdl_num _ _ q ?_ ?_
  · generalize own_rd (nar .byte b0) (nar .byte b1) (nar .byte b2) (nar .byte b3) = r at *
    clear j2
    have U0 : 0 ≤ q.toInt % 18446744073709551616 ∧ q.toInt % 18446744073709551616 < 18446744073709551616 := by omega
    generalize q.toInt % 18446744073709551616 = U at *
    have f := own_four (U / 4294967296)
    have u1 : U / ((2 ^ 56 : Nat) : Int) = U / 4294967296 / 16777216 := by omega
    have u2 : U / ((2 ^ 48 : Nat) : Int) = U / 4294967296 / 65536 := by omega
    have u3 : U / ((2 ^ 40 : Nat) : Int) = U / 4294967296 / 256 := by omega
    have u4 : U / ((2 ^ 32 : Nat) : Int) = U / 4294967296 := by omega
    rw [u1, u2, u3, u4, f (by omega) (by omega)] at j1
    exact j1
  · generalize own_rd (nar .byte b4) (nar .byte b5) (nar .byte b6) (nar .byte b7) = r at *
    clear j1
    have f := own_four (q.toInt % 4294967296) (by omega) (by omega)
    have u1 : q.toInt % 18446744073709551616 / ((2 ^ 24 : Nat) : Int) % 256 = q.toInt % 4294967296 / 16777216 % 256 := by omega
    have u2 : q.toInt % 18446744073709551616 / ((2 ^ 16 : Nat) : Int) % 256 = q.toInt % 4294967296 / 65536 % 256 := by omega
    have u3 : q.toInt % 18446744073709551616 / ((2 ^ 8 : Nat) : Int) % 256 = q.toInt % 4294967296 / 256 % 256 := by omega
    have u4 : q.toInt % 256 = q.toInt % 4294967296 % 256 := by omega
    rw [u1, u2, u3, u4, f] at j2
    clear f u1 u2 u3 u4
    omega
theorem own_pd1 : parseMethodDescriptor "([BI)J" = some ⟨[(.array .byte), .int], some .long⟩ := by decide +kernel
set_option maxRecDepth 65536 in
set_option maxHeartbeats 40000000 in
theorem own_side100 (p1 : Int32) (v11 : Int32) (hv11 : v11 = (p1 &&& (3 : Int32))) : v11 = (0 : Int32) ∨ v11 = (1 : Int32) ∨ v11 = (2 : Int32) ∨ v11 = (3 : Int32) := by
  have := c_mask p1 (3 : Int32) 2 (by decide) (by decide)
  have := Int32.le_toInt ((p1 &&& (3 : Int32))); have := Int32.toInt_lt ((p1 &&& (3 : Int32)))
  have := Int32.le_toInt p1; have := Int32.toInt_lt p1
  have := Int32.le_toInt v11; have := Int32.toInt_lt v11
  simp only [Int32.lt_iff_toInt_lt, Int64.lt_iff_toInt_lt, ← Int32.toInt_inj, ← Int64.toInt_inj, Int32.reduceToInt, Int64.reduceToInt] at *
  all_goals omega
set_option maxRecDepth 65536 in
set_option maxHeartbeats 40000000 in
theorem own_leaf0_2 (q0 : Int64) (v103 : Int32) (hv103 : v103 = ((((q0.toUInt64 >>> ((56 : Int32) &&& 0x3f).toInt64.toUInt64).toInt64).toInt32).toInt8.toInt32)) (v110 : Int32) (hv110 : v110 = ((((q0.toUInt64 >>> ((48 : Int32) &&& 0x3f).toInt64.toUInt64).toInt64).toInt32).toInt8.toInt32)) (v117 : Int32) (hv117 : v117 = ((((q0.toUInt64 >>> ((40 : Int32) &&& 0x3f).toInt64.toUInt64).toInt64).toInt32).toInt8.toInt32)) (v124 : Int32) (hv124 : v124 = ((((q0.toUInt64 >>> ((32 : Int32) &&& 0x3f).toInt64.toUInt64).toInt64).toInt32).toInt8.toInt32)) (v131 : Int32) (hv131 : v131 = ((((q0.toUInt64 >>> ((24 : Int32) &&& 0x3f).toInt64.toUInt64).toInt64).toInt32).toInt8.toInt32)) (v138 : Int32) (hv138 : v138 = ((((q0.toUInt64 >>> ((16 : Int32) &&& 0x3f).toInt64.toUInt64).toInt64).toInt32).toInt8.toInt32)) (v145 : Int32) (hv145 : v145 = ((((q0.toUInt64 >>> ((8 : Int32) &&& 0x3f).toInt64.toUInt64).toInt64).toInt32).toInt8.toInt32)) (v152 : Int32) (hv152 : v152 = ((q0.toInt32).toInt8.toInt32)) (hc163 : ¬ ((own_rdl (own_rd (nar .byte v103) (nar .byte v110) (nar .byte v117) (nar .byte v124)) (own_rd (nar .byte v131) (nar .byte v138) (nar .byte v145) (nar .byte v152))) = q0)) : False := by
  exact hc163 (own_rdl_ok q0 v103 v110 v117 v124 v131 v138 v145 v152 hv103 hv110 hv117 hv124 hv131 hv138 hv145 hv152)
set_option maxRecDepth 65536 in
set_option maxHeartbeats 40000000 in
theorem own_leaf0_4 (q0 : Int64) (v164 : Int32) (hv164 : v164 = ((((q0.toUInt64 >>> ((56 : Int32) &&& 0x3f).toInt64.toUInt64).toInt64).toInt32).toInt8.toInt32)) (v171 : Int32) (hv171 : v171 = ((((q0.toUInt64 >>> ((48 : Int32) &&& 0x3f).toInt64.toUInt64).toInt64).toInt32).toInt8.toInt32)) (v178 : Int32) (hv178 : v178 = ((((q0.toUInt64 >>> ((40 : Int32) &&& 0x3f).toInt64.toUInt64).toInt64).toInt32).toInt8.toInt32)) (v185 : Int32) (hv185 : v185 = ((((q0.toUInt64 >>> ((32 : Int32) &&& 0x3f).toInt64.toUInt64).toInt64).toInt32).toInt8.toInt32)) (v192 : Int32) (hv192 : v192 = ((((q0.toUInt64 >>> ((24 : Int32) &&& 0x3f).toInt64.toUInt64).toInt64).toInt32).toInt8.toInt32)) (v199 : Int32) (hv199 : v199 = ((((q0.toUInt64 >>> ((16 : Int32) &&& 0x3f).toInt64.toUInt64).toInt64).toInt32).toInt8.toInt32)) (v206 : Int32) (hv206 : v206 = ((((q0.toUInt64 >>> ((8 : Int32) &&& 0x3f).toInt64.toUInt64).toInt64).toInt32).toInt8.toInt32)) (v213 : Int32) (hv213 : v213 = ((q0.toInt32).toInt8.toInt32)) (hc224 : ¬ ((own_rdl (own_rd (nar .byte v164) (nar .byte v171) (nar .byte v178) (nar .byte v185)) (own_rd (nar .byte v192) (nar .byte v199) (nar .byte v206) (nar .byte v213))) = q0)) : False := by
  exact hc224 (own_rdl_ok q0 v164 v171 v178 v185 v192 v199 v206 v213 hv164 hv171 hv178 hv185 hv192 hv199 hv206 hv213)
set_option maxRecDepth 65536 in
set_option maxHeartbeats 40000000 in
theorem own_leaf0_6 (q0 : Int64) (v225 : Int32) (hv225 : v225 = ((((q0.toUInt64 >>> ((56 : Int32) &&& 0x3f).toInt64.toUInt64).toInt64).toInt32).toInt8.toInt32)) (v232 : Int32) (hv232 : v232 = ((((q0.toUInt64 >>> ((48 : Int32) &&& 0x3f).toInt64.toUInt64).toInt64).toInt32).toInt8.toInt32)) (v239 : Int32) (hv239 : v239 = ((((q0.toUInt64 >>> ((40 : Int32) &&& 0x3f).toInt64.toUInt64).toInt64).toInt32).toInt8.toInt32)) (v246 : Int32) (hv246 : v246 = ((((q0.toUInt64 >>> ((32 : Int32) &&& 0x3f).toInt64.toUInt64).toInt64).toInt32).toInt8.toInt32)) (v253 : Int32) (hv253 : v253 = ((((q0.toUInt64 >>> ((24 : Int32) &&& 0x3f).toInt64.toUInt64).toInt64).toInt32).toInt8.toInt32)) (v260 : Int32) (hv260 : v260 = ((((q0.toUInt64 >>> ((16 : Int32) &&& 0x3f).toInt64.toUInt64).toInt64).toInt32).toInt8.toInt32)) (v267 : Int32) (hv267 : v267 = ((((q0.toUInt64 >>> ((8 : Int32) &&& 0x3f).toInt64.toUInt64).toInt64).toInt32).toInt8.toInt32)) (v274 : Int32) (hv274 : v274 = ((q0.toInt32).toInt8.toInt32)) (hc285 : ¬ ((own_rdl (own_rd (nar .byte v225) (nar .byte v232) (nar .byte v239) (nar .byte v246)) (own_rd (nar .byte v253) (nar .byte v260) (nar .byte v267) (nar .byte v274))) = q0)) : False := by
  exact hc285 (own_rdl_ok q0 v225 v232 v239 v246 v253 v260 v267 v274 hv225 hv232 hv239 hv246 hv253 hv260 hv267 hv274)
set_option maxRecDepth 65536 in
set_option maxHeartbeats 40000000 in
theorem own_leaf0_8 (q0 : Int64) (v286 : Int32) (hv286 : v286 = ((((q0.toUInt64 >>> ((56 : Int32) &&& 0x3f).toInt64.toUInt64).toInt64).toInt32).toInt8.toInt32)) (v293 : Int32) (hv293 : v293 = ((((q0.toUInt64 >>> ((48 : Int32) &&& 0x3f).toInt64.toUInt64).toInt64).toInt32).toInt8.toInt32)) (v300 : Int32) (hv300 : v300 = ((((q0.toUInt64 >>> ((40 : Int32) &&& 0x3f).toInt64.toUInt64).toInt64).toInt32).toInt8.toInt32)) (v307 : Int32) (hv307 : v307 = ((((q0.toUInt64 >>> ((32 : Int32) &&& 0x3f).toInt64.toUInt64).toInt64).toInt32).toInt8.toInt32)) (v314 : Int32) (hv314 : v314 = ((((q0.toUInt64 >>> ((24 : Int32) &&& 0x3f).toInt64.toUInt64).toInt64).toInt32).toInt8.toInt32)) (v321 : Int32) (hv321 : v321 = ((((q0.toUInt64 >>> ((16 : Int32) &&& 0x3f).toInt64.toUInt64).toInt64).toInt32).toInt8.toInt32)) (v328 : Int32) (hv328 : v328 = ((((q0.toUInt64 >>> ((8 : Int32) &&& 0x3f).toInt64.toUInt64).toInt64).toInt32).toInt8.toInt32)) (v335 : Int32) (hv335 : v335 = ((q0.toInt32).toInt8.toInt32)) (hc346 : ¬ ((own_rdl (own_rd (nar .byte v286) (nar .byte v293) (nar .byte v300) (nar .byte v307)) (own_rd (nar .byte v314) (nar .byte v321) (nar .byte v328) (nar .byte v335))) = q0)) : False := by
  exact hc346 (own_rdl_ok q0 v286 v293 v300 v307 v314 v321 v328 v335 hv286 hv293 hv300 hv307 hv314 hv321 hv328 hv335)
theorem own_pn53 : plainName "com/example/all1/all1/EncodingReadLongPinLaw" = true := by first | (simp [plainName, overriddenIn]; done) | decide +kernel
theorem own_ef0 (m : MethodId) (q0 : Int64) (p1 : Int32) (q2 : Int64) (p3 : Int32) : entryFrame m #[(.long q0), (.int p1), (.long q2), (.int p3)] maxLocals = mkF m 0 #[.val (.long q0), .second, .val (.int p1), .val (.long q2), .second, .val (.int p3), .unset, .unset] [] := by first | (simp [entryFrame, mkF, argsToLocals, Value.category, maxLocals]; done) | rfl
def own_Q0 (Z : State) (q0 : Int64) (p1 : Int32) (q2 : Int64) (p3 : Int32) (h0 : Heap) (n0 : Nat) (v : Option Value) (h : Heap) (L : List Loc) : Prop := v = some (.int 1) ∧ Fr n0 L
set_option maxRecDepth 65536 in
set_option maxHeartbeats 40000000 in
theorem own_rm0 (l : Launch) (Z : State) (av : Array Value) (hw : ∀ d ∈ tables_1, d.before av Z = true) (ws : List Jvm.Cond) (q0 : Int64) (p1 : Int32) (q2 : Int64) (p3 : Int32) (h0 : Heap) (n0 : Nat) (Z0 : n0 ≤ h0.size) :
    MetFree l x (head1 (Jvm.Cond.code x code maxLocals ret :: ws) room_1) (fun a U => a = #[(.long q0), (.int p1), (.long q2), (.int p3)] ∧ Z.Warmed39 U.vm ∧ U.heap = h0) (fun _ _ _ _ _ => True) (fun _ U o U' => ∃ v L, o = .returned v ∧ own_Q0 Z q0 p1 q2 p3 h0 n0 v U'.heap L ∧ FrameEnd U o U' L room_1.cells room_1.slots) := by
  refine MetFree.of_bodySF (plainFor_of_name own_pn53) hisR ?_
  intro p e s m args below meth c s₁ Bd hml0 hP hK
  obtain ⟨rfl, hZ, hh⟩ := hP
  have hx := Bd.exec
  have hby := Bd.bytes
  have hml : c.maxLocals = 8 := hml0
  have hown : s.vm.findClass "com/example/all1/all1/EncodingReadLongPinLaw" = some m.cls := findClass_of_methodNamed Bd.named
  have hnm := (name_of_methodNamed Bd.named Bd.method).1
  have X0 : Stand p l e room_1 s m #[(.long q0), (.int p1), (.long q2), (.int p3)] below meth c s₁ [] 0 0 := Stand.of_body Bd
  have e0 : s₁.heap = h0 := by rw [← hh, Bd.state]; rfl
  have N0 := Fr.nil n0
  have pre0 : ∀ t, Steps p.tables e below (s₁.setTop (mkF m 0 #[.val (.long q0), .second, .val (.int p1), .val (.long q2), .second, .val (.int p3), .unset, .unset] [])) t → Steps p.tables e below (s₁.setTop (entryFrame m #[(.long q0), (.int p1), (.long q2), (.int p3)] maxLocals)) t := fun t k => castTop (own_ef0 m q0 p1 q2 p3) k
  obtain ⟨v11, hv11⟩ : ∃ z : Int32, z = (p1 &&& (3 : Int32)) := ⟨_, rfl⟩
  obtain ⟨T12, h12, k12, X12, e12, E12, A12, st12⟩ := newP X0 hx hZ (hw _ (List.mem_of_getElem? (i := 0) rfl)) e0 (g := (mkF m 7 #[.val (.long q0), .second, .val (.int p1), .val (.long q2), .second, .val (.int p3), .val (.int v11), .unset] [(.int (12 : Int32))])) rfl (hb hby at_7) rfl (by decide) (cap := 12) (by decide) (by decide) (by decide) (by decide)
  obtain ⟨b12, g12⟩ : ∃ z, z = h0.size := ⟨_, rfl⟩
  have g_b12 : n0 ≤ b12 := Nat.le_trans Z0 (Nat.le_of_eq g12.symm)
  have sz_b12 : h0.size ≤ b12 := Nat.le_trans (Keep.refl h0 []).1 (Nat.le_of_eq g12.symm)
  rw [← g12] at A12 st12
  have z13 : n0 ≤ h12.size := Nat.le_trans Z0 E12.1
  have K14 : Keep h0 h12 [] := (Keep.refl h0 []).ext E12
  have f15 : Arv Z h12 b12 k12 .byte (12 : Int32) [(.int (0 : Int32)), (.int (0 : Int32)), (.int (0 : Int32)), (.int (0 : Int32)), (.int (0 : Int32)), (.int (0 : Int32)), (.int (0 : Int32)), (.int (0 : Int32)), (.int (0 : Int32)), (.int (0 : Int32)), (.int (0 : Int32)), (.int (0 : Int32))] (.int (0 : Int32)) := (Arv.new A12 (by decide)).pad (pad_rep [] (.int (0 : Int32)) 12)
  obtain ⟨v16, hv16⟩ : ∃ z : Int32, z = ((q2.toInt32).toInt8.toInt32) := ⟨_, rfl⟩
  obtain ⟨cl17, Ar17, q17, S17, M17, H17, G17⟩ := id f15
  have hin17 : ¬ ((0 : Int32) < 0 ∨ cl17.slots.size ≤ ((0 : Int32)).toNatClampNeg) := inb_of S17 ⟨by decide, by decide⟩
  obtain ⟨T18, h18, X18, e18, W18, st18⟩ := stB X12 hx hZ e12 Ar17 (j := (0 : Int32)) hin17 (g := (mkF m 17 #[.val (.long q0), .second, .val (.int p1), .val (.long q2), .second, .val (.int p3), .val (.int v11), .val (.ref b12)] [(.int v16), (.int (0 : Int32)), (.ref b12)])) rfl rfl (hb hby at_17)
  have K19 : Keep h0 h18 [] := K14.wr W18 (Or.inr sz_b12)
  have z20 : n0 ≤ h18.size := Nat.le_trans z13 (Keep.of_wr W18).1
  have N21 := Fr.snoc X18 N0 g_b12
  have f22 : Arv Z h18 b12 k12 .byte (12 : Int32) [(.int (nar .byte v16)), (.int (0 : Int32)), (.int (0 : Int32)), (.int (0 : Int32)), (.int (0 : Int32)), (.int (0 : Int32)), (.int (0 : Int32)), (.int (0 : Int32)), (.int (0 : Int32)), (.int (0 : Int32)), (.int (0 : Int32)), (.int (0 : Int32))] (.int (0 : Int32)) := Arv.set Ar17 q17 S17 M17 H17 G17 (fits_nar_byte _) W18 0 rfl (Nat.le_of_ble_eq_true rfl)
  obtain ⟨v23, hv23⟩ : ∃ z : Int32, z = ((((q2.toUInt64 >>> ((8 : Int32) &&& 0x3f).toInt64.toUInt64).toInt64).toInt32).toInt8.toInt32) := ⟨_, rfl⟩
  obtain ⟨cl24, Ar24, q24, S24, M24, H24, G24⟩ := id f22
  have hin24 : ¬ ((1 : Int32) < 0 ∨ cl24.slots.size ≤ ((1 : Int32)).toNatClampNeg) := inb_of S24 ⟨by decide, by decide⟩
  obtain ⟨T25, h25, X25, e25, W25, st25⟩ := stB X18 hx hZ e18 Ar24 (j := (1 : Int32)) hin24 (g := (mkF m 27 #[.val (.long q0), .second, .val (.int p1), .val (.long q2), .second, .val (.int p3), .val (.int v11), .val (.ref b12)] [(.int v23), (.int (1 : Int32)), (.ref b12)])) rfl rfl (hb hby at_27)
  have K26 : Keep h0 h25 [] := K19.wr W25 (Or.inr sz_b12)
  have z27 : n0 ≤ h25.size := Nat.le_trans z20 (Keep.of_wr W25).1
  have N28 := Fr.snoc X25 N21 g_b12
  have f29 : Arv Z h25 b12 k12 .byte (12 : Int32) [(.int (nar .byte v16)), (.int (nar .byte v23)), (.int (0 : Int32)), (.int (0 : Int32)), (.int (0 : Int32)), (.int (0 : Int32)), (.int (0 : Int32)), (.int (0 : Int32)), (.int (0 : Int32)), (.int (0 : Int32)), (.int (0 : Int32)), (.int (0 : Int32))] (.int (0 : Int32)) := Arv.set Ar24 q24 S24 M24 H24 G24 (fits_nar_byte _) W25 1 rfl (Nat.le_of_ble_eq_true rfl)
  obtain ⟨v30, hv30⟩ : ∃ z : Int32, z = ((((q2.toUInt64 >>> ((16 : Int32) &&& 0x3f).toInt64.toUInt64).toInt64).toInt32).toInt8.toInt32) := ⟨_, rfl⟩
  obtain ⟨cl31, Ar31, q31, S31, M31, H31, G31⟩ := id f29
  have hin31 : ¬ ((2 : Int32) < 0 ∨ cl31.slots.size ≤ ((2 : Int32)).toNatClampNeg) := inb_of S31 ⟨by decide, by decide⟩
  obtain ⟨T32, h32, X32, e32, W32, st32⟩ := stB X25 hx hZ e25 Ar31 (j := (2 : Int32)) hin31 (g := (mkF m 37 #[.val (.long q0), .second, .val (.int p1), .val (.long q2), .second, .val (.int p3), .val (.int v11), .val (.ref b12)] [(.int v30), (.int (2 : Int32)), (.ref b12)])) rfl rfl (hb hby at_37)
  have K33 : Keep h0 h32 [] := K26.wr W32 (Or.inr sz_b12)
  have z34 : n0 ≤ h32.size := Nat.le_trans z27 (Keep.of_wr W32).1
  have N35 := Fr.snoc X32 N28 g_b12
  have f36 : Arv Z h32 b12 k12 .byte (12 : Int32) [(.int (nar .byte v16)), (.int (nar .byte v23)), (.int (nar .byte v30)), (.int (0 : Int32)), (.int (0 : Int32)), (.int (0 : Int32)), (.int (0 : Int32)), (.int (0 : Int32)), (.int (0 : Int32)), (.int (0 : Int32)), (.int (0 : Int32)), (.int (0 : Int32))] (.int (0 : Int32)) := Arv.set Ar31 q31 S31 M31 H31 G31 (fits_nar_byte _) W32 2 rfl (Nat.le_of_ble_eq_true rfl)
  obtain ⟨v37, hv37⟩ : ∃ z : Int32, z = ((((q2.toUInt64 >>> ((24 : Int32) &&& 0x3f).toInt64.toUInt64).toInt64).toInt32).toInt8.toInt32) := ⟨_, rfl⟩
  obtain ⟨cl38, Ar38, q38, S38, M38, H38, G38⟩ := id f36
  have hin38 : ¬ ((3 : Int32) < 0 ∨ cl38.slots.size ≤ ((3 : Int32)).toNatClampNeg) := inb_of S38 ⟨by decide, by decide⟩
  obtain ⟨T39, h39, X39, e39, W39, st39⟩ := stB X32 hx hZ e32 Ar38 (j := (3 : Int32)) hin38 (g := (mkF m 47 #[.val (.long q0), .second, .val (.int p1), .val (.long q2), .second, .val (.int p3), .val (.int v11), .val (.ref b12)] [(.int v37), (.int (3 : Int32)), (.ref b12)])) rfl rfl (hb hby at_47)
  have K40 : Keep h0 h39 [] := K33.wr W39 (Or.inr sz_b12)
  have z41 : n0 ≤ h39.size := Nat.le_trans z34 (Keep.of_wr W39).1
  have N42 := Fr.snoc X39 N35 g_b12
  have f43 : Arv Z h39 b12 k12 .byte (12 : Int32) [(.int (nar .byte v16)), (.int (nar .byte v23)), (.int (nar .byte v30)), (.int (nar .byte v37)), (.int (0 : Int32)), (.int (0 : Int32)), (.int (0 : Int32)), (.int (0 : Int32)), (.int (0 : Int32)), (.int (0 : Int32)), (.int (0 : Int32)), (.int (0 : Int32))] (.int (0 : Int32)) := Arv.set Ar38 q38 S38 M38 H38 G38 (fits_nar_byte _) W39 3 rfl (Nat.le_of_ble_eq_true rfl)
  obtain ⟨v44, hv44⟩ : ∃ z : Int32, z = ((((q2.toUInt64 >>> ((32 : Int32) &&& 0x3f).toInt64.toUInt64).toInt64).toInt32).toInt8.toInt32) := ⟨_, rfl⟩
  obtain ⟨cl45, Ar45, q45, S45, M45, H45, G45⟩ := id f43
  have hin45 : ¬ ((4 : Int32) < 0 ∨ cl45.slots.size ≤ ((4 : Int32)).toNatClampNeg) := inb_of S45 ⟨by decide, by decide⟩
  obtain ⟨T46, h46, X46, e46, W46, st46⟩ := stB X39 hx hZ e39 Ar45 (j := (4 : Int32)) hin45 (g := (mkF m 57 #[.val (.long q0), .second, .val (.int p1), .val (.long q2), .second, .val (.int p3), .val (.int v11), .val (.ref b12)] [(.int v44), (.int (4 : Int32)), (.ref b12)])) rfl rfl (hb hby at_57)
  have K47 : Keep h0 h46 [] := K40.wr W46 (Or.inr sz_b12)
  have z48 : n0 ≤ h46.size := Nat.le_trans z41 (Keep.of_wr W46).1
  have N49 := Fr.snoc X46 N42 g_b12
  have f50 : Arv Z h46 b12 k12 .byte (12 : Int32) [(.int (nar .byte v16)), (.int (nar .byte v23)), (.int (nar .byte v30)), (.int (nar .byte v37)), (.int (nar .byte v44)), (.int (0 : Int32)), (.int (0 : Int32)), (.int (0 : Int32)), (.int (0 : Int32)), (.int (0 : Int32)), (.int (0 : Int32)), (.int (0 : Int32))] (.int (0 : Int32)) := Arv.set Ar45 q45 S45 M45 H45 G45 (fits_nar_byte _) W46 4 rfl (Nat.le_of_ble_eq_true rfl)
  obtain ⟨v51, hv51⟩ : ∃ z : Int32, z = ((((q2.toUInt64 >>> ((40 : Int32) &&& 0x3f).toInt64.toUInt64).toInt64).toInt32).toInt8.toInt32) := ⟨_, rfl⟩
  obtain ⟨cl52, Ar52, q52, S52, M52, H52, G52⟩ := id f50
  have hin52 : ¬ ((5 : Int32) < 0 ∨ cl52.slots.size ≤ ((5 : Int32)).toNatClampNeg) := inb_of S52 ⟨by decide, by decide⟩
  obtain ⟨T53, h53, X53, e53, W53, st53⟩ := stB X46 hx hZ e46 Ar52 (j := (5 : Int32)) hin52 (g := (mkF m 67 #[.val (.long q0), .second, .val (.int p1), .val (.long q2), .second, .val (.int p3), .val (.int v11), .val (.ref b12)] [(.int v51), (.int (5 : Int32)), (.ref b12)])) rfl rfl (hb hby at_67)
  have K54 : Keep h0 h53 [] := K47.wr W53 (Or.inr sz_b12)
  have z55 : n0 ≤ h53.size := Nat.le_trans z48 (Keep.of_wr W53).1
  have N56 := Fr.snoc X53 N49 g_b12
  have f57 : Arv Z h53 b12 k12 .byte (12 : Int32) [(.int (nar .byte v16)), (.int (nar .byte v23)), (.int (nar .byte v30)), (.int (nar .byte v37)), (.int (nar .byte v44)), (.int (nar .byte v51)), (.int (0 : Int32)), (.int (0 : Int32)), (.int (0 : Int32)), (.int (0 : Int32)), (.int (0 : Int32)), (.int (0 : Int32))] (.int (0 : Int32)) := Arv.set Ar52 q52 S52 M52 H52 G52 (fits_nar_byte _) W53 5 rfl (Nat.le_of_ble_eq_true rfl)
  obtain ⟨v58, hv58⟩ : ∃ z : Int32, z = ((((q2.toUInt64 >>> ((48 : Int32) &&& 0x3f).toInt64.toUInt64).toInt64).toInt32).toInt8.toInt32) := ⟨_, rfl⟩
  obtain ⟨cl59, Ar59, q59, S59, M59, H59, G59⟩ := id f57
  have hin59 : ¬ ((6 : Int32) < 0 ∨ cl59.slots.size ≤ ((6 : Int32)).toNatClampNeg) := inb_of S59 ⟨by decide, by decide⟩
  obtain ⟨T60, h60, X60, e60, W60, st60⟩ := stB X53 hx hZ e53 Ar59 (j := (6 : Int32)) hin59 (g := (mkF m 78 #[.val (.long q0), .second, .val (.int p1), .val (.long q2), .second, .val (.int p3), .val (.int v11), .val (.ref b12)] [(.int v58), (.int (6 : Int32)), (.ref b12)])) rfl rfl (hb hby at_78)
  have K61 : Keep h0 h60 [] := K54.wr W60 (Or.inr sz_b12)
  have z62 : n0 ≤ h60.size := Nat.le_trans z55 (Keep.of_wr W60).1
  have N63 := Fr.snoc X60 N56 g_b12
  have f64 : Arv Z h60 b12 k12 .byte (12 : Int32) [(.int (nar .byte v16)), (.int (nar .byte v23)), (.int (nar .byte v30)), (.int (nar .byte v37)), (.int (nar .byte v44)), (.int (nar .byte v51)), (.int (nar .byte v58)), (.int (0 : Int32)), (.int (0 : Int32)), (.int (0 : Int32)), (.int (0 : Int32)), (.int (0 : Int32))] (.int (0 : Int32)) := Arv.set Ar59 q59 S59 M59 H59 G59 (fits_nar_byte _) W60 6 rfl (Nat.le_of_ble_eq_true rfl)
  obtain ⟨v65, hv65⟩ : ∃ z : Int32, z = ((((q2.toUInt64 >>> ((56 : Int32) &&& 0x3f).toInt64.toUInt64).toInt64).toInt32).toInt8.toInt32) := ⟨_, rfl⟩
  obtain ⟨cl66, Ar66, q66, S66, M66, H66, G66⟩ := id f64
  have hin66 : ¬ ((7 : Int32) < 0 ∨ cl66.slots.size ≤ ((7 : Int32)).toNatClampNeg) := inb_of S66 ⟨by decide, by decide⟩
  obtain ⟨T67, h67, X67, e67, W67, st67⟩ := stB X60 hx hZ e60 Ar66 (j := (7 : Int32)) hin66 (g := (mkF m 89 #[.val (.long q0), .second, .val (.int p1), .val (.long q2), .second, .val (.int p3), .val (.int v11), .val (.ref b12)] [(.int v65), (.int (7 : Int32)), (.ref b12)])) rfl rfl (hb hby at_89)
  have K68 : Keep h0 h67 [] := K61.wr W67 (Or.inr sz_b12)
  have z69 : n0 ≤ h67.size := Nat.le_trans z62 (Keep.of_wr W67).1
  have N70 := Fr.snoc X67 N63 g_b12
  have f71 : Arv Z h67 b12 k12 .byte (12 : Int32) [(.int (nar .byte v16)), (.int (nar .byte v23)), (.int (nar .byte v30)), (.int (nar .byte v37)), (.int (nar .byte v44)), (.int (nar .byte v51)), (.int (nar .byte v58)), (.int (nar .byte v65)), (.int (0 : Int32)), (.int (0 : Int32)), (.int (0 : Int32)), (.int (0 : Int32))] (.int (0 : Int32)) := Arv.set Ar66 q66 S66 M66 H66 G66 (fits_nar_byte _) W67 7 rfl (Nat.le_of_ble_eq_true rfl)
  obtain ⟨v72, hv72⟩ : ∃ z : Int32, z = (p3.toInt8.toInt32) := ⟨_, rfl⟩
  obtain ⟨cl73, Ar73, q73, S73, M73, H73, G73⟩ := id f71
  have hin73 : ¬ ((8 : Int32) < 0 ∨ cl73.slots.size ≤ ((8 : Int32)).toNatClampNeg) := inb_of S73 ⟨by decide, by decide⟩
  obtain ⟨T74, h74, X74, e74, W74, st74⟩ := stB X67 hx hZ e67 Ar73 (j := (8 : Int32)) hin73 (g := (mkF m 97 #[.val (.long q0), .second, .val (.int p1), .val (.long q2), .second, .val (.int p3), .val (.int v11), .val (.ref b12)] [(.int v72), (.int (8 : Int32)), (.ref b12)])) rfl rfl (hb hby at_97)
  have K75 : Keep h0 h74 [] := K68.wr W74 (Or.inr sz_b12)
  have z76 : n0 ≤ h74.size := Nat.le_trans z69 (Keep.of_wr W74).1
  have N77 := Fr.snoc X74 N70 g_b12
  have f78 : Arv Z h74 b12 k12 .byte (12 : Int32) [(.int (nar .byte v16)), (.int (nar .byte v23)), (.int (nar .byte v30)), (.int (nar .byte v37)), (.int (nar .byte v44)), (.int (nar .byte v51)), (.int (nar .byte v58)), (.int (nar .byte v65)), (.int (nar .byte v72)), (.int (0 : Int32)), (.int (0 : Int32)), (.int (0 : Int32))] (.int (0 : Int32)) := Arv.set Ar73 q73 S73 M73 H73 G73 (fits_nar_byte _) W74 8 rfl (Nat.le_of_ble_eq_true rfl)
  obtain ⟨v79, hv79⟩ : ∃ z : Int32, z = (((p3.toUInt32 >>> ((8 : Int32) &&& 31).toUInt32).toInt32).toInt8.toInt32) := ⟨_, rfl⟩
  obtain ⟨cl80, Ar80, q80, S80, M80, H80, G80⟩ := id f78
  have hin80 : ¬ ((9 : Int32) < 0 ∨ cl80.slots.size ≤ ((9 : Int32)).toNatClampNeg) := inb_of S80 ⟨by decide, by decide⟩
  obtain ⟨T81, h81, X81, e81, W81, st81⟩ := stB X74 hx hZ e74 Ar80 (j := (9 : Int32)) hin80 (g := (mkF m 108 #[.val (.long q0), .second, .val (.int p1), .val (.long q2), .second, .val (.int p3), .val (.int v11), .val (.ref b12)] [(.int v79), (.int (9 : Int32)), (.ref b12)])) rfl rfl (hb hby at_108)
  have K82 : Keep h0 h81 [] := K75.wr W81 (Or.inr sz_b12)
  have z83 : n0 ≤ h81.size := Nat.le_trans z76 (Keep.of_wr W81).1
  have N84 := Fr.snoc X81 N77 g_b12
  have f85 : Arv Z h81 b12 k12 .byte (12 : Int32) [(.int (nar .byte v16)), (.int (nar .byte v23)), (.int (nar .byte v30)), (.int (nar .byte v37)), (.int (nar .byte v44)), (.int (nar .byte v51)), (.int (nar .byte v58)), (.int (nar .byte v65)), (.int (nar .byte v72)), (.int (nar .byte v79)), (.int (0 : Int32)), (.int (0 : Int32))] (.int (0 : Int32)) := Arv.set Ar80 q80 S80 M80 H80 G80 (fits_nar_byte _) W81 9 rfl (Nat.le_of_ble_eq_true rfl)
  obtain ⟨v86, hv86⟩ : ∃ z : Int32, z = (((p3.toUInt32 >>> ((16 : Int32) &&& 31).toUInt32).toInt32).toInt8.toInt32) := ⟨_, rfl⟩
  obtain ⟨cl87, Ar87, q87, S87, M87, H87, G87⟩ := id f85
  have hin87 : ¬ ((10 : Int32) < 0 ∨ cl87.slots.size ≤ ((10 : Int32)).toNatClampNeg) := inb_of S87 ⟨by decide, by decide⟩
  obtain ⟨T88, h88, X88, e88, W88, st88⟩ := stB X81 hx hZ e81 Ar87 (j := (10 : Int32)) hin87 (g := (mkF m 119 #[.val (.long q0), .second, .val (.int p1), .val (.long q2), .second, .val (.int p3), .val (.int v11), .val (.ref b12)] [(.int v86), (.int (10 : Int32)), (.ref b12)])) rfl rfl (hb hby at_119)
  have K89 : Keep h0 h88 [] := K82.wr W88 (Or.inr sz_b12)
  have z90 : n0 ≤ h88.size := Nat.le_trans z83 (Keep.of_wr W88).1
  have N91 := Fr.snoc X88 N84 g_b12
  have f92 : Arv Z h88 b12 k12 .byte (12 : Int32) [(.int (nar .byte v16)), (.int (nar .byte v23)), (.int (nar .byte v30)), (.int (nar .byte v37)), (.int (nar .byte v44)), (.int (nar .byte v51)), (.int (nar .byte v58)), (.int (nar .byte v65)), (.int (nar .byte v72)), (.int (nar .byte v79)), (.int (nar .byte v86)), (.int (0 : Int32))] (.int (0 : Int32)) := Arv.set Ar87 q87 S87 M87 H87 G87 (fits_nar_byte _) W88 10 rfl (Nat.le_of_ble_eq_true rfl)
  obtain ⟨v93, hv93⟩ : ∃ z : Int32, z = (((p3.toUInt32 >>> ((24 : Int32) &&& 31).toUInt32).toInt32).toInt8.toInt32) := ⟨_, rfl⟩
  obtain ⟨cl94, Ar94, q94, S94, M94, H94, G94⟩ := id f92
  have hin94 : ¬ ((11 : Int32) < 0 ∨ cl94.slots.size ≤ ((11 : Int32)).toNatClampNeg) := inb_of S94 ⟨by decide, by decide⟩
  obtain ⟨T95, h95, X95, e95, W95, st95⟩ := stB X88 hx hZ e88 Ar94 (j := (11 : Int32)) hin94 (g := (mkF m 130 #[.val (.long q0), .second, .val (.int p1), .val (.long q2), .second, .val (.int p3), .val (.int v11), .val (.ref b12)] [(.int v93), (.int (11 : Int32)), (.ref b12)])) rfl rfl (hb hby at_130)
  have K96 : Keep h0 h95 [] := K89.wr W95 (Or.inr sz_b12)
  have z97 : n0 ≤ h95.size := Nat.le_trans z90 (Keep.of_wr W95).1
  have N98 := Fr.snoc X95 N91 g_b12
  have f99 : Arv Z h95 b12 k12 .byte (12 : Int32) [(.int (nar .byte v16)), (.int (nar .byte v23)), (.int (nar .byte v30)), (.int (nar .byte v37)), (.int (nar .byte v44)), (.int (nar .byte v51)), (.int (nar .byte v58)), (.int (nar .byte v65)), (.int (nar .byte v72)), (.int (nar .byte v79)), (.int (nar .byte v86)), (.int (nar .byte v93))] (.int (0 : Int32)) := Arv.set Ar94 q94 S94 M94 H94 G94 (fits_nar_byte _) W95 11 rfl (Nat.le_of_ble_eq_true rfl)
  have pre101 : ∀ t, Steps p.tables e below (T95.setTop (mkF m 131 #[.val (.long q0), .second, .val (.int p1), .val (.long q2), .second, .val (.int p3), .val (.int v11), .val (.ref b12)] [])) t → Steps p.tables e below (s₁.setTop (entryFrame m #[(.long q0), (.int p1), (.long q2), (.int p3)] maxLocals)) t := fun t kk => pre0 t (by
    show Steps p.tables e below (s₁.setTop (mkF m 0 #[.val (.long q0), .second, .val (.int p1), .val (.long q2), .second, .val (.int p3), .unset, .unset] [])) _
    refine XS.iloadN X0.here hx rfl (hb hby at_0) rfl ?_
    show Steps p.tables e below (s₁.setTop (mkF m 1 #[.val (.long q0), .second, .val (.int p1), .val (.long q2), .second, .val (.int p3), .unset, .unset] [(.int p1)])) _
    refine XS.iconst X0.here hx rfl (hb hby at_1) ?_
    show Steps p.tables e below (s₁.setTop (mkF m 2 #[.val (.long q0), .second, .val (.int p1), .val (.long q2), .second, .val (.int p3), .unset, .unset] [(.int (3 : Int32)), (.int p1)])) _
    refine XS.iand X0.here hx rfl (hb hby at_2) rfl ?_
    show Steps p.tables e below (s₁.setTop (mkF m 3 #[.val (.long q0), .second, .val (.int p1), .val (.long q2), .second, .val (.int p3), .unset, .unset] [(.int (p1 &&& (3 : Int32)))])) _
    refine castTop (congrArg (fun z : Int32 => mkF m 3 #[.val (.long q0), .second, .val (.int p1), .val (.long q2), .second, .val (.int p3), .unset, .unset] [(.int z)]) hv11.symm) ?_
    show Steps p.tables e below (s₁.setTop (mkF m 3 #[.val (.long q0), .second, .val (.int p1), .val (.long q2), .second, .val (.int p3), .unset, .unset] [(.int v11)])) _
    refine XS.istore X0.here hx rfl (hb hby at_3) rfl (l' := #[.val (.long q0), .second, .val (.int p1), .val (.long q2), .second, .val (.int p3), .val (.int v11), .unset]) rfl ?_
    show Steps p.tables e below (s₁.setTop (mkF m 5 #[.val (.long q0), .second, .val (.int p1), .val (.long q2), .second, .val (.int p3), .val (.int v11), .unset] [])) _
    refine XS.bipush X0.here hx rfl (hb hby at_5) ?_
    show Steps p.tables e below (s₁.setTop (mkF m 7 #[.val (.long q0), .second, .val (.int p1), .val (.long q2), .second, .val (.int p3), .val (.int v11), .unset] [(.int (12 : Int32))])) _
    refine st12 _ ?_
    show Steps p.tables e below (T12.setTop (mkF m 9 #[.val (.long q0), .second, .val (.int p1), .val (.long q2), .second, .val (.int p3), .val (.int v11), .unset] [(.ref b12)])) _
    refine XS.astore X12.here hx rfl (hb hby at_9) rfl rfl (l' := #[.val (.long q0), .second, .val (.int p1), .val (.long q2), .second, .val (.int p3), .val (.int v11), .val (.ref b12)]) rfl ?_
    show Steps p.tables e below (T12.setTop (mkF m 11 #[.val (.long q0), .second, .val (.int p1), .val (.long q2), .second, .val (.int p3), .val (.int v11), .val (.ref b12)] [])) _
    refine XS.aload X12.here hx rfl (hb hby at_11) rfl rfl ?_
    show Steps p.tables e below (T12.setTop (mkF m 13 #[.val (.long q0), .second, .val (.int p1), .val (.long q2), .second, .val (.int p3), .val (.int v11), .val (.ref b12)] [(.ref b12)])) _
    refine XS.iconst X12.here hx rfl (hb hby at_13) ?_
    show Steps p.tables e below (T12.setTop (mkF m 14 #[.val (.long q0), .second, .val (.int p1), .val (.long q2), .second, .val (.int p3), .val (.int v11), .val (.ref b12)] [(.int (0 : Int32)), (.ref b12)])) _
    refine XS.lloadN X12.here hx rfl (hb hby at_14) rfl ?_
    show Steps p.tables e below (T12.setTop (mkF m 15 #[.val (.long q0), .second, .val (.int p1), .val (.long q2), .second, .val (.int p3), .val (.int v11), .val (.ref b12)] [(.long q2), (.int (0 : Int32)), (.ref b12)])) _
    refine XS.l2i X12.here hx rfl (hb hby at_15) rfl ?_
    show Steps p.tables e below (T12.setTop (mkF m 16 #[.val (.long q0), .second, .val (.int p1), .val (.long q2), .second, .val (.int p3), .val (.int v11), .val (.ref b12)] [(.int (q2.toInt32)), (.int (0 : Int32)), (.ref b12)])) _
    refine XS.i2b X12.here hx rfl (hb hby at_16) rfl ?_
    show Steps p.tables e below (T12.setTop (mkF m 17 #[.val (.long q0), .second, .val (.int p1), .val (.long q2), .second, .val (.int p3), .val (.int v11), .val (.ref b12)] [(.int ((q2.toInt32).toInt8.toInt32)), (.int (0 : Int32)), (.ref b12)])) _
    show Steps p.tables e below (T12.setTop (mkF m 17 #[.val (.long q0), .second, .val (.int p1), .val (.long q2), .second, .val (.int p3), .val (.int v11), .val (.ref b12)] [(.int ((q2.toInt32).toInt8.toInt32)), (.int (0 : Int32)), (.ref b12)])) _
    refine castTop (congrArg (fun z : Int32 => mkF m 17 #[.val (.long q0), .second, .val (.int p1), .val (.long q2), .second, .val (.int p3), .val (.int v11), .val (.ref b12)] [(.int z), (.int (0 : Int32)), (.ref b12)]) hv16.symm) ?_
    refine st18 _ ?_
    show Steps p.tables e below (T18.setTop (mkF m 18 #[.val (.long q0), .second, .val (.int p1), .val (.long q2), .second, .val (.int p3), .val (.int v11), .val (.ref b12)] [])) _
    refine XS.aload X18.here hx rfl (hb hby at_18) rfl rfl ?_
    show Steps p.tables e below (T18.setTop (mkF m 20 #[.val (.long q0), .second, .val (.int p1), .val (.long q2), .second, .val (.int p3), .val (.int v11), .val (.ref b12)] [(.ref b12)])) _
    refine XS.iconst X18.here hx rfl (hb hby at_20) ?_
    show Steps p.tables e below (T18.setTop (mkF m 21 #[.val (.long q0), .second, .val (.int p1), .val (.long q2), .second, .val (.int p3), .val (.int v11), .val (.ref b12)] [(.int (1 : Int32)), (.ref b12)])) _
    refine XS.lloadN X18.here hx rfl (hb hby at_21) rfl ?_
    show Steps p.tables e below (T18.setTop (mkF m 22 #[.val (.long q0), .second, .val (.int p1), .val (.long q2), .second, .val (.int p3), .val (.int v11), .val (.ref b12)] [(.long q2), (.int (1 : Int32)), (.ref b12)])) _
    refine XS.bipush X18.here hx rfl (hb hby at_22) ?_
    show Steps p.tables e below (T18.setTop (mkF m 24 #[.val (.long q0), .second, .val (.int p1), .val (.long q2), .second, .val (.int p3), .val (.int v11), .val (.ref b12)] [(.int (8 : Int32)), (.long q2), (.int (1 : Int32)), (.ref b12)])) _
    refine XS.lushr X18.here hx rfl (hb hby at_24) rfl ?_
    show Steps p.tables e below (T18.setTop (mkF m 25 #[.val (.long q0), .second, .val (.int p1), .val (.long q2), .second, .val (.int p3), .val (.int v11), .val (.ref b12)] [(.long ((q2.toUInt64 >>> ((8 : Int32) &&& 0x3f).toInt64.toUInt64).toInt64)), (.int (1 : Int32)), (.ref b12)])) _
    refine XS.l2i X18.here hx rfl (hb hby at_25) rfl ?_
    show Steps p.tables e below (T18.setTop (mkF m 26 #[.val (.long q0), .second, .val (.int p1), .val (.long q2), .second, .val (.int p3), .val (.int v11), .val (.ref b12)] [(.int (((q2.toUInt64 >>> ((8 : Int32) &&& 0x3f).toInt64.toUInt64).toInt64).toInt32)), (.int (1 : Int32)), (.ref b12)])) _
    refine XS.i2b X18.here hx rfl (hb hby at_26) rfl ?_
    show Steps p.tables e below (T18.setTop (mkF m 27 #[.val (.long q0), .second, .val (.int p1), .val (.long q2), .second, .val (.int p3), .val (.int v11), .val (.ref b12)] [(.int ((((q2.toUInt64 >>> ((8 : Int32) &&& 0x3f).toInt64.toUInt64).toInt64).toInt32).toInt8.toInt32)), (.int (1 : Int32)), (.ref b12)])) _
    show Steps p.tables e below (T18.setTop (mkF m 27 #[.val (.long q0), .second, .val (.int p1), .val (.long q2), .second, .val (.int p3), .val (.int v11), .val (.ref b12)] [(.int ((((q2.toUInt64 >>> ((8 : Int32) &&& 0x3f).toInt64.toUInt64).toInt64).toInt32).toInt8.toInt32)), (.int (1 : Int32)), (.ref b12)])) _
    refine castTop (congrArg (fun z : Int32 => mkF m 27 #[.val (.long q0), .second, .val (.int p1), .val (.long q2), .second, .val (.int p3), .val (.int v11), .val (.ref b12)] [(.int z), (.int (1 : Int32)), (.ref b12)]) hv23.symm) ?_
    refine st25 _ ?_
    show Steps p.tables e below (T25.setTop (mkF m 28 #[.val (.long q0), .second, .val (.int p1), .val (.long q2), .second, .val (.int p3), .val (.int v11), .val (.ref b12)] [])) _
    refine XS.aload X25.here hx rfl (hb hby at_28) rfl rfl ?_
    show Steps p.tables e below (T25.setTop (mkF m 30 #[.val (.long q0), .second, .val (.int p1), .val (.long q2), .second, .val (.int p3), .val (.int v11), .val (.ref b12)] [(.ref b12)])) _
    refine XS.iconst X25.here hx rfl (hb hby at_30) ?_
    show Steps p.tables e below (T25.setTop (mkF m 31 #[.val (.long q0), .second, .val (.int p1), .val (.long q2), .second, .val (.int p3), .val (.int v11), .val (.ref b12)] [(.int (2 : Int32)), (.ref b12)])) _
    refine XS.lloadN X25.here hx rfl (hb hby at_31) rfl ?_
    show Steps p.tables e below (T25.setTop (mkF m 32 #[.val (.long q0), .second, .val (.int p1), .val (.long q2), .second, .val (.int p3), .val (.int v11), .val (.ref b12)] [(.long q2), (.int (2 : Int32)), (.ref b12)])) _
    refine XS.bipush X25.here hx rfl (hb hby at_32) ?_
    show Steps p.tables e below (T25.setTop (mkF m 34 #[.val (.long q0), .second, .val (.int p1), .val (.long q2), .second, .val (.int p3), .val (.int v11), .val (.ref b12)] [(.int (16 : Int32)), (.long q2), (.int (2 : Int32)), (.ref b12)])) _
    refine XS.lushr X25.here hx rfl (hb hby at_34) rfl ?_
    show Steps p.tables e below (T25.setTop (mkF m 35 #[.val (.long q0), .second, .val (.int p1), .val (.long q2), .second, .val (.int p3), .val (.int v11), .val (.ref b12)] [(.long ((q2.toUInt64 >>> ((16 : Int32) &&& 0x3f).toInt64.toUInt64).toInt64)), (.int (2 : Int32)), (.ref b12)])) _
    refine XS.l2i X25.here hx rfl (hb hby at_35) rfl ?_
    show Steps p.tables e below (T25.setTop (mkF m 36 #[.val (.long q0), .second, .val (.int p1), .val (.long q2), .second, .val (.int p3), .val (.int v11), .val (.ref b12)] [(.int (((q2.toUInt64 >>> ((16 : Int32) &&& 0x3f).toInt64.toUInt64).toInt64).toInt32)), (.int (2 : Int32)), (.ref b12)])) _
    refine XS.i2b X25.here hx rfl (hb hby at_36) rfl ?_
    show Steps p.tables e below (T25.setTop (mkF m 37 #[.val (.long q0), .second, .val (.int p1), .val (.long q2), .second, .val (.int p3), .val (.int v11), .val (.ref b12)] [(.int ((((q2.toUInt64 >>> ((16 : Int32) &&& 0x3f).toInt64.toUInt64).toInt64).toInt32).toInt8.toInt32)), (.int (2 : Int32)), (.ref b12)])) _
    show Steps p.tables e below (T25.setTop (mkF m 37 #[.val (.long q0), .second, .val (.int p1), .val (.long q2), .second, .val (.int p3), .val (.int v11), .val (.ref b12)] [(.int ((((q2.toUInt64 >>> ((16 : Int32) &&& 0x3f).toInt64.toUInt64).toInt64).toInt32).toInt8.toInt32)), (.int (2 : Int32)), (.ref b12)])) _
    refine castTop (congrArg (fun z : Int32 => mkF m 37 #[.val (.long q0), .second, .val (.int p1), .val (.long q2), .second, .val (.int p3), .val (.int v11), .val (.ref b12)] [(.int z), (.int (2 : Int32)), (.ref b12)]) hv30.symm) ?_
    refine st32 _ ?_
    show Steps p.tables e below (T32.setTop (mkF m 38 #[.val (.long q0), .second, .val (.int p1), .val (.long q2), .second, .val (.int p3), .val (.int v11), .val (.ref b12)] [])) _
    refine XS.aload X32.here hx rfl (hb hby at_38) rfl rfl ?_
    show Steps p.tables e below (T32.setTop (mkF m 40 #[.val (.long q0), .second, .val (.int p1), .val (.long q2), .second, .val (.int p3), .val (.int v11), .val (.ref b12)] [(.ref b12)])) _
    refine XS.iconst X32.here hx rfl (hb hby at_40) ?_
    show Steps p.tables e below (T32.setTop (mkF m 41 #[.val (.long q0), .second, .val (.int p1), .val (.long q2), .second, .val (.int p3), .val (.int v11), .val (.ref b12)] [(.int (3 : Int32)), (.ref b12)])) _
    refine XS.lloadN X32.here hx rfl (hb hby at_41) rfl ?_
    show Steps p.tables e below (T32.setTop (mkF m 42 #[.val (.long q0), .second, .val (.int p1), .val (.long q2), .second, .val (.int p3), .val (.int v11), .val (.ref b12)] [(.long q2), (.int (3 : Int32)), (.ref b12)])) _
    refine XS.bipush X32.here hx rfl (hb hby at_42) ?_
    show Steps p.tables e below (T32.setTop (mkF m 44 #[.val (.long q0), .second, .val (.int p1), .val (.long q2), .second, .val (.int p3), .val (.int v11), .val (.ref b12)] [(.int (24 : Int32)), (.long q2), (.int (3 : Int32)), (.ref b12)])) _
    refine XS.lushr X32.here hx rfl (hb hby at_44) rfl ?_
    show Steps p.tables e below (T32.setTop (mkF m 45 #[.val (.long q0), .second, .val (.int p1), .val (.long q2), .second, .val (.int p3), .val (.int v11), .val (.ref b12)] [(.long ((q2.toUInt64 >>> ((24 : Int32) &&& 0x3f).toInt64.toUInt64).toInt64)), (.int (3 : Int32)), (.ref b12)])) _
    refine XS.l2i X32.here hx rfl (hb hby at_45) rfl ?_
    show Steps p.tables e below (T32.setTop (mkF m 46 #[.val (.long q0), .second, .val (.int p1), .val (.long q2), .second, .val (.int p3), .val (.int v11), .val (.ref b12)] [(.int (((q2.toUInt64 >>> ((24 : Int32) &&& 0x3f).toInt64.toUInt64).toInt64).toInt32)), (.int (3 : Int32)), (.ref b12)])) _
    refine XS.i2b X32.here hx rfl (hb hby at_46) rfl ?_
    show Steps p.tables e below (T32.setTop (mkF m 47 #[.val (.long q0), .second, .val (.int p1), .val (.long q2), .second, .val (.int p3), .val (.int v11), .val (.ref b12)] [(.int ((((q2.toUInt64 >>> ((24 : Int32) &&& 0x3f).toInt64.toUInt64).toInt64).toInt32).toInt8.toInt32)), (.int (3 : Int32)), (.ref b12)])) _
    show Steps p.tables e below (T32.setTop (mkF m 47 #[.val (.long q0), .second, .val (.int p1), .val (.long q2), .second, .val (.int p3), .val (.int v11), .val (.ref b12)] [(.int ((((q2.toUInt64 >>> ((24 : Int32) &&& 0x3f).toInt64.toUInt64).toInt64).toInt32).toInt8.toInt32)), (.int (3 : Int32)), (.ref b12)])) _
    refine castTop (congrArg (fun z : Int32 => mkF m 47 #[.val (.long q0), .second, .val (.int p1), .val (.long q2), .second, .val (.int p3), .val (.int v11), .val (.ref b12)] [(.int z), (.int (3 : Int32)), (.ref b12)]) hv37.symm) ?_
    refine st39 _ ?_
    show Steps p.tables e below (T39.setTop (mkF m 48 #[.val (.long q0), .second, .val (.int p1), .val (.long q2), .second, .val (.int p3), .val (.int v11), .val (.ref b12)] [])) _
    refine XS.aload X39.here hx rfl (hb hby at_48) rfl rfl ?_
    show Steps p.tables e below (T39.setTop (mkF m 50 #[.val (.long q0), .second, .val (.int p1), .val (.long q2), .second, .val (.int p3), .val (.int v11), .val (.ref b12)] [(.ref b12)])) _
    refine XS.iconst X39.here hx rfl (hb hby at_50) ?_
    show Steps p.tables e below (T39.setTop (mkF m 51 #[.val (.long q0), .second, .val (.int p1), .val (.long q2), .second, .val (.int p3), .val (.int v11), .val (.ref b12)] [(.int (4 : Int32)), (.ref b12)])) _
    refine XS.lloadN X39.here hx rfl (hb hby at_51) rfl ?_
    show Steps p.tables e below (T39.setTop (mkF m 52 #[.val (.long q0), .second, .val (.int p1), .val (.long q2), .second, .val (.int p3), .val (.int v11), .val (.ref b12)] [(.long q2), (.int (4 : Int32)), (.ref b12)])) _
    refine XS.bipush X39.here hx rfl (hb hby at_52) ?_
    show Steps p.tables e below (T39.setTop (mkF m 54 #[.val (.long q0), .second, .val (.int p1), .val (.long q2), .second, .val (.int p3), .val (.int v11), .val (.ref b12)] [(.int (32 : Int32)), (.long q2), (.int (4 : Int32)), (.ref b12)])) _
    refine XS.lushr X39.here hx rfl (hb hby at_54) rfl ?_
    show Steps p.tables e below (T39.setTop (mkF m 55 #[.val (.long q0), .second, .val (.int p1), .val (.long q2), .second, .val (.int p3), .val (.int v11), .val (.ref b12)] [(.long ((q2.toUInt64 >>> ((32 : Int32) &&& 0x3f).toInt64.toUInt64).toInt64)), (.int (4 : Int32)), (.ref b12)])) _
    refine XS.l2i X39.here hx rfl (hb hby at_55) rfl ?_
    show Steps p.tables e below (T39.setTop (mkF m 56 #[.val (.long q0), .second, .val (.int p1), .val (.long q2), .second, .val (.int p3), .val (.int v11), .val (.ref b12)] [(.int (((q2.toUInt64 >>> ((32 : Int32) &&& 0x3f).toInt64.toUInt64).toInt64).toInt32)), (.int (4 : Int32)), (.ref b12)])) _
    refine XS.i2b X39.here hx rfl (hb hby at_56) rfl ?_
    show Steps p.tables e below (T39.setTop (mkF m 57 #[.val (.long q0), .second, .val (.int p1), .val (.long q2), .second, .val (.int p3), .val (.int v11), .val (.ref b12)] [(.int ((((q2.toUInt64 >>> ((32 : Int32) &&& 0x3f).toInt64.toUInt64).toInt64).toInt32).toInt8.toInt32)), (.int (4 : Int32)), (.ref b12)])) _
    show Steps p.tables e below (T39.setTop (mkF m 57 #[.val (.long q0), .second, .val (.int p1), .val (.long q2), .second, .val (.int p3), .val (.int v11), .val (.ref b12)] [(.int ((((q2.toUInt64 >>> ((32 : Int32) &&& 0x3f).toInt64.toUInt64).toInt64).toInt32).toInt8.toInt32)), (.int (4 : Int32)), (.ref b12)])) _
    refine castTop (congrArg (fun z : Int32 => mkF m 57 #[.val (.long q0), .second, .val (.int p1), .val (.long q2), .second, .val (.int p3), .val (.int v11), .val (.ref b12)] [(.int z), (.int (4 : Int32)), (.ref b12)]) hv44.symm) ?_
    refine st46 _ ?_
    show Steps p.tables e below (T46.setTop (mkF m 58 #[.val (.long q0), .second, .val (.int p1), .val (.long q2), .second, .val (.int p3), .val (.int v11), .val (.ref b12)] [])) _
    refine XS.aload X46.here hx rfl (hb hby at_58) rfl rfl ?_
    show Steps p.tables e below (T46.setTop (mkF m 60 #[.val (.long q0), .second, .val (.int p1), .val (.long q2), .second, .val (.int p3), .val (.int v11), .val (.ref b12)] [(.ref b12)])) _
    refine XS.iconst X46.here hx rfl (hb hby at_60) ?_
    show Steps p.tables e below (T46.setTop (mkF m 61 #[.val (.long q0), .second, .val (.int p1), .val (.long q2), .second, .val (.int p3), .val (.int v11), .val (.ref b12)] [(.int (5 : Int32)), (.ref b12)])) _
    refine XS.lloadN X46.here hx rfl (hb hby at_61) rfl ?_
    show Steps p.tables e below (T46.setTop (mkF m 62 #[.val (.long q0), .second, .val (.int p1), .val (.long q2), .second, .val (.int p3), .val (.int v11), .val (.ref b12)] [(.long q2), (.int (5 : Int32)), (.ref b12)])) _
    refine XS.bipush X46.here hx rfl (hb hby at_62) ?_
    show Steps p.tables e below (T46.setTop (mkF m 64 #[.val (.long q0), .second, .val (.int p1), .val (.long q2), .second, .val (.int p3), .val (.int v11), .val (.ref b12)] [(.int (40 : Int32)), (.long q2), (.int (5 : Int32)), (.ref b12)])) _
    refine XS.lushr X46.here hx rfl (hb hby at_64) rfl ?_
    show Steps p.tables e below (T46.setTop (mkF m 65 #[.val (.long q0), .second, .val (.int p1), .val (.long q2), .second, .val (.int p3), .val (.int v11), .val (.ref b12)] [(.long ((q2.toUInt64 >>> ((40 : Int32) &&& 0x3f).toInt64.toUInt64).toInt64)), (.int (5 : Int32)), (.ref b12)])) _
    refine XS.l2i X46.here hx rfl (hb hby at_65) rfl ?_
    show Steps p.tables e below (T46.setTop (mkF m 66 #[.val (.long q0), .second, .val (.int p1), .val (.long q2), .second, .val (.int p3), .val (.int v11), .val (.ref b12)] [(.int (((q2.toUInt64 >>> ((40 : Int32) &&& 0x3f).toInt64.toUInt64).toInt64).toInt32)), (.int (5 : Int32)), (.ref b12)])) _
    refine XS.i2b X46.here hx rfl (hb hby at_66) rfl ?_
    show Steps p.tables e below (T46.setTop (mkF m 67 #[.val (.long q0), .second, .val (.int p1), .val (.long q2), .second, .val (.int p3), .val (.int v11), .val (.ref b12)] [(.int ((((q2.toUInt64 >>> ((40 : Int32) &&& 0x3f).toInt64.toUInt64).toInt64).toInt32).toInt8.toInt32)), (.int (5 : Int32)), (.ref b12)])) _
    show Steps p.tables e below (T46.setTop (mkF m 67 #[.val (.long q0), .second, .val (.int p1), .val (.long q2), .second, .val (.int p3), .val (.int v11), .val (.ref b12)] [(.int ((((q2.toUInt64 >>> ((40 : Int32) &&& 0x3f).toInt64.toUInt64).toInt64).toInt32).toInt8.toInt32)), (.int (5 : Int32)), (.ref b12)])) _
    refine castTop (congrArg (fun z : Int32 => mkF m 67 #[.val (.long q0), .second, .val (.int p1), .val (.long q2), .second, .val (.int p3), .val (.int v11), .val (.ref b12)] [(.int z), (.int (5 : Int32)), (.ref b12)]) hv51.symm) ?_
    refine st53 _ ?_
    show Steps p.tables e below (T53.setTop (mkF m 68 #[.val (.long q0), .second, .val (.int p1), .val (.long q2), .second, .val (.int p3), .val (.int v11), .val (.ref b12)] [])) _
    refine XS.aload X53.here hx rfl (hb hby at_68) rfl rfl ?_
    show Steps p.tables e below (T53.setTop (mkF m 70 #[.val (.long q0), .second, .val (.int p1), .val (.long q2), .second, .val (.int p3), .val (.int v11), .val (.ref b12)] [(.ref b12)])) _
    refine XS.bipush X53.here hx rfl (hb hby at_70) ?_
    show Steps p.tables e below (T53.setTop (mkF m 72 #[.val (.long q0), .second, .val (.int p1), .val (.long q2), .second, .val (.int p3), .val (.int v11), .val (.ref b12)] [(.int (6 : Int32)), (.ref b12)])) _
    refine XS.lloadN X53.here hx rfl (hb hby at_72) rfl ?_
    show Steps p.tables e below (T53.setTop (mkF m 73 #[.val (.long q0), .second, .val (.int p1), .val (.long q2), .second, .val (.int p3), .val (.int v11), .val (.ref b12)] [(.long q2), (.int (6 : Int32)), (.ref b12)])) _
    refine XS.bipush X53.here hx rfl (hb hby at_73) ?_
    show Steps p.tables e below (T53.setTop (mkF m 75 #[.val (.long q0), .second, .val (.int p1), .val (.long q2), .second, .val (.int p3), .val (.int v11), .val (.ref b12)] [(.int (48 : Int32)), (.long q2), (.int (6 : Int32)), (.ref b12)])) _
    refine XS.lushr X53.here hx rfl (hb hby at_75) rfl ?_
    show Steps p.tables e below (T53.setTop (mkF m 76 #[.val (.long q0), .second, .val (.int p1), .val (.long q2), .second, .val (.int p3), .val (.int v11), .val (.ref b12)] [(.long ((q2.toUInt64 >>> ((48 : Int32) &&& 0x3f).toInt64.toUInt64).toInt64)), (.int (6 : Int32)), (.ref b12)])) _
    refine XS.l2i X53.here hx rfl (hb hby at_76) rfl ?_
    show Steps p.tables e below (T53.setTop (mkF m 77 #[.val (.long q0), .second, .val (.int p1), .val (.long q2), .second, .val (.int p3), .val (.int v11), .val (.ref b12)] [(.int (((q2.toUInt64 >>> ((48 : Int32) &&& 0x3f).toInt64.toUInt64).toInt64).toInt32)), (.int (6 : Int32)), (.ref b12)])) _
    refine XS.i2b X53.here hx rfl (hb hby at_77) rfl ?_
    show Steps p.tables e below (T53.setTop (mkF m 78 #[.val (.long q0), .second, .val (.int p1), .val (.long q2), .second, .val (.int p3), .val (.int v11), .val (.ref b12)] [(.int ((((q2.toUInt64 >>> ((48 : Int32) &&& 0x3f).toInt64.toUInt64).toInt64).toInt32).toInt8.toInt32)), (.int (6 : Int32)), (.ref b12)])) _
    show Steps p.tables e below (T53.setTop (mkF m 78 #[.val (.long q0), .second, .val (.int p1), .val (.long q2), .second, .val (.int p3), .val (.int v11), .val (.ref b12)] [(.int ((((q2.toUInt64 >>> ((48 : Int32) &&& 0x3f).toInt64.toUInt64).toInt64).toInt32).toInt8.toInt32)), (.int (6 : Int32)), (.ref b12)])) _
    refine castTop (congrArg (fun z : Int32 => mkF m 78 #[.val (.long q0), .second, .val (.int p1), .val (.long q2), .second, .val (.int p3), .val (.int v11), .val (.ref b12)] [(.int z), (.int (6 : Int32)), (.ref b12)]) hv58.symm) ?_
    refine st60 _ ?_
    show Steps p.tables e below (T60.setTop (mkF m 79 #[.val (.long q0), .second, .val (.int p1), .val (.long q2), .second, .val (.int p3), .val (.int v11), .val (.ref b12)] [])) _
    refine XS.aload X60.here hx rfl (hb hby at_79) rfl rfl ?_
    show Steps p.tables e below (T60.setTop (mkF m 81 #[.val (.long q0), .second, .val (.int p1), .val (.long q2), .second, .val (.int p3), .val (.int v11), .val (.ref b12)] [(.ref b12)])) _
    refine XS.bipush X60.here hx rfl (hb hby at_81) ?_
    show Steps p.tables e below (T60.setTop (mkF m 83 #[.val (.long q0), .second, .val (.int p1), .val (.long q2), .second, .val (.int p3), .val (.int v11), .val (.ref b12)] [(.int (7 : Int32)), (.ref b12)])) _
    refine XS.lloadN X60.here hx rfl (hb hby at_83) rfl ?_
    show Steps p.tables e below (T60.setTop (mkF m 84 #[.val (.long q0), .second, .val (.int p1), .val (.long q2), .second, .val (.int p3), .val (.int v11), .val (.ref b12)] [(.long q2), (.int (7 : Int32)), (.ref b12)])) _
    refine XS.bipush X60.here hx rfl (hb hby at_84) ?_
    show Steps p.tables e below (T60.setTop (mkF m 86 #[.val (.long q0), .second, .val (.int p1), .val (.long q2), .second, .val (.int p3), .val (.int v11), .val (.ref b12)] [(.int (56 : Int32)), (.long q2), (.int (7 : Int32)), (.ref b12)])) _
    refine XS.lushr X60.here hx rfl (hb hby at_86) rfl ?_
    show Steps p.tables e below (T60.setTop (mkF m 87 #[.val (.long q0), .second, .val (.int p1), .val (.long q2), .second, .val (.int p3), .val (.int v11), .val (.ref b12)] [(.long ((q2.toUInt64 >>> ((56 : Int32) &&& 0x3f).toInt64.toUInt64).toInt64)), (.int (7 : Int32)), (.ref b12)])) _
    refine XS.l2i X60.here hx rfl (hb hby at_87) rfl ?_
    show Steps p.tables e below (T60.setTop (mkF m 88 #[.val (.long q0), .second, .val (.int p1), .val (.long q2), .second, .val (.int p3), .val (.int v11), .val (.ref b12)] [(.int (((q2.toUInt64 >>> ((56 : Int32) &&& 0x3f).toInt64.toUInt64).toInt64).toInt32)), (.int (7 : Int32)), (.ref b12)])) _
    refine XS.i2b X60.here hx rfl (hb hby at_88) rfl ?_
    show Steps p.tables e below (T60.setTop (mkF m 89 #[.val (.long q0), .second, .val (.int p1), .val (.long q2), .second, .val (.int p3), .val (.int v11), .val (.ref b12)] [(.int ((((q2.toUInt64 >>> ((56 : Int32) &&& 0x3f).toInt64.toUInt64).toInt64).toInt32).toInt8.toInt32)), (.int (7 : Int32)), (.ref b12)])) _
    show Steps p.tables e below (T60.setTop (mkF m 89 #[.val (.long q0), .second, .val (.int p1), .val (.long q2), .second, .val (.int p3), .val (.int v11), .val (.ref b12)] [(.int ((((q2.toUInt64 >>> ((56 : Int32) &&& 0x3f).toInt64.toUInt64).toInt64).toInt32).toInt8.toInt32)), (.int (7 : Int32)), (.ref b12)])) _
    refine castTop (congrArg (fun z : Int32 => mkF m 89 #[.val (.long q0), .second, .val (.int p1), .val (.long q2), .second, .val (.int p3), .val (.int v11), .val (.ref b12)] [(.int z), (.int (7 : Int32)), (.ref b12)]) hv65.symm) ?_
    refine st67 _ ?_
    show Steps p.tables e below (T67.setTop (mkF m 90 #[.val (.long q0), .second, .val (.int p1), .val (.long q2), .second, .val (.int p3), .val (.int v11), .val (.ref b12)] [])) _
    refine XS.aload X67.here hx rfl (hb hby at_90) rfl rfl ?_
    show Steps p.tables e below (T67.setTop (mkF m 92 #[.val (.long q0), .second, .val (.int p1), .val (.long q2), .second, .val (.int p3), .val (.int v11), .val (.ref b12)] [(.ref b12)])) _
    refine XS.bipush X67.here hx rfl (hb hby at_92) ?_
    show Steps p.tables e below (T67.setTop (mkF m 94 #[.val (.long q0), .second, .val (.int p1), .val (.long q2), .second, .val (.int p3), .val (.int v11), .val (.ref b12)] [(.int (8 : Int32)), (.ref b12)])) _
    refine XS.iload X67.here hx rfl (hb hby at_94) rfl ?_
    show Steps p.tables e below (T67.setTop (mkF m 96 #[.val (.long q0), .second, .val (.int p1), .val (.long q2), .second, .val (.int p3), .val (.int v11), .val (.ref b12)] [(.int p3), (.int (8 : Int32)), (.ref b12)])) _
    refine XS.i2b X67.here hx rfl (hb hby at_96) rfl ?_
    show Steps p.tables e below (T67.setTop (mkF m 97 #[.val (.long q0), .second, .val (.int p1), .val (.long q2), .second, .val (.int p3), .val (.int v11), .val (.ref b12)] [(.int (p3.toInt8.toInt32)), (.int (8 : Int32)), (.ref b12)])) _
    show Steps p.tables e below (T67.setTop (mkF m 97 #[.val (.long q0), .second, .val (.int p1), .val (.long q2), .second, .val (.int p3), .val (.int v11), .val (.ref b12)] [(.int (p3.toInt8.toInt32)), (.int (8 : Int32)), (.ref b12)])) _
    refine castTop (congrArg (fun z : Int32 => mkF m 97 #[.val (.long q0), .second, .val (.int p1), .val (.long q2), .second, .val (.int p3), .val (.int v11), .val (.ref b12)] [(.int z), (.int (8 : Int32)), (.ref b12)]) hv72.symm) ?_
    refine st74 _ ?_
    show Steps p.tables e below (T74.setTop (mkF m 98 #[.val (.long q0), .second, .val (.int p1), .val (.long q2), .second, .val (.int p3), .val (.int v11), .val (.ref b12)] [])) _
    refine XS.aload X74.here hx rfl (hb hby at_98) rfl rfl ?_
    show Steps p.tables e below (T74.setTop (mkF m 100 #[.val (.long q0), .second, .val (.int p1), .val (.long q2), .second, .val (.int p3), .val (.int v11), .val (.ref b12)] [(.ref b12)])) _
    refine XS.bipush X74.here hx rfl (hb hby at_100) ?_
    show Steps p.tables e below (T74.setTop (mkF m 102 #[.val (.long q0), .second, .val (.int p1), .val (.long q2), .second, .val (.int p3), .val (.int v11), .val (.ref b12)] [(.int (9 : Int32)), (.ref b12)])) _
    refine XS.iload X74.here hx rfl (hb hby at_102) rfl ?_
    show Steps p.tables e below (T74.setTop (mkF m 104 #[.val (.long q0), .second, .val (.int p1), .val (.long q2), .second, .val (.int p3), .val (.int v11), .val (.ref b12)] [(.int p3), (.int (9 : Int32)), (.ref b12)])) _
    refine XS.bipush X74.here hx rfl (hb hby at_104) ?_
    show Steps p.tables e below (T74.setTop (mkF m 106 #[.val (.long q0), .second, .val (.int p1), .val (.long q2), .second, .val (.int p3), .val (.int v11), .val (.ref b12)] [(.int (8 : Int32)), (.int p3), (.int (9 : Int32)), (.ref b12)])) _
    refine XS.iushr X74.here hx rfl (hb hby at_106) rfl ?_
    show Steps p.tables e below (T74.setTop (mkF m 107 #[.val (.long q0), .second, .val (.int p1), .val (.long q2), .second, .val (.int p3), .val (.int v11), .val (.ref b12)] [(.int ((p3.toUInt32 >>> ((8 : Int32) &&& 31).toUInt32).toInt32)), (.int (9 : Int32)), (.ref b12)])) _
    refine XS.i2b X74.here hx rfl (hb hby at_107) rfl ?_
    show Steps p.tables e below (T74.setTop (mkF m 108 #[.val (.long q0), .second, .val (.int p1), .val (.long q2), .second, .val (.int p3), .val (.int v11), .val (.ref b12)] [(.int (((p3.toUInt32 >>> ((8 : Int32) &&& 31).toUInt32).toInt32).toInt8.toInt32)), (.int (9 : Int32)), (.ref b12)])) _
    show Steps p.tables e below (T74.setTop (mkF m 108 #[.val (.long q0), .second, .val (.int p1), .val (.long q2), .second, .val (.int p3), .val (.int v11), .val (.ref b12)] [(.int (((p3.toUInt32 >>> ((8 : Int32) &&& 31).toUInt32).toInt32).toInt8.toInt32)), (.int (9 : Int32)), (.ref b12)])) _
    refine castTop (congrArg (fun z : Int32 => mkF m 108 #[.val (.long q0), .second, .val (.int p1), .val (.long q2), .second, .val (.int p3), .val (.int v11), .val (.ref b12)] [(.int z), (.int (9 : Int32)), (.ref b12)]) hv79.symm) ?_
    refine st81 _ ?_
    show Steps p.tables e below (T81.setTop (mkF m 109 #[.val (.long q0), .second, .val (.int p1), .val (.long q2), .second, .val (.int p3), .val (.int v11), .val (.ref b12)] [])) _
    refine XS.aload X81.here hx rfl (hb hby at_109) rfl rfl ?_
    show Steps p.tables e below (T81.setTop (mkF m 111 #[.val (.long q0), .second, .val (.int p1), .val (.long q2), .second, .val (.int p3), .val (.int v11), .val (.ref b12)] [(.ref b12)])) _
    refine XS.bipush X81.here hx rfl (hb hby at_111) ?_
    show Steps p.tables e below (T81.setTop (mkF m 113 #[.val (.long q0), .second, .val (.int p1), .val (.long q2), .second, .val (.int p3), .val (.int v11), .val (.ref b12)] [(.int (10 : Int32)), (.ref b12)])) _
    refine XS.iload X81.here hx rfl (hb hby at_113) rfl ?_
    show Steps p.tables e below (T81.setTop (mkF m 115 #[.val (.long q0), .second, .val (.int p1), .val (.long q2), .second, .val (.int p3), .val (.int v11), .val (.ref b12)] [(.int p3), (.int (10 : Int32)), (.ref b12)])) _
    refine XS.bipush X81.here hx rfl (hb hby at_115) ?_
    show Steps p.tables e below (T81.setTop (mkF m 117 #[.val (.long q0), .second, .val (.int p1), .val (.long q2), .second, .val (.int p3), .val (.int v11), .val (.ref b12)] [(.int (16 : Int32)), (.int p3), (.int (10 : Int32)), (.ref b12)])) _
    refine XS.iushr X81.here hx rfl (hb hby at_117) rfl ?_
    show Steps p.tables e below (T81.setTop (mkF m 118 #[.val (.long q0), .second, .val (.int p1), .val (.long q2), .second, .val (.int p3), .val (.int v11), .val (.ref b12)] [(.int ((p3.toUInt32 >>> ((16 : Int32) &&& 31).toUInt32).toInt32)), (.int (10 : Int32)), (.ref b12)])) _
    refine XS.i2b X81.here hx rfl (hb hby at_118) rfl ?_
    show Steps p.tables e below (T81.setTop (mkF m 119 #[.val (.long q0), .second, .val (.int p1), .val (.long q2), .second, .val (.int p3), .val (.int v11), .val (.ref b12)] [(.int (((p3.toUInt32 >>> ((16 : Int32) &&& 31).toUInt32).toInt32).toInt8.toInt32)), (.int (10 : Int32)), (.ref b12)])) _
    show Steps p.tables e below (T81.setTop (mkF m 119 #[.val (.long q0), .second, .val (.int p1), .val (.long q2), .second, .val (.int p3), .val (.int v11), .val (.ref b12)] [(.int (((p3.toUInt32 >>> ((16 : Int32) &&& 31).toUInt32).toInt32).toInt8.toInt32)), (.int (10 : Int32)), (.ref b12)])) _
    refine castTop (congrArg (fun z : Int32 => mkF m 119 #[.val (.long q0), .second, .val (.int p1), .val (.long q2), .second, .val (.int p3), .val (.int v11), .val (.ref b12)] [(.int z), (.int (10 : Int32)), (.ref b12)]) hv86.symm) ?_
    refine st88 _ ?_
    show Steps p.tables e below (T88.setTop (mkF m 120 #[.val (.long q0), .second, .val (.int p1), .val (.long q2), .second, .val (.int p3), .val (.int v11), .val (.ref b12)] [])) _
    refine XS.aload X88.here hx rfl (hb hby at_120) rfl rfl ?_
    show Steps p.tables e below (T88.setTop (mkF m 122 #[.val (.long q0), .second, .val (.int p1), .val (.long q2), .second, .val (.int p3), .val (.int v11), .val (.ref b12)] [(.ref b12)])) _
    refine XS.bipush X88.here hx rfl (hb hby at_122) ?_
    show Steps p.tables e below (T88.setTop (mkF m 124 #[.val (.long q0), .second, .val (.int p1), .val (.long q2), .second, .val (.int p3), .val (.int v11), .val (.ref b12)] [(.int (11 : Int32)), (.ref b12)])) _
    refine XS.iload X88.here hx rfl (hb hby at_124) rfl ?_
    show Steps p.tables e below (T88.setTop (mkF m 126 #[.val (.long q0), .second, .val (.int p1), .val (.long q2), .second, .val (.int p3), .val (.int v11), .val (.ref b12)] [(.int p3), (.int (11 : Int32)), (.ref b12)])) _
    refine XS.bipush X88.here hx rfl (hb hby at_126) ?_
    show Steps p.tables e below (T88.setTop (mkF m 128 #[.val (.long q0), .second, .val (.int p1), .val (.long q2), .second, .val (.int p3), .val (.int v11), .val (.ref b12)] [(.int (24 : Int32)), (.int p3), (.int (11 : Int32)), (.ref b12)])) _
    refine XS.iushr X88.here hx rfl (hb hby at_128) rfl ?_
    show Steps p.tables e below (T88.setTop (mkF m 129 #[.val (.long q0), .second, .val (.int p1), .val (.long q2), .second, .val (.int p3), .val (.int v11), .val (.ref b12)] [(.int ((p3.toUInt32 >>> ((24 : Int32) &&& 31).toUInt32).toInt32)), (.int (11 : Int32)), (.ref b12)])) _
    refine XS.i2b X88.here hx rfl (hb hby at_129) rfl ?_
    show Steps p.tables e below (T88.setTop (mkF m 130 #[.val (.long q0), .second, .val (.int p1), .val (.long q2), .second, .val (.int p3), .val (.int v11), .val (.ref b12)] [(.int (((p3.toUInt32 >>> ((24 : Int32) &&& 31).toUInt32).toInt32).toInt8.toInt32)), (.int (11 : Int32)), (.ref b12)])) _
    show Steps p.tables e below (T88.setTop (mkF m 130 #[.val (.long q0), .second, .val (.int p1), .val (.long q2), .second, .val (.int p3), .val (.int v11), .val (.ref b12)] [(.int (((p3.toUInt32 >>> ((24 : Int32) &&& 31).toUInt32).toInt32).toInt8.toInt32)), (.int (11 : Int32)), (.ref b12)])) _
    refine castTop (congrArg (fun z : Int32 => mkF m 130 #[.val (.long q0), .second, .val (.int p1), .val (.long q2), .second, .val (.int p3), .val (.int v11), .val (.ref b12)] [(.int z), (.int (11 : Int32)), (.ref b12)]) hv93.symm) ?_
    refine st95 _ ?_
    exact kk)
  rcases (own_side100 p1 v11 hv11) with hs102 | hs102 | hs102 | hs102
  · subst hs102
    obtain ⟨v103, hv103⟩ : ∃ z : Int32, z = ((((q0.toUInt64 >>> ((56 : Int32) &&& 0x3f).toInt64.toUInt64).toInt64).toInt32).toInt8.toInt32) := ⟨_, rfl⟩
    obtain ⟨cl104, Ar104, q104, S104, M104, H104, G104⟩ := id f99
    have hin104 : ¬ ((0 : Int32) < 0 ∨ cl104.slots.size ≤ ((0 : Int32)).toNatClampNeg) := inb_of S104 ⟨by decide, by decide⟩
    obtain ⟨T105, h105, X105, e105, W105, st105⟩ := stB X95 hx hZ e95 Ar104 (j := (0 : Int32)) hin104 (g := (mkF m 141 #[.val (.long q0), .second, .val (.int p1), .val (.long q2), .second, .val (.int p3), .val (.int (0 : Int32)), .val (.ref b12)] [(.int v103), (.int (0 : Int32)), (.ref b12)])) rfl rfl (hb hby at_141)
    have K106 : Keep h0 h105 [] := K96.wr W105 (Or.inr sz_b12)
    have z107 : n0 ≤ h105.size := Nat.le_trans z97 (Keep.of_wr W105).1
    have N108 := Fr.snoc X105 N98 g_b12
    have f109 : Arv Z h105 b12 k12 .byte (12 : Int32) [(.int (nar .byte v103)), (.int (nar .byte v23)), (.int (nar .byte v30)), (.int (nar .byte v37)), (.int (nar .byte v44)), (.int (nar .byte v51)), (.int (nar .byte v58)), (.int (nar .byte v65)), (.int (nar .byte v72)), (.int (nar .byte v79)), (.int (nar .byte v86)), (.int (nar .byte v93))] (.int (0 : Int32)) := Arv.set Ar104 q104 S104 M104 H104 G104 (fits_nar_byte _) W105 0 rfl (Nat.le_of_ble_eq_true rfl)
    obtain ⟨v110, hv110⟩ : ∃ z : Int32, z = ((((q0.toUInt64 >>> ((48 : Int32) &&& 0x3f).toInt64.toUInt64).toInt64).toInt32).toInt8.toInt32) := ⟨_, rfl⟩
    obtain ⟨cl111, Ar111, q111, S111, M111, H111, G111⟩ := id f109
    have hin111 : ¬ ((1 : Int32) < 0 ∨ cl111.slots.size ≤ ((1 : Int32)).toNatClampNeg) := inb_of S111 ⟨by decide, by decide⟩
    obtain ⟨T112, h112, X112, e112, W112, st112⟩ := stB X105 hx hZ e105 Ar111 (j := (1 : Int32)) hin111 (g := (mkF m 154 #[.val (.long q0), .second, .val (.int p1), .val (.long q2), .second, .val (.int p3), .val (.int (0 : Int32)), .val (.ref b12)] [(.int v110), (.int (1 : Int32)), (.ref b12)])) rfl rfl (hb hby at_154)
    have K113 : Keep h0 h112 [] := K106.wr W112 (Or.inr sz_b12)
    have z114 : n0 ≤ h112.size := Nat.le_trans z107 (Keep.of_wr W112).1
    have N115 := Fr.snoc X112 N108 g_b12
    have f116 : Arv Z h112 b12 k12 .byte (12 : Int32) [(.int (nar .byte v103)), (.int (nar .byte v110)), (.int (nar .byte v30)), (.int (nar .byte v37)), (.int (nar .byte v44)), (.int (nar .byte v51)), (.int (nar .byte v58)), (.int (nar .byte v65)), (.int (nar .byte v72)), (.int (nar .byte v79)), (.int (nar .byte v86)), (.int (nar .byte v93))] (.int (0 : Int32)) := Arv.set Ar111 q111 S111 M111 H111 G111 (fits_nar_byte _) W112 1 rfl (Nat.le_of_ble_eq_true rfl)
    obtain ⟨v117, hv117⟩ : ∃ z : Int32, z = ((((q0.toUInt64 >>> ((40 : Int32) &&& 0x3f).toInt64.toUInt64).toInt64).toInt32).toInt8.toInt32) := ⟨_, rfl⟩
    obtain ⟨cl118, Ar118, q118, S118, M118, H118, G118⟩ := id f116
    have hin118 : ¬ ((2 : Int32) < 0 ∨ cl118.slots.size ≤ ((2 : Int32)).toNatClampNeg) := inb_of S118 ⟨by decide, by decide⟩
    obtain ⟨T119, h119, X119, e119, W119, st119⟩ := stB X112 hx hZ e112 Ar118 (j := (2 : Int32)) hin118 (g := (mkF m 167 #[.val (.long q0), .second, .val (.int p1), .val (.long q2), .second, .val (.int p3), .val (.int (0 : Int32)), .val (.ref b12)] [(.int v117), (.int (2 : Int32)), (.ref b12)])) rfl rfl (hb hby at_167)
    have K120 : Keep h0 h119 [] := K113.wr W119 (Or.inr sz_b12)
    have z121 : n0 ≤ h119.size := Nat.le_trans z114 (Keep.of_wr W119).1
    have N122 := Fr.snoc X119 N115 g_b12
    have f123 : Arv Z h119 b12 k12 .byte (12 : Int32) [(.int (nar .byte v103)), (.int (nar .byte v110)), (.int (nar .byte v117)), (.int (nar .byte v37)), (.int (nar .byte v44)), (.int (nar .byte v51)), (.int (nar .byte v58)), (.int (nar .byte v65)), (.int (nar .byte v72)), (.int (nar .byte v79)), (.int (nar .byte v86)), (.int (nar .byte v93))] (.int (0 : Int32)) := Arv.set Ar118 q118 S118 M118 H118 G118 (fits_nar_byte _) W119 2 rfl (Nat.le_of_ble_eq_true rfl)
    obtain ⟨v124, hv124⟩ : ∃ z : Int32, z = ((((q0.toUInt64 >>> ((32 : Int32) &&& 0x3f).toInt64.toUInt64).toInt64).toInt32).toInt8.toInt32) := ⟨_, rfl⟩
    obtain ⟨cl125, Ar125, q125, S125, M125, H125, G125⟩ := id f123
    have hin125 : ¬ ((3 : Int32) < 0 ∨ cl125.slots.size ≤ ((3 : Int32)).toNatClampNeg) := inb_of S125 ⟨by decide, by decide⟩
    obtain ⟨T126, h126, X126, e126, W126, st126⟩ := stB X119 hx hZ e119 Ar125 (j := (3 : Int32)) hin125 (g := (mkF m 180 #[.val (.long q0), .second, .val (.int p1), .val (.long q2), .second, .val (.int p3), .val (.int (0 : Int32)), .val (.ref b12)] [(.int v124), (.int (3 : Int32)), (.ref b12)])) rfl rfl (hb hby at_180)
    have K127 : Keep h0 h126 [] := K120.wr W126 (Or.inr sz_b12)
    have z128 : n0 ≤ h126.size := Nat.le_trans z121 (Keep.of_wr W126).1
    have N129 := Fr.snoc X126 N122 g_b12
    have f130 : Arv Z h126 b12 k12 .byte (12 : Int32) [(.int (nar .byte v103)), (.int (nar .byte v110)), (.int (nar .byte v117)), (.int (nar .byte v124)), (.int (nar .byte v44)), (.int (nar .byte v51)), (.int (nar .byte v58)), (.int (nar .byte v65)), (.int (nar .byte v72)), (.int (nar .byte v79)), (.int (nar .byte v86)), (.int (nar .byte v93))] (.int (0 : Int32)) := Arv.set Ar125 q125 S125 M125 H125 G125 (fits_nar_byte _) W126 3 rfl (Nat.le_of_ble_eq_true rfl)
    obtain ⟨v131, hv131⟩ : ∃ z : Int32, z = ((((q0.toUInt64 >>> ((24 : Int32) &&& 0x3f).toInt64.toUInt64).toInt64).toInt32).toInt8.toInt32) := ⟨_, rfl⟩
    obtain ⟨cl132, Ar132, q132, S132, M132, H132, G132⟩ := id f130
    have hin132 : ¬ ((4 : Int32) < 0 ∨ cl132.slots.size ≤ ((4 : Int32)).toNatClampNeg) := inb_of S132 ⟨by decide, by decide⟩
    obtain ⟨T133, h133, X133, e133, W133, st133⟩ := stB X126 hx hZ e126 Ar132 (j := (4 : Int32)) hin132 (g := (mkF m 193 #[.val (.long q0), .second, .val (.int p1), .val (.long q2), .second, .val (.int p3), .val (.int (0 : Int32)), .val (.ref b12)] [(.int v131), (.int (4 : Int32)), (.ref b12)])) rfl rfl (hb hby at_193)
    have K134 : Keep h0 h133 [] := K127.wr W133 (Or.inr sz_b12)
    have z135 : n0 ≤ h133.size := Nat.le_trans z128 (Keep.of_wr W133).1
    have N136 := Fr.snoc X133 N129 g_b12
    have f137 : Arv Z h133 b12 k12 .byte (12 : Int32) [(.int (nar .byte v103)), (.int (nar .byte v110)), (.int (nar .byte v117)), (.int (nar .byte v124)), (.int (nar .byte v131)), (.int (nar .byte v51)), (.int (nar .byte v58)), (.int (nar .byte v65)), (.int (nar .byte v72)), (.int (nar .byte v79)), (.int (nar .byte v86)), (.int (nar .byte v93))] (.int (0 : Int32)) := Arv.set Ar132 q132 S132 M132 H132 G132 (fits_nar_byte _) W133 4 rfl (Nat.le_of_ble_eq_true rfl)
    obtain ⟨v138, hv138⟩ : ∃ z : Int32, z = ((((q0.toUInt64 >>> ((16 : Int32) &&& 0x3f).toInt64.toUInt64).toInt64).toInt32).toInt8.toInt32) := ⟨_, rfl⟩
    obtain ⟨cl139, Ar139, q139, S139, M139, H139, G139⟩ := id f137
    have hin139 : ¬ ((5 : Int32) < 0 ∨ cl139.slots.size ≤ ((5 : Int32)).toNatClampNeg) := inb_of S139 ⟨by decide, by decide⟩
    obtain ⟨T140, h140, X140, e140, W140, st140⟩ := stB X133 hx hZ e133 Ar139 (j := (5 : Int32)) hin139 (g := (mkF m 206 #[.val (.long q0), .second, .val (.int p1), .val (.long q2), .second, .val (.int p3), .val (.int (0 : Int32)), .val (.ref b12)] [(.int v138), (.int (5 : Int32)), (.ref b12)])) rfl rfl (hb hby at_206)
    have K141 : Keep h0 h140 [] := K134.wr W140 (Or.inr sz_b12)
    have z142 : n0 ≤ h140.size := Nat.le_trans z135 (Keep.of_wr W140).1
    have N143 := Fr.snoc X140 N136 g_b12
    have f144 : Arv Z h140 b12 k12 .byte (12 : Int32) [(.int (nar .byte v103)), (.int (nar .byte v110)), (.int (nar .byte v117)), (.int (nar .byte v124)), (.int (nar .byte v131)), (.int (nar .byte v138)), (.int (nar .byte v58)), (.int (nar .byte v65)), (.int (nar .byte v72)), (.int (nar .byte v79)), (.int (nar .byte v86)), (.int (nar .byte v93))] (.int (0 : Int32)) := Arv.set Ar139 q139 S139 M139 H139 G139 (fits_nar_byte _) W140 5 rfl (Nat.le_of_ble_eq_true rfl)
    obtain ⟨v145, hv145⟩ : ∃ z : Int32, z = ((((q0.toUInt64 >>> ((8 : Int32) &&& 0x3f).toInt64.toUInt64).toInt64).toInt32).toInt8.toInt32) := ⟨_, rfl⟩
    obtain ⟨cl146, Ar146, q146, S146, M146, H146, G146⟩ := id f144
    have hin146 : ¬ ((6 : Int32) < 0 ∨ cl146.slots.size ≤ ((6 : Int32)).toNatClampNeg) := inb_of S146 ⟨by decide, by decide⟩
    obtain ⟨T147, h147, X147, e147, W147, st147⟩ := stB X140 hx hZ e140 Ar146 (j := (6 : Int32)) hin146 (g := (mkF m 220 #[.val (.long q0), .second, .val (.int p1), .val (.long q2), .second, .val (.int p3), .val (.int (0 : Int32)), .val (.ref b12)] [(.int v145), (.int (6 : Int32)), (.ref b12)])) rfl rfl (hb hby at_220)
    have K148 : Keep h0 h147 [] := K141.wr W147 (Or.inr sz_b12)
    have z149 : n0 ≤ h147.size := Nat.le_trans z142 (Keep.of_wr W147).1
    have N150 := Fr.snoc X147 N143 g_b12
    have f151 : Arv Z h147 b12 k12 .byte (12 : Int32) [(.int (nar .byte v103)), (.int (nar .byte v110)), (.int (nar .byte v117)), (.int (nar .byte v124)), (.int (nar .byte v131)), (.int (nar .byte v138)), (.int (nar .byte v145)), (.int (nar .byte v65)), (.int (nar .byte v72)), (.int (nar .byte v79)), (.int (nar .byte v86)), (.int (nar .byte v93))] (.int (0 : Int32)) := Arv.set Ar146 q146 S146 M146 H146 G146 (fits_nar_byte _) W147 6 rfl (Nat.le_of_ble_eq_true rfl)
    obtain ⟨v152, hv152⟩ : ∃ z : Int32, z = ((q0.toInt32).toInt8.toInt32) := ⟨_, rfl⟩
    obtain ⟨cl153, Ar153, q153, S153, M153, H153, G153⟩ := id f151
    have hin153 : ¬ ((7 : Int32) < 0 ∨ cl153.slots.size ≤ ((7 : Int32)).toNatClampNeg) := inb_of S153 ⟨by decide, by decide⟩
    obtain ⟨T154, h154, X154, e154, W154, st154⟩ := stB X147 hx hZ e147 Ar153 (j := (7 : Int32)) hin153 (g := (mkF m 231 #[.val (.long q0), .second, .val (.int p1), .val (.long q2), .second, .val (.int p3), .val (.int (0 : Int32)), .val (.ref b12)] [(.int v152), (.int (7 : Int32)), (.ref b12)])) rfl rfl (hb hby at_231)
    have K155 : Keep h0 h154 [] := K148.wr W154 (Or.inr sz_b12)
    have z156 : n0 ≤ h154.size := Nat.le_trans z149 (Keep.of_wr W154).1
    have N157 := Fr.snoc X154 N150 g_b12
    have f158 : Arv Z h154 b12 k12 .byte (12 : Int32) [(.int (nar .byte v103)), (.int (nar .byte v110)), (.int (nar .byte v117)), (.int (nar .byte v124)), (.int (nar .byte v131)), (.int (nar .byte v138)), (.int (nar .byte v145)), (.int (nar .byte v152)), (.int (nar .byte v72)), (.int (nar .byte v79)), (.int (nar .byte v86)), (.int (nar .byte v93))] (.int (0 : Int32)) := Arv.set Ar153 q153 S153 M153 H153 G153 (fits_nar_byte _) W154 7 rfl (Nat.le_of_ble_eq_true rfl)
    obtain ⟨_, _, ⟨T159, L159, k159, n159⟩, -, X159, ⟨Lc159, hQ159, l159, y159, z159⟩, st159⟩ := Jvm.LawKit.callS X154 hx (y := (⟨"com/example/all1/all1/Encoding", "readLong", "([BI)J"⟩ : MethodName)) hown (mvT hZ (hw _ (List.mem_of_getElem? (i := 1) rfl))) (mvT hZ (hw _ (List.mem_of_getElem? (i := 2) rfl))) (mvT hZ (hw _ (List.mem_of_getElem? (i := 3) rfl))) (mvT hZ (hw _ (List.mem_of_getElem? (i := 4) rfl))) (by decide) (backOf (W := 0) (own_rm1 l Z av hw [] b12 (0 : Int32) (k12) ((12 : Int32)) ([(.int (nar .byte v103)), (.int (nar .byte v110)), (.int (nar .byte v117)), (.int (nar .byte v124)), (.int (nar .byte v131)), (.int (nar .byte v138)), (.int (nar .byte v145)), (.int (nar .byte v152)), (.int (nar .byte v72)), (.int (nar .byte v79)), (.int (nar .byte v86)), (.int (nar .byte v93))]) ((.int (0 : Int32))) ((nar .byte v103)) ((nar .byte v110)) ((nar .byte v117)) ((nar .byte v124)) ((nar .byte v131)) ((nar .byte v138)) ((nar .byte v145)) ((nar .byte v152)) h154 n0 z156 f158 (⟨by decide, by decide⟩) (⟨by decide, by decide⟩) (⟨by decide, by decide⟩) (⟨by decide, by decide⟩) (⟨by decide, by decide⟩) (⟨by decide, by decide⟩) (⟨by decide, by decide⟩) (⟨by decide, by decide⟩) (rfl) (rfl) (rfl) (rfl) (rfl) (rfl) (rfl) (rfl)) hZ (hw _ (List.mem_of_getElem? (i := 4) rfl)) (hw _ (List.mem_of_getElem? (i := 3) rfl)) (by decide) (by decide)) (g := (mkF m 236 #[.val (.long q0), .second, .val (.int p1), .val (.long q2), .second, .val (.int p3), .val (.int (0 : Int32)), .val (.ref b12)] [(.int (0 : Int32)), (.ref b12)])) rfl (by rw [hml]; rfl) (argsL := [(.ref b12), (.int (0 : Int32))]) (rest := []) (lenOf own_pd1 rfl) rfl (by show 2 * 0 + _ ≤ _; exact Nat.le_of_eq rfl) (hb hby at_236) (fun _ _ => ⟨rfl, e154, (by decide : 1 + 0 ≤ _), (by decide : 12 + 0 ≤ _)⟩)
    dsimp only [Pt.U, Pt.locs, Pt.cells, Pt.slots] at X159 l159 y159 z159 st159 hQ159
    subst l159 y159 z159
    obtain ⟨rfl, N159q, e161⟩ := hQ159
    have N160 := Fr.app N157 N159q
    have pre162 : ∀ t, Steps p.tables e below (T159.setTop (mkF m 241 #[.val (.long q0), .second, .val (.int p1), .val (.long q2), .second, .val (.int p3), .val (.int (0 : Int32)), .val (.ref b12)] [(.int (lcmpW (own_rdl (own_rd (nar .byte v103) (nar .byte v110) (nar .byte v117) (nar .byte v124)) (own_rd (nar .byte v131) (nar .byte v138) (nar .byte v145) (nar .byte v152))) q0))])) t → Steps p.tables e below (s₁.setTop (entryFrame m #[(.long q0), (.int p1), (.long q2), (.int p3)] maxLocals)) t := fun t kk => pre101 t (by
      show Steps p.tables e below (T95.setTop (mkF m 131 #[.val (.long q0), .second, .val (.int p1), .val (.long q2), .second, .val (.int p3), .val (.int (0 : Int32)), .val (.ref b12)] [])) _
      refine XS.aload X95.here hx rfl (hb hby at_131) rfl rfl ?_
      show Steps p.tables e below (T95.setTop (mkF m 133 #[.val (.long q0), .second, .val (.int p1), .val (.long q2), .second, .val (.int p3), .val (.int (0 : Int32)), .val (.ref b12)] [(.ref b12)])) _
      refine XS.iload X95.here hx rfl (hb hby at_133) rfl ?_
      show Steps p.tables e below (T95.setTop (mkF m 135 #[.val (.long q0), .second, .val (.int p1), .val (.long q2), .second, .val (.int p3), .val (.int (0 : Int32)), .val (.ref b12)] [(.int (0 : Int32)), (.ref b12)])) _
      refine XS.lloadN X95.here hx rfl (hb hby at_135) rfl ?_
      show Steps p.tables e below (T95.setTop (mkF m 136 #[.val (.long q0), .second, .val (.int p1), .val (.long q2), .second, .val (.int p3), .val (.int (0 : Int32)), .val (.ref b12)] [(.long q0), (.int (0 : Int32)), (.ref b12)])) _
      refine XS.bipush X95.here hx rfl (hb hby at_136) ?_
      show Steps p.tables e below (T95.setTop (mkF m 138 #[.val (.long q0), .second, .val (.int p1), .val (.long q2), .second, .val (.int p3), .val (.int (0 : Int32)), .val (.ref b12)] [(.int (56 : Int32)), (.long q0), (.int (0 : Int32)), (.ref b12)])) _
      refine XS.lushr X95.here hx rfl (hb hby at_138) rfl ?_
      show Steps p.tables e below (T95.setTop (mkF m 139 #[.val (.long q0), .second, .val (.int p1), .val (.long q2), .second, .val (.int p3), .val (.int (0 : Int32)), .val (.ref b12)] [(.long ((q0.toUInt64 >>> ((56 : Int32) &&& 0x3f).toInt64.toUInt64).toInt64)), (.int (0 : Int32)), (.ref b12)])) _
      refine XS.l2i X95.here hx rfl (hb hby at_139) rfl ?_
      show Steps p.tables e below (T95.setTop (mkF m 140 #[.val (.long q0), .second, .val (.int p1), .val (.long q2), .second, .val (.int p3), .val (.int (0 : Int32)), .val (.ref b12)] [(.int (((q0.toUInt64 >>> ((56 : Int32) &&& 0x3f).toInt64.toUInt64).toInt64).toInt32)), (.int (0 : Int32)), (.ref b12)])) _
      refine XS.i2b X95.here hx rfl (hb hby at_140) rfl ?_
      show Steps p.tables e below (T95.setTop (mkF m 141 #[.val (.long q0), .second, .val (.int p1), .val (.long q2), .second, .val (.int p3), .val (.int (0 : Int32)), .val (.ref b12)] [(.int ((((q0.toUInt64 >>> ((56 : Int32) &&& 0x3f).toInt64.toUInt64).toInt64).toInt32).toInt8.toInt32)), (.int (0 : Int32)), (.ref b12)])) _
      show Steps p.tables e below (T95.setTop (mkF m 141 #[.val (.long q0), .second, .val (.int p1), .val (.long q2), .second, .val (.int p3), .val (.int (0 : Int32)), .val (.ref b12)] [(.int ((((q0.toUInt64 >>> ((56 : Int32) &&& 0x3f).toInt64.toUInt64).toInt64).toInt32).toInt8.toInt32)), (.int (0 : Int32)), (.ref b12)])) _
      refine castTop (congrArg (fun z : Int32 => mkF m 141 #[.val (.long q0), .second, .val (.int p1), .val (.long q2), .second, .val (.int p3), .val (.int (0 : Int32)), .val (.ref b12)] [(.int z), (.int (0 : Int32)), (.ref b12)]) hv103.symm) ?_
      refine st105 _ ?_
      show Steps p.tables e below (T105.setTop (mkF m 142 #[.val (.long q0), .second, .val (.int p1), .val (.long q2), .second, .val (.int p3), .val (.int (0 : Int32)), .val (.ref b12)] [])) _
      refine XS.aload X105.here hx rfl (hb hby at_142) rfl rfl ?_
      show Steps p.tables e below (T105.setTop (mkF m 144 #[.val (.long q0), .second, .val (.int p1), .val (.long q2), .second, .val (.int p3), .val (.int (0 : Int32)), .val (.ref b12)] [(.ref b12)])) _
      refine XS.iload X105.here hx rfl (hb hby at_144) rfl ?_
      show Steps p.tables e below (T105.setTop (mkF m 146 #[.val (.long q0), .second, .val (.int p1), .val (.long q2), .second, .val (.int p3), .val (.int (0 : Int32)), .val (.ref b12)] [(.int (0 : Int32)), (.ref b12)])) _
      refine XS.iconst X105.here hx rfl (hb hby at_146) ?_
      show Steps p.tables e below (T105.setTop (mkF m 147 #[.val (.long q0), .second, .val (.int p1), .val (.long q2), .second, .val (.int p3), .val (.int (0 : Int32)), .val (.ref b12)] [(.int (1 : Int32)), (.int (0 : Int32)), (.ref b12)])) _
      refine XS.iadd X105.here hx rfl (hb hby at_147) rfl ?_
      show Steps p.tables e below (T105.setTop (mkF m 148 #[.val (.long q0), .second, .val (.int p1), .val (.long q2), .second, .val (.int p3), .val (.int (0 : Int32)), .val (.ref b12)] [(.int ((0 : Int32) + (1 : Int32))), (.ref b12)])) _
      refine castTop (congrArg (fun z : Int32 => mkF m 148 #[.val (.long q0), .second, .val (.int p1), .val (.long q2), .second, .val (.int p3), .val (.int (0 : Int32)), .val (.ref b12)] [(.int z), (.ref b12)]) (by decide : ((0 : Int32) + (1 : Int32)) = (1 : Int32))) ?_
      show Steps p.tables e below (T105.setTop (mkF m 148 #[.val (.long q0), .second, .val (.int p1), .val (.long q2), .second, .val (.int p3), .val (.int (0 : Int32)), .val (.ref b12)] [(.int (1 : Int32)), (.ref b12)])) _
      refine XS.lloadN X105.here hx rfl (hb hby at_148) rfl ?_
      show Steps p.tables e below (T105.setTop (mkF m 149 #[.val (.long q0), .second, .val (.int p1), .val (.long q2), .second, .val (.int p3), .val (.int (0 : Int32)), .val (.ref b12)] [(.long q0), (.int (1 : Int32)), (.ref b12)])) _
      refine XS.bipush X105.here hx rfl (hb hby at_149) ?_
      show Steps p.tables e below (T105.setTop (mkF m 151 #[.val (.long q0), .second, .val (.int p1), .val (.long q2), .second, .val (.int p3), .val (.int (0 : Int32)), .val (.ref b12)] [(.int (48 : Int32)), (.long q0), (.int (1 : Int32)), (.ref b12)])) _
      refine XS.lushr X105.here hx rfl (hb hby at_151) rfl ?_
      show Steps p.tables e below (T105.setTop (mkF m 152 #[.val (.long q0), .second, .val (.int p1), .val (.long q2), .second, .val (.int p3), .val (.int (0 : Int32)), .val (.ref b12)] [(.long ((q0.toUInt64 >>> ((48 : Int32) &&& 0x3f).toInt64.toUInt64).toInt64)), (.int (1 : Int32)), (.ref b12)])) _
      refine XS.l2i X105.here hx rfl (hb hby at_152) rfl ?_
      show Steps p.tables e below (T105.setTop (mkF m 153 #[.val (.long q0), .second, .val (.int p1), .val (.long q2), .second, .val (.int p3), .val (.int (0 : Int32)), .val (.ref b12)] [(.int (((q0.toUInt64 >>> ((48 : Int32) &&& 0x3f).toInt64.toUInt64).toInt64).toInt32)), (.int (1 : Int32)), (.ref b12)])) _
      refine XS.i2b X105.here hx rfl (hb hby at_153) rfl ?_
      show Steps p.tables e below (T105.setTop (mkF m 154 #[.val (.long q0), .second, .val (.int p1), .val (.long q2), .second, .val (.int p3), .val (.int (0 : Int32)), .val (.ref b12)] [(.int ((((q0.toUInt64 >>> ((48 : Int32) &&& 0x3f).toInt64.toUInt64).toInt64).toInt32).toInt8.toInt32)), (.int (1 : Int32)), (.ref b12)])) _
      show Steps p.tables e below (T105.setTop (mkF m 154 #[.val (.long q0), .second, .val (.int p1), .val (.long q2), .second, .val (.int p3), .val (.int (0 : Int32)), .val (.ref b12)] [(.int ((((q0.toUInt64 >>> ((48 : Int32) &&& 0x3f).toInt64.toUInt64).toInt64).toInt32).toInt8.toInt32)), (.int (1 : Int32)), (.ref b12)])) _
      refine castTop (congrArg (fun z : Int32 => mkF m 154 #[.val (.long q0), .second, .val (.int p1), .val (.long q2), .second, .val (.int p3), .val (.int (0 : Int32)), .val (.ref b12)] [(.int z), (.int (1 : Int32)), (.ref b12)]) hv110.symm) ?_
      refine st112 _ ?_
      show Steps p.tables e below (T112.setTop (mkF m 155 #[.val (.long q0), .second, .val (.int p1), .val (.long q2), .second, .val (.int p3), .val (.int (0 : Int32)), .val (.ref b12)] [])) _
      refine XS.aload X112.here hx rfl (hb hby at_155) rfl rfl ?_
      show Steps p.tables e below (T112.setTop (mkF m 157 #[.val (.long q0), .second, .val (.int p1), .val (.long q2), .second, .val (.int p3), .val (.int (0 : Int32)), .val (.ref b12)] [(.ref b12)])) _
      refine XS.iload X112.here hx rfl (hb hby at_157) rfl ?_
      show Steps p.tables e below (T112.setTop (mkF m 159 #[.val (.long q0), .second, .val (.int p1), .val (.long q2), .second, .val (.int p3), .val (.int (0 : Int32)), .val (.ref b12)] [(.int (0 : Int32)), (.ref b12)])) _
      refine XS.iconst X112.here hx rfl (hb hby at_159) ?_
      show Steps p.tables e below (T112.setTop (mkF m 160 #[.val (.long q0), .second, .val (.int p1), .val (.long q2), .second, .val (.int p3), .val (.int (0 : Int32)), .val (.ref b12)] [(.int (2 : Int32)), (.int (0 : Int32)), (.ref b12)])) _
      refine XS.iadd X112.here hx rfl (hb hby at_160) rfl ?_
      show Steps p.tables e below (T112.setTop (mkF m 161 #[.val (.long q0), .second, .val (.int p1), .val (.long q2), .second, .val (.int p3), .val (.int (0 : Int32)), .val (.ref b12)] [(.int ((0 : Int32) + (2 : Int32))), (.ref b12)])) _
      refine castTop (congrArg (fun z : Int32 => mkF m 161 #[.val (.long q0), .second, .val (.int p1), .val (.long q2), .second, .val (.int p3), .val (.int (0 : Int32)), .val (.ref b12)] [(.int z), (.ref b12)]) (by decide : ((0 : Int32) + (2 : Int32)) = (2 : Int32))) ?_
      show Steps p.tables e below (T112.setTop (mkF m 161 #[.val (.long q0), .second, .val (.int p1), .val (.long q2), .second, .val (.int p3), .val (.int (0 : Int32)), .val (.ref b12)] [(.int (2 : Int32)), (.ref b12)])) _
      refine XS.lloadN X112.here hx rfl (hb hby at_161) rfl ?_
      show Steps p.tables e below (T112.setTop (mkF m 162 #[.val (.long q0), .second, .val (.int p1), .val (.long q2), .second, .val (.int p3), .val (.int (0 : Int32)), .val (.ref b12)] [(.long q0), (.int (2 : Int32)), (.ref b12)])) _
      refine XS.bipush X112.here hx rfl (hb hby at_162) ?_
      show Steps p.tables e below (T112.setTop (mkF m 164 #[.val (.long q0), .second, .val (.int p1), .val (.long q2), .second, .val (.int p3), .val (.int (0 : Int32)), .val (.ref b12)] [(.int (40 : Int32)), (.long q0), (.int (2 : Int32)), (.ref b12)])) _
      refine XS.lushr X112.here hx rfl (hb hby at_164) rfl ?_
      show Steps p.tables e below (T112.setTop (mkF m 165 #[.val (.long q0), .second, .val (.int p1), .val (.long q2), .second, .val (.int p3), .val (.int (0 : Int32)), .val (.ref b12)] [(.long ((q0.toUInt64 >>> ((40 : Int32) &&& 0x3f).toInt64.toUInt64).toInt64)), (.int (2 : Int32)), (.ref b12)])) _
      refine XS.l2i X112.here hx rfl (hb hby at_165) rfl ?_
      show Steps p.tables e below (T112.setTop (mkF m 166 #[.val (.long q0), .second, .val (.int p1), .val (.long q2), .second, .val (.int p3), .val (.int (0 : Int32)), .val (.ref b12)] [(.int (((q0.toUInt64 >>> ((40 : Int32) &&& 0x3f).toInt64.toUInt64).toInt64).toInt32)), (.int (2 : Int32)), (.ref b12)])) _
      refine XS.i2b X112.here hx rfl (hb hby at_166) rfl ?_
      show Steps p.tables e below (T112.setTop (mkF m 167 #[.val (.long q0), .second, .val (.int p1), .val (.long q2), .second, .val (.int p3), .val (.int (0 : Int32)), .val (.ref b12)] [(.int ((((q0.toUInt64 >>> ((40 : Int32) &&& 0x3f).toInt64.toUInt64).toInt64).toInt32).toInt8.toInt32)), (.int (2 : Int32)), (.ref b12)])) _
      show Steps p.tables e below (T112.setTop (mkF m 167 #[.val (.long q0), .second, .val (.int p1), .val (.long q2), .second, .val (.int p3), .val (.int (0 : Int32)), .val (.ref b12)] [(.int ((((q0.toUInt64 >>> ((40 : Int32) &&& 0x3f).toInt64.toUInt64).toInt64).toInt32).toInt8.toInt32)), (.int (2 : Int32)), (.ref b12)])) _
      refine castTop (congrArg (fun z : Int32 => mkF m 167 #[.val (.long q0), .second, .val (.int p1), .val (.long q2), .second, .val (.int p3), .val (.int (0 : Int32)), .val (.ref b12)] [(.int z), (.int (2 : Int32)), (.ref b12)]) hv117.symm) ?_
      refine st119 _ ?_
      show Steps p.tables e below (T119.setTop (mkF m 168 #[.val (.long q0), .second, .val (.int p1), .val (.long q2), .second, .val (.int p3), .val (.int (0 : Int32)), .val (.ref b12)] [])) _
      refine XS.aload X119.here hx rfl (hb hby at_168) rfl rfl ?_
      show Steps p.tables e below (T119.setTop (mkF m 170 #[.val (.long q0), .second, .val (.int p1), .val (.long q2), .second, .val (.int p3), .val (.int (0 : Int32)), .val (.ref b12)] [(.ref b12)])) _
      refine XS.iload X119.here hx rfl (hb hby at_170) rfl ?_
      show Steps p.tables e below (T119.setTop (mkF m 172 #[.val (.long q0), .second, .val (.int p1), .val (.long q2), .second, .val (.int p3), .val (.int (0 : Int32)), .val (.ref b12)] [(.int (0 : Int32)), (.ref b12)])) _
      refine XS.iconst X119.here hx rfl (hb hby at_172) ?_
      show Steps p.tables e below (T119.setTop (mkF m 173 #[.val (.long q0), .second, .val (.int p1), .val (.long q2), .second, .val (.int p3), .val (.int (0 : Int32)), .val (.ref b12)] [(.int (3 : Int32)), (.int (0 : Int32)), (.ref b12)])) _
      refine XS.iadd X119.here hx rfl (hb hby at_173) rfl ?_
      show Steps p.tables e below (T119.setTop (mkF m 174 #[.val (.long q0), .second, .val (.int p1), .val (.long q2), .second, .val (.int p3), .val (.int (0 : Int32)), .val (.ref b12)] [(.int ((0 : Int32) + (3 : Int32))), (.ref b12)])) _
      refine castTop (congrArg (fun z : Int32 => mkF m 174 #[.val (.long q0), .second, .val (.int p1), .val (.long q2), .second, .val (.int p3), .val (.int (0 : Int32)), .val (.ref b12)] [(.int z), (.ref b12)]) (by decide : ((0 : Int32) + (3 : Int32)) = (3 : Int32))) ?_
      show Steps p.tables e below (T119.setTop (mkF m 174 #[.val (.long q0), .second, .val (.int p1), .val (.long q2), .second, .val (.int p3), .val (.int (0 : Int32)), .val (.ref b12)] [(.int (3 : Int32)), (.ref b12)])) _
      refine XS.lloadN X119.here hx rfl (hb hby at_174) rfl ?_
      show Steps p.tables e below (T119.setTop (mkF m 175 #[.val (.long q0), .second, .val (.int p1), .val (.long q2), .second, .val (.int p3), .val (.int (0 : Int32)), .val (.ref b12)] [(.long q0), (.int (3 : Int32)), (.ref b12)])) _
      refine XS.bipush X119.here hx rfl (hb hby at_175) ?_
      show Steps p.tables e below (T119.setTop (mkF m 177 #[.val (.long q0), .second, .val (.int p1), .val (.long q2), .second, .val (.int p3), .val (.int (0 : Int32)), .val (.ref b12)] [(.int (32 : Int32)), (.long q0), (.int (3 : Int32)), (.ref b12)])) _
      refine XS.lushr X119.here hx rfl (hb hby at_177) rfl ?_
      show Steps p.tables e below (T119.setTop (mkF m 178 #[.val (.long q0), .second, .val (.int p1), .val (.long q2), .second, .val (.int p3), .val (.int (0 : Int32)), .val (.ref b12)] [(.long ((q0.toUInt64 >>> ((32 : Int32) &&& 0x3f).toInt64.toUInt64).toInt64)), (.int (3 : Int32)), (.ref b12)])) _
      refine XS.l2i X119.here hx rfl (hb hby at_178) rfl ?_
      show Steps p.tables e below (T119.setTop (mkF m 179 #[.val (.long q0), .second, .val (.int p1), .val (.long q2), .second, .val (.int p3), .val (.int (0 : Int32)), .val (.ref b12)] [(.int (((q0.toUInt64 >>> ((32 : Int32) &&& 0x3f).toInt64.toUInt64).toInt64).toInt32)), (.int (3 : Int32)), (.ref b12)])) _
      refine XS.i2b X119.here hx rfl (hb hby at_179) rfl ?_
      show Steps p.tables e below (T119.setTop (mkF m 180 #[.val (.long q0), .second, .val (.int p1), .val (.long q2), .second, .val (.int p3), .val (.int (0 : Int32)), .val (.ref b12)] [(.int ((((q0.toUInt64 >>> ((32 : Int32) &&& 0x3f).toInt64.toUInt64).toInt64).toInt32).toInt8.toInt32)), (.int (3 : Int32)), (.ref b12)])) _
      show Steps p.tables e below (T119.setTop (mkF m 180 #[.val (.long q0), .second, .val (.int p1), .val (.long q2), .second, .val (.int p3), .val (.int (0 : Int32)), .val (.ref b12)] [(.int ((((q0.toUInt64 >>> ((32 : Int32) &&& 0x3f).toInt64.toUInt64).toInt64).toInt32).toInt8.toInt32)), (.int (3 : Int32)), (.ref b12)])) _
      refine castTop (congrArg (fun z : Int32 => mkF m 180 #[.val (.long q0), .second, .val (.int p1), .val (.long q2), .second, .val (.int p3), .val (.int (0 : Int32)), .val (.ref b12)] [(.int z), (.int (3 : Int32)), (.ref b12)]) hv124.symm) ?_
      refine st126 _ ?_
      show Steps p.tables e below (T126.setTop (mkF m 181 #[.val (.long q0), .second, .val (.int p1), .val (.long q2), .second, .val (.int p3), .val (.int (0 : Int32)), .val (.ref b12)] [])) _
      refine XS.aload X126.here hx rfl (hb hby at_181) rfl rfl ?_
      show Steps p.tables e below (T126.setTop (mkF m 183 #[.val (.long q0), .second, .val (.int p1), .val (.long q2), .second, .val (.int p3), .val (.int (0 : Int32)), .val (.ref b12)] [(.ref b12)])) _
      refine XS.iload X126.here hx rfl (hb hby at_183) rfl ?_
      show Steps p.tables e below (T126.setTop (mkF m 185 #[.val (.long q0), .second, .val (.int p1), .val (.long q2), .second, .val (.int p3), .val (.int (0 : Int32)), .val (.ref b12)] [(.int (0 : Int32)), (.ref b12)])) _
      refine XS.iconst X126.here hx rfl (hb hby at_185) ?_
      show Steps p.tables e below (T126.setTop (mkF m 186 #[.val (.long q0), .second, .val (.int p1), .val (.long q2), .second, .val (.int p3), .val (.int (0 : Int32)), .val (.ref b12)] [(.int (4 : Int32)), (.int (0 : Int32)), (.ref b12)])) _
      refine XS.iadd X126.here hx rfl (hb hby at_186) rfl ?_
      show Steps p.tables e below (T126.setTop (mkF m 187 #[.val (.long q0), .second, .val (.int p1), .val (.long q2), .second, .val (.int p3), .val (.int (0 : Int32)), .val (.ref b12)] [(.int ((0 : Int32) + (4 : Int32))), (.ref b12)])) _
      refine castTop (congrArg (fun z : Int32 => mkF m 187 #[.val (.long q0), .second, .val (.int p1), .val (.long q2), .second, .val (.int p3), .val (.int (0 : Int32)), .val (.ref b12)] [(.int z), (.ref b12)]) (by decide : ((0 : Int32) + (4 : Int32)) = (4 : Int32))) ?_
      show Steps p.tables e below (T126.setTop (mkF m 187 #[.val (.long q0), .second, .val (.int p1), .val (.long q2), .second, .val (.int p3), .val (.int (0 : Int32)), .val (.ref b12)] [(.int (4 : Int32)), (.ref b12)])) _
      refine XS.lloadN X126.here hx rfl (hb hby at_187) rfl ?_
      show Steps p.tables e below (T126.setTop (mkF m 188 #[.val (.long q0), .second, .val (.int p1), .val (.long q2), .second, .val (.int p3), .val (.int (0 : Int32)), .val (.ref b12)] [(.long q0), (.int (4 : Int32)), (.ref b12)])) _
      refine XS.bipush X126.here hx rfl (hb hby at_188) ?_
      show Steps p.tables e below (T126.setTop (mkF m 190 #[.val (.long q0), .second, .val (.int p1), .val (.long q2), .second, .val (.int p3), .val (.int (0 : Int32)), .val (.ref b12)] [(.int (24 : Int32)), (.long q0), (.int (4 : Int32)), (.ref b12)])) _
      refine XS.lushr X126.here hx rfl (hb hby at_190) rfl ?_
      show Steps p.tables e below (T126.setTop (mkF m 191 #[.val (.long q0), .second, .val (.int p1), .val (.long q2), .second, .val (.int p3), .val (.int (0 : Int32)), .val (.ref b12)] [(.long ((q0.toUInt64 >>> ((24 : Int32) &&& 0x3f).toInt64.toUInt64).toInt64)), (.int (4 : Int32)), (.ref b12)])) _
      refine XS.l2i X126.here hx rfl (hb hby at_191) rfl ?_
      show Steps p.tables e below (T126.setTop (mkF m 192 #[.val (.long q0), .second, .val (.int p1), .val (.long q2), .second, .val (.int p3), .val (.int (0 : Int32)), .val (.ref b12)] [(.int (((q0.toUInt64 >>> ((24 : Int32) &&& 0x3f).toInt64.toUInt64).toInt64).toInt32)), (.int (4 : Int32)), (.ref b12)])) _
      refine XS.i2b X126.here hx rfl (hb hby at_192) rfl ?_
      show Steps p.tables e below (T126.setTop (mkF m 193 #[.val (.long q0), .second, .val (.int p1), .val (.long q2), .second, .val (.int p3), .val (.int (0 : Int32)), .val (.ref b12)] [(.int ((((q0.toUInt64 >>> ((24 : Int32) &&& 0x3f).toInt64.toUInt64).toInt64).toInt32).toInt8.toInt32)), (.int (4 : Int32)), (.ref b12)])) _
      show Steps p.tables e below (T126.setTop (mkF m 193 #[.val (.long q0), .second, .val (.int p1), .val (.long q2), .second, .val (.int p3), .val (.int (0 : Int32)), .val (.ref b12)] [(.int ((((q0.toUInt64 >>> ((24 : Int32) &&& 0x3f).toInt64.toUInt64).toInt64).toInt32).toInt8.toInt32)), (.int (4 : Int32)), (.ref b12)])) _
      refine castTop (congrArg (fun z : Int32 => mkF m 193 #[.val (.long q0), .second, .val (.int p1), .val (.long q2), .second, .val (.int p3), .val (.int (0 : Int32)), .val (.ref b12)] [(.int z), (.int (4 : Int32)), (.ref b12)]) hv131.symm) ?_
      refine st133 _ ?_
      show Steps p.tables e below (T133.setTop (mkF m 194 #[.val (.long q0), .second, .val (.int p1), .val (.long q2), .second, .val (.int p3), .val (.int (0 : Int32)), .val (.ref b12)] [])) _
      refine XS.aload X133.here hx rfl (hb hby at_194) rfl rfl ?_
      show Steps p.tables e below (T133.setTop (mkF m 196 #[.val (.long q0), .second, .val (.int p1), .val (.long q2), .second, .val (.int p3), .val (.int (0 : Int32)), .val (.ref b12)] [(.ref b12)])) _
      refine XS.iload X133.here hx rfl (hb hby at_196) rfl ?_
      show Steps p.tables e below (T133.setTop (mkF m 198 #[.val (.long q0), .second, .val (.int p1), .val (.long q2), .second, .val (.int p3), .val (.int (0 : Int32)), .val (.ref b12)] [(.int (0 : Int32)), (.ref b12)])) _
      refine XS.iconst X133.here hx rfl (hb hby at_198) ?_
      show Steps p.tables e below (T133.setTop (mkF m 199 #[.val (.long q0), .second, .val (.int p1), .val (.long q2), .second, .val (.int p3), .val (.int (0 : Int32)), .val (.ref b12)] [(.int (5 : Int32)), (.int (0 : Int32)), (.ref b12)])) _
      refine XS.iadd X133.here hx rfl (hb hby at_199) rfl ?_
      show Steps p.tables e below (T133.setTop (mkF m 200 #[.val (.long q0), .second, .val (.int p1), .val (.long q2), .second, .val (.int p3), .val (.int (0 : Int32)), .val (.ref b12)] [(.int ((0 : Int32) + (5 : Int32))), (.ref b12)])) _
      refine castTop (congrArg (fun z : Int32 => mkF m 200 #[.val (.long q0), .second, .val (.int p1), .val (.long q2), .second, .val (.int p3), .val (.int (0 : Int32)), .val (.ref b12)] [(.int z), (.ref b12)]) (by decide : ((0 : Int32) + (5 : Int32)) = (5 : Int32))) ?_
      show Steps p.tables e below (T133.setTop (mkF m 200 #[.val (.long q0), .second, .val (.int p1), .val (.long q2), .second, .val (.int p3), .val (.int (0 : Int32)), .val (.ref b12)] [(.int (5 : Int32)), (.ref b12)])) _
      refine XS.lloadN X133.here hx rfl (hb hby at_200) rfl ?_
      show Steps p.tables e below (T133.setTop (mkF m 201 #[.val (.long q0), .second, .val (.int p1), .val (.long q2), .second, .val (.int p3), .val (.int (0 : Int32)), .val (.ref b12)] [(.long q0), (.int (5 : Int32)), (.ref b12)])) _
      refine XS.bipush X133.here hx rfl (hb hby at_201) ?_
      show Steps p.tables e below (T133.setTop (mkF m 203 #[.val (.long q0), .second, .val (.int p1), .val (.long q2), .second, .val (.int p3), .val (.int (0 : Int32)), .val (.ref b12)] [(.int (16 : Int32)), (.long q0), (.int (5 : Int32)), (.ref b12)])) _
      refine XS.lushr X133.here hx rfl (hb hby at_203) rfl ?_
      show Steps p.tables e below (T133.setTop (mkF m 204 #[.val (.long q0), .second, .val (.int p1), .val (.long q2), .second, .val (.int p3), .val (.int (0 : Int32)), .val (.ref b12)] [(.long ((q0.toUInt64 >>> ((16 : Int32) &&& 0x3f).toInt64.toUInt64).toInt64)), (.int (5 : Int32)), (.ref b12)])) _
      refine XS.l2i X133.here hx rfl (hb hby at_204) rfl ?_
      show Steps p.tables e below (T133.setTop (mkF m 205 #[.val (.long q0), .second, .val (.int p1), .val (.long q2), .second, .val (.int p3), .val (.int (0 : Int32)), .val (.ref b12)] [(.int (((q0.toUInt64 >>> ((16 : Int32) &&& 0x3f).toInt64.toUInt64).toInt64).toInt32)), (.int (5 : Int32)), (.ref b12)])) _
      refine XS.i2b X133.here hx rfl (hb hby at_205) rfl ?_
      show Steps p.tables e below (T133.setTop (mkF m 206 #[.val (.long q0), .second, .val (.int p1), .val (.long q2), .second, .val (.int p3), .val (.int (0 : Int32)), .val (.ref b12)] [(.int ((((q0.toUInt64 >>> ((16 : Int32) &&& 0x3f).toInt64.toUInt64).toInt64).toInt32).toInt8.toInt32)), (.int (5 : Int32)), (.ref b12)])) _
      show Steps p.tables e below (T133.setTop (mkF m 206 #[.val (.long q0), .second, .val (.int p1), .val (.long q2), .second, .val (.int p3), .val (.int (0 : Int32)), .val (.ref b12)] [(.int ((((q0.toUInt64 >>> ((16 : Int32) &&& 0x3f).toInt64.toUInt64).toInt64).toInt32).toInt8.toInt32)), (.int (5 : Int32)), (.ref b12)])) _
      refine castTop (congrArg (fun z : Int32 => mkF m 206 #[.val (.long q0), .second, .val (.int p1), .val (.long q2), .second, .val (.int p3), .val (.int (0 : Int32)), .val (.ref b12)] [(.int z), (.int (5 : Int32)), (.ref b12)]) hv138.symm) ?_
      refine st140 _ ?_
      show Steps p.tables e below (T140.setTop (mkF m 207 #[.val (.long q0), .second, .val (.int p1), .val (.long q2), .second, .val (.int p3), .val (.int (0 : Int32)), .val (.ref b12)] [])) _
      refine XS.aload X140.here hx rfl (hb hby at_207) rfl rfl ?_
      show Steps p.tables e below (T140.setTop (mkF m 209 #[.val (.long q0), .second, .val (.int p1), .val (.long q2), .second, .val (.int p3), .val (.int (0 : Int32)), .val (.ref b12)] [(.ref b12)])) _
      refine XS.iload X140.here hx rfl (hb hby at_209) rfl ?_
      show Steps p.tables e below (T140.setTop (mkF m 211 #[.val (.long q0), .second, .val (.int p1), .val (.long q2), .second, .val (.int p3), .val (.int (0 : Int32)), .val (.ref b12)] [(.int (0 : Int32)), (.ref b12)])) _
      refine XS.bipush X140.here hx rfl (hb hby at_211) ?_
      show Steps p.tables e below (T140.setTop (mkF m 213 #[.val (.long q0), .second, .val (.int p1), .val (.long q2), .second, .val (.int p3), .val (.int (0 : Int32)), .val (.ref b12)] [(.int (6 : Int32)), (.int (0 : Int32)), (.ref b12)])) _
      refine XS.iadd X140.here hx rfl (hb hby at_213) rfl ?_
      show Steps p.tables e below (T140.setTop (mkF m 214 #[.val (.long q0), .second, .val (.int p1), .val (.long q2), .second, .val (.int p3), .val (.int (0 : Int32)), .val (.ref b12)] [(.int ((0 : Int32) + (6 : Int32))), (.ref b12)])) _
      refine castTop (congrArg (fun z : Int32 => mkF m 214 #[.val (.long q0), .second, .val (.int p1), .val (.long q2), .second, .val (.int p3), .val (.int (0 : Int32)), .val (.ref b12)] [(.int z), (.ref b12)]) (by decide : ((0 : Int32) + (6 : Int32)) = (6 : Int32))) ?_
      show Steps p.tables e below (T140.setTop (mkF m 214 #[.val (.long q0), .second, .val (.int p1), .val (.long q2), .second, .val (.int p3), .val (.int (0 : Int32)), .val (.ref b12)] [(.int (6 : Int32)), (.ref b12)])) _
      refine XS.lloadN X140.here hx rfl (hb hby at_214) rfl ?_
      show Steps p.tables e below (T140.setTop (mkF m 215 #[.val (.long q0), .second, .val (.int p1), .val (.long q2), .second, .val (.int p3), .val (.int (0 : Int32)), .val (.ref b12)] [(.long q0), (.int (6 : Int32)), (.ref b12)])) _
      refine XS.bipush X140.here hx rfl (hb hby at_215) ?_
      show Steps p.tables e below (T140.setTop (mkF m 217 #[.val (.long q0), .second, .val (.int p1), .val (.long q2), .second, .val (.int p3), .val (.int (0 : Int32)), .val (.ref b12)] [(.int (8 : Int32)), (.long q0), (.int (6 : Int32)), (.ref b12)])) _
      refine XS.lushr X140.here hx rfl (hb hby at_217) rfl ?_
      show Steps p.tables e below (T140.setTop (mkF m 218 #[.val (.long q0), .second, .val (.int p1), .val (.long q2), .second, .val (.int p3), .val (.int (0 : Int32)), .val (.ref b12)] [(.long ((q0.toUInt64 >>> ((8 : Int32) &&& 0x3f).toInt64.toUInt64).toInt64)), (.int (6 : Int32)), (.ref b12)])) _
      refine XS.l2i X140.here hx rfl (hb hby at_218) rfl ?_
      show Steps p.tables e below (T140.setTop (mkF m 219 #[.val (.long q0), .second, .val (.int p1), .val (.long q2), .second, .val (.int p3), .val (.int (0 : Int32)), .val (.ref b12)] [(.int (((q0.toUInt64 >>> ((8 : Int32) &&& 0x3f).toInt64.toUInt64).toInt64).toInt32)), (.int (6 : Int32)), (.ref b12)])) _
      refine XS.i2b X140.here hx rfl (hb hby at_219) rfl ?_
      show Steps p.tables e below (T140.setTop (mkF m 220 #[.val (.long q0), .second, .val (.int p1), .val (.long q2), .second, .val (.int p3), .val (.int (0 : Int32)), .val (.ref b12)] [(.int ((((q0.toUInt64 >>> ((8 : Int32) &&& 0x3f).toInt64.toUInt64).toInt64).toInt32).toInt8.toInt32)), (.int (6 : Int32)), (.ref b12)])) _
      show Steps p.tables e below (T140.setTop (mkF m 220 #[.val (.long q0), .second, .val (.int p1), .val (.long q2), .second, .val (.int p3), .val (.int (0 : Int32)), .val (.ref b12)] [(.int ((((q0.toUInt64 >>> ((8 : Int32) &&& 0x3f).toInt64.toUInt64).toInt64).toInt32).toInt8.toInt32)), (.int (6 : Int32)), (.ref b12)])) _
      refine castTop (congrArg (fun z : Int32 => mkF m 220 #[.val (.long q0), .second, .val (.int p1), .val (.long q2), .second, .val (.int p3), .val (.int (0 : Int32)), .val (.ref b12)] [(.int z), (.int (6 : Int32)), (.ref b12)]) hv145.symm) ?_
      refine st147 _ ?_
      show Steps p.tables e below (T147.setTop (mkF m 221 #[.val (.long q0), .second, .val (.int p1), .val (.long q2), .second, .val (.int p3), .val (.int (0 : Int32)), .val (.ref b12)] [])) _
      refine XS.aload X147.here hx rfl (hb hby at_221) rfl rfl ?_
      show Steps p.tables e below (T147.setTop (mkF m 223 #[.val (.long q0), .second, .val (.int p1), .val (.long q2), .second, .val (.int p3), .val (.int (0 : Int32)), .val (.ref b12)] [(.ref b12)])) _
      refine XS.iload X147.here hx rfl (hb hby at_223) rfl ?_
      show Steps p.tables e below (T147.setTop (mkF m 225 #[.val (.long q0), .second, .val (.int p1), .val (.long q2), .second, .val (.int p3), .val (.int (0 : Int32)), .val (.ref b12)] [(.int (0 : Int32)), (.ref b12)])) _
      refine XS.bipush X147.here hx rfl (hb hby at_225) ?_
      show Steps p.tables e below (T147.setTop (mkF m 227 #[.val (.long q0), .second, .val (.int p1), .val (.long q2), .second, .val (.int p3), .val (.int (0 : Int32)), .val (.ref b12)] [(.int (7 : Int32)), (.int (0 : Int32)), (.ref b12)])) _
      refine XS.iadd X147.here hx rfl (hb hby at_227) rfl ?_
      show Steps p.tables e below (T147.setTop (mkF m 228 #[.val (.long q0), .second, .val (.int p1), .val (.long q2), .second, .val (.int p3), .val (.int (0 : Int32)), .val (.ref b12)] [(.int ((0 : Int32) + (7 : Int32))), (.ref b12)])) _
      refine castTop (congrArg (fun z : Int32 => mkF m 228 #[.val (.long q0), .second, .val (.int p1), .val (.long q2), .second, .val (.int p3), .val (.int (0 : Int32)), .val (.ref b12)] [(.int z), (.ref b12)]) (by decide : ((0 : Int32) + (7 : Int32)) = (7 : Int32))) ?_
      show Steps p.tables e below (T147.setTop (mkF m 228 #[.val (.long q0), .second, .val (.int p1), .val (.long q2), .second, .val (.int p3), .val (.int (0 : Int32)), .val (.ref b12)] [(.int (7 : Int32)), (.ref b12)])) _
      refine XS.lloadN X147.here hx rfl (hb hby at_228) rfl ?_
      show Steps p.tables e below (T147.setTop (mkF m 229 #[.val (.long q0), .second, .val (.int p1), .val (.long q2), .second, .val (.int p3), .val (.int (0 : Int32)), .val (.ref b12)] [(.long q0), (.int (7 : Int32)), (.ref b12)])) _
      refine XS.l2i X147.here hx rfl (hb hby at_229) rfl ?_
      show Steps p.tables e below (T147.setTop (mkF m 230 #[.val (.long q0), .second, .val (.int p1), .val (.long q2), .second, .val (.int p3), .val (.int (0 : Int32)), .val (.ref b12)] [(.int (q0.toInt32)), (.int (7 : Int32)), (.ref b12)])) _
      refine XS.i2b X147.here hx rfl (hb hby at_230) rfl ?_
      show Steps p.tables e below (T147.setTop (mkF m 231 #[.val (.long q0), .second, .val (.int p1), .val (.long q2), .second, .val (.int p3), .val (.int (0 : Int32)), .val (.ref b12)] [(.int ((q0.toInt32).toInt8.toInt32)), (.int (7 : Int32)), (.ref b12)])) _
      show Steps p.tables e below (T147.setTop (mkF m 231 #[.val (.long q0), .second, .val (.int p1), .val (.long q2), .second, .val (.int p3), .val (.int (0 : Int32)), .val (.ref b12)] [(.int ((q0.toInt32).toInt8.toInt32)), (.int (7 : Int32)), (.ref b12)])) _
      refine castTop (congrArg (fun z : Int32 => mkF m 231 #[.val (.long q0), .second, .val (.int p1), .val (.long q2), .second, .val (.int p3), .val (.int (0 : Int32)), .val (.ref b12)] [(.int z), (.int (7 : Int32)), (.ref b12)]) hv152.symm) ?_
      refine st154 _ ?_
      show Steps p.tables e below (T154.setTop (mkF m 232 #[.val (.long q0), .second, .val (.int p1), .val (.long q2), .second, .val (.int p3), .val (.int (0 : Int32)), .val (.ref b12)] [])) _
      refine XS.aload X154.here hx rfl (hb hby at_232) rfl rfl ?_
      show Steps p.tables e below (T154.setTop (mkF m 234 #[.val (.long q0), .second, .val (.int p1), .val (.long q2), .second, .val (.int p3), .val (.int (0 : Int32)), .val (.ref b12)] [(.ref b12)])) _
      refine XS.iload X154.here hx rfl (hb hby at_234) rfl ?_
      show Steps p.tables e below (T154.setTop (mkF m 236 #[.val (.long q0), .second, .val (.int p1), .val (.long q2), .second, .val (.int p3), .val (.int (0 : Int32)), .val (.ref b12)] [(.int (0 : Int32)), (.ref b12)])) _
      refine st159 _ ?_
      show Steps p.tables e below (T159.setTop (mkF m 239 #[.val (.long q0), .second, .val (.int p1), .val (.long q2), .second, .val (.int p3), .val (.int (0 : Int32)), .val (.ref b12)] [(.long (own_rdl (own_rd (nar .byte v103) (nar .byte v110) (nar .byte v117) (nar .byte v124)) (own_rd (nar .byte v131) (nar .byte v138) (nar .byte v145) (nar .byte v152))))])) _
      refine XS.lloadN X159.here hx rfl (hb hby at_239) rfl ?_
      show Steps p.tables e below (T159.setTop (mkF m 240 #[.val (.long q0), .second, .val (.int p1), .val (.long q2), .second, .val (.int p3), .val (.int (0 : Int32)), .val (.ref b12)] [(.long q0), (.long (own_rdl (own_rd (nar .byte v103) (nar .byte v110) (nar .byte v117) (nar .byte v124)) (own_rd (nar .byte v131) (nar .byte v138) (nar .byte v145) (nar .byte v152))))])) _
      refine XS.lcmp X159.here hx rfl (hb hby at_240) rfl ?_
      show Steps p.tables e below (T159.setTop (mkF m 241 #[.val (.long q0), .second, .val (.int p1), .val (.long q2), .second, .val (.int p3), .val (.int (0 : Int32)), .val (.ref b12)] [(.int (lcmpW (own_rdl (own_rd (nar .byte v103) (nar .byte v110) (nar .byte v117) (nar .byte v124)) (own_rd (nar .byte v131) (nar .byte v138) (nar .byte v145) (nar .byte v152))) q0))])) _
      exact kk)
    by_cases hc163 : (own_rdl (own_rd (nar .byte v103) (nar .byte v110) (nar .byte v117) (nar .byte v124)) (own_rd (nar .byte v131) (nar .byte v138) (nar .byte v145) (nar .byte v152))) = q0
    · obtain ⟨fs, hr, hrun, hended, hW, hsame⟩ := X159.leave (v := some (.int (1 : Int32))) (fun h => by rw [Bd.returns] at h; cases h)
      refine ⟨_, _, pre162 _ ?_, hrun, hended, _, _, rfl, ?_, ⟨_, rfl⟩, hW, hsame.mono (by decide) (by decide)⟩
      · show Steps p.tables e below (T159.setTop (mkF m 241 #[.val (.long q0), .second, .val (.int p1), .val (.long q2), .second, .val (.int p3), .val (.int (0 : Int32)), .val (.ref b12)] [(.int (lcmpW (own_rdl (own_rd (nar .byte v103) (nar .byte v110) (nar .byte v117) (nar .byte v124)) (own_rd (nar .byte v131) (nar .byte v138) (nar .byte v145) (nar .byte v152))) q0))])) _
        refine XS.ifNo X159.here hx rfl (hb hby at_241) rfl ((if0 _ _).trans (teq ((lw_eq (own_rdl (own_rd (nar .byte v103) (nar .byte v110) (nar .byte v117) (nar .byte v124)) (own_rd (nar .byte v131) (nar .byte v138) (nar .byte v145) (nar .byte v152))) q0).mpr hc163)).2) ?_
        show Steps p.tables e below (T159.setTop (mkF m 244 #[.val (.long q0), .second, .val (.int p1), .val (.long q2), .second, .val (.int p3), .val (.int (0 : Int32)), .val (.ref b12)] [])) _
        refine XS.iconst X159.here hx rfl (hb hby at_244) ?_
        show Steps p.tables e below (T159.setTop (mkF m 245 #[.val (.long q0), .second, .val (.int p1), .val (.long q2), .second, .val (.int p3), .val (.int (0 : Int32)), .val (.ref b12)] [(.int (1 : Int32))])) _
        refine XS.goto X159.here hx rfl (pc0 := 245) (pc' := 249) rfl (hb hby at_245) (by decide) (by decide) ?_
        show Steps p.tables e below (T159.setTop (mkF m 249 #[.val (.long q0), .second, .val (.int p1), .val (.long q2), .second, .val (.int p3), .val (.int (0 : Int32)), .val (.ref b12)] [(.int (1 : Int32))])) _
        exact retN X159 hx (t := .boolean) Bd.returns (by simp) (hb hby at_249) hr
      · show own_Q0 Z q0 p1 q2 p3 h0 n0 _ T159.heap _
        rw [e161]
        exact ⟨rfl, N160⟩
    · exact (own_leaf0_2 q0 v103 hv103 v110 hv110 v117 hv117 v124 hv124 v131 hv131 v138 hv138 v145 hv145 v152 hv152 hc163).elim
  · subst hs102
    obtain ⟨v164, hv164⟩ : ∃ z : Int32, z = ((((q0.toUInt64 >>> ((56 : Int32) &&& 0x3f).toInt64.toUInt64).toInt64).toInt32).toInt8.toInt32) := ⟨_, rfl⟩
    obtain ⟨cl165, Ar165, q165, S165, M165, H165, G165⟩ := id f99
    have hin165 : ¬ ((1 : Int32) < 0 ∨ cl165.slots.size ≤ ((1 : Int32)).toNatClampNeg) := inb_of S165 ⟨by decide, by decide⟩
    obtain ⟨T166, h166, X166, e166, W166, st166⟩ := stB X95 hx hZ e95 Ar165 (j := (1 : Int32)) hin165 (g := (mkF m 141 #[.val (.long q0), .second, .val (.int p1), .val (.long q2), .second, .val (.int p3), .val (.int (1 : Int32)), .val (.ref b12)] [(.int v164), (.int (1 : Int32)), (.ref b12)])) rfl rfl (hb hby at_141)
    have K167 : Keep h0 h166 [] := K96.wr W166 (Or.inr sz_b12)
    have z168 : n0 ≤ h166.size := Nat.le_trans z97 (Keep.of_wr W166).1
    have N169 := Fr.snoc X166 N98 g_b12
    have f170 : Arv Z h166 b12 k12 .byte (12 : Int32) [(.int (nar .byte v16)), (.int (nar .byte v164)), (.int (nar .byte v30)), (.int (nar .byte v37)), (.int (nar .byte v44)), (.int (nar .byte v51)), (.int (nar .byte v58)), (.int (nar .byte v65)), (.int (nar .byte v72)), (.int (nar .byte v79)), (.int (nar .byte v86)), (.int (nar .byte v93))] (.int (0 : Int32)) := Arv.set Ar165 q165 S165 M165 H165 G165 (fits_nar_byte _) W166 1 rfl (Nat.le_of_ble_eq_true rfl)
    obtain ⟨v171, hv171⟩ : ∃ z : Int32, z = ((((q0.toUInt64 >>> ((48 : Int32) &&& 0x3f).toInt64.toUInt64).toInt64).toInt32).toInt8.toInt32) := ⟨_, rfl⟩
    obtain ⟨cl172, Ar172, q172, S172, M172, H172, G172⟩ := id f170
    have hin172 : ¬ ((2 : Int32) < 0 ∨ cl172.slots.size ≤ ((2 : Int32)).toNatClampNeg) := inb_of S172 ⟨by decide, by decide⟩
    obtain ⟨T173, h173, X173, e173, W173, st173⟩ := stB X166 hx hZ e166 Ar172 (j := (2 : Int32)) hin172 (g := (mkF m 154 #[.val (.long q0), .second, .val (.int p1), .val (.long q2), .second, .val (.int p3), .val (.int (1 : Int32)), .val (.ref b12)] [(.int v171), (.int (2 : Int32)), (.ref b12)])) rfl rfl (hb hby at_154)
    have K174 : Keep h0 h173 [] := K167.wr W173 (Or.inr sz_b12)
    have z175 : n0 ≤ h173.size := Nat.le_trans z168 (Keep.of_wr W173).1
    have N176 := Fr.snoc X173 N169 g_b12
    have f177 : Arv Z h173 b12 k12 .byte (12 : Int32) [(.int (nar .byte v16)), (.int (nar .byte v164)), (.int (nar .byte v171)), (.int (nar .byte v37)), (.int (nar .byte v44)), (.int (nar .byte v51)), (.int (nar .byte v58)), (.int (nar .byte v65)), (.int (nar .byte v72)), (.int (nar .byte v79)), (.int (nar .byte v86)), (.int (nar .byte v93))] (.int (0 : Int32)) := Arv.set Ar172 q172 S172 M172 H172 G172 (fits_nar_byte _) W173 2 rfl (Nat.le_of_ble_eq_true rfl)
    obtain ⟨v178, hv178⟩ : ∃ z : Int32, z = ((((q0.toUInt64 >>> ((40 : Int32) &&& 0x3f).toInt64.toUInt64).toInt64).toInt32).toInt8.toInt32) := ⟨_, rfl⟩
    obtain ⟨cl179, Ar179, q179, S179, M179, H179, G179⟩ := id f177
    have hin179 : ¬ ((3 : Int32) < 0 ∨ cl179.slots.size ≤ ((3 : Int32)).toNatClampNeg) := inb_of S179 ⟨by decide, by decide⟩
    obtain ⟨T180, h180, X180, e180, W180, st180⟩ := stB X173 hx hZ e173 Ar179 (j := (3 : Int32)) hin179 (g := (mkF m 167 #[.val (.long q0), .second, .val (.int p1), .val (.long q2), .second, .val (.int p3), .val (.int (1 : Int32)), .val (.ref b12)] [(.int v178), (.int (3 : Int32)), (.ref b12)])) rfl rfl (hb hby at_167)
    have K181 : Keep h0 h180 [] := K174.wr W180 (Or.inr sz_b12)
    have z182 : n0 ≤ h180.size := Nat.le_trans z175 (Keep.of_wr W180).1
    have N183 := Fr.snoc X180 N176 g_b12
    have f184 : Arv Z h180 b12 k12 .byte (12 : Int32) [(.int (nar .byte v16)), (.int (nar .byte v164)), (.int (nar .byte v171)), (.int (nar .byte v178)), (.int (nar .byte v44)), (.int (nar .byte v51)), (.int (nar .byte v58)), (.int (nar .byte v65)), (.int (nar .byte v72)), (.int (nar .byte v79)), (.int (nar .byte v86)), (.int (nar .byte v93))] (.int (0 : Int32)) := Arv.set Ar179 q179 S179 M179 H179 G179 (fits_nar_byte _) W180 3 rfl (Nat.le_of_ble_eq_true rfl)
    obtain ⟨v185, hv185⟩ : ∃ z : Int32, z = ((((q0.toUInt64 >>> ((32 : Int32) &&& 0x3f).toInt64.toUInt64).toInt64).toInt32).toInt8.toInt32) := ⟨_, rfl⟩
    obtain ⟨cl186, Ar186, q186, S186, M186, H186, G186⟩ := id f184
    have hin186 : ¬ ((4 : Int32) < 0 ∨ cl186.slots.size ≤ ((4 : Int32)).toNatClampNeg) := inb_of S186 ⟨by decide, by decide⟩
    obtain ⟨T187, h187, X187, e187, W187, st187⟩ := stB X180 hx hZ e180 Ar186 (j := (4 : Int32)) hin186 (g := (mkF m 180 #[.val (.long q0), .second, .val (.int p1), .val (.long q2), .second, .val (.int p3), .val (.int (1 : Int32)), .val (.ref b12)] [(.int v185), (.int (4 : Int32)), (.ref b12)])) rfl rfl (hb hby at_180)
    have K188 : Keep h0 h187 [] := K181.wr W187 (Or.inr sz_b12)
    have z189 : n0 ≤ h187.size := Nat.le_trans z182 (Keep.of_wr W187).1
    have N190 := Fr.snoc X187 N183 g_b12
    have f191 : Arv Z h187 b12 k12 .byte (12 : Int32) [(.int (nar .byte v16)), (.int (nar .byte v164)), (.int (nar .byte v171)), (.int (nar .byte v178)), (.int (nar .byte v185)), (.int (nar .byte v51)), (.int (nar .byte v58)), (.int (nar .byte v65)), (.int (nar .byte v72)), (.int (nar .byte v79)), (.int (nar .byte v86)), (.int (nar .byte v93))] (.int (0 : Int32)) := Arv.set Ar186 q186 S186 M186 H186 G186 (fits_nar_byte _) W187 4 rfl (Nat.le_of_ble_eq_true rfl)
    obtain ⟨v192, hv192⟩ : ∃ z : Int32, z = ((((q0.toUInt64 >>> ((24 : Int32) &&& 0x3f).toInt64.toUInt64).toInt64).toInt32).toInt8.toInt32) := ⟨_, rfl⟩
    obtain ⟨cl193, Ar193, q193, S193, M193, H193, G193⟩ := id f191
    have hin193 : ¬ ((5 : Int32) < 0 ∨ cl193.slots.size ≤ ((5 : Int32)).toNatClampNeg) := inb_of S193 ⟨by decide, by decide⟩
    obtain ⟨T194, h194, X194, e194, W194, st194⟩ := stB X187 hx hZ e187 Ar193 (j := (5 : Int32)) hin193 (g := (mkF m 193 #[.val (.long q0), .second, .val (.int p1), .val (.long q2), .second, .val (.int p3), .val (.int (1 : Int32)), .val (.ref b12)] [(.int v192), (.int (5 : Int32)), (.ref b12)])) rfl rfl (hb hby at_193)
    have K195 : Keep h0 h194 [] := K188.wr W194 (Or.inr sz_b12)
    have z196 : n0 ≤ h194.size := Nat.le_trans z189 (Keep.of_wr W194).1
    have N197 := Fr.snoc X194 N190 g_b12
    have f198 : Arv Z h194 b12 k12 .byte (12 : Int32) [(.int (nar .byte v16)), (.int (nar .byte v164)), (.int (nar .byte v171)), (.int (nar .byte v178)), (.int (nar .byte v185)), (.int (nar .byte v192)), (.int (nar .byte v58)), (.int (nar .byte v65)), (.int (nar .byte v72)), (.int (nar .byte v79)), (.int (nar .byte v86)), (.int (nar .byte v93))] (.int (0 : Int32)) := Arv.set Ar193 q193 S193 M193 H193 G193 (fits_nar_byte _) W194 5 rfl (Nat.le_of_ble_eq_true rfl)
    obtain ⟨v199, hv199⟩ : ∃ z : Int32, z = ((((q0.toUInt64 >>> ((16 : Int32) &&& 0x3f).toInt64.toUInt64).toInt64).toInt32).toInt8.toInt32) := ⟨_, rfl⟩
    obtain ⟨cl200, Ar200, q200, S200, M200, H200, G200⟩ := id f198
    have hin200 : ¬ ((6 : Int32) < 0 ∨ cl200.slots.size ≤ ((6 : Int32)).toNatClampNeg) := inb_of S200 ⟨by decide, by decide⟩
    obtain ⟨T201, h201, X201, e201, W201, st201⟩ := stB X194 hx hZ e194 Ar200 (j := (6 : Int32)) hin200 (g := (mkF m 206 #[.val (.long q0), .second, .val (.int p1), .val (.long q2), .second, .val (.int p3), .val (.int (1 : Int32)), .val (.ref b12)] [(.int v199), (.int (6 : Int32)), (.ref b12)])) rfl rfl (hb hby at_206)
    have K202 : Keep h0 h201 [] := K195.wr W201 (Or.inr sz_b12)
    have z203 : n0 ≤ h201.size := Nat.le_trans z196 (Keep.of_wr W201).1
    have N204 := Fr.snoc X201 N197 g_b12
    have f205 : Arv Z h201 b12 k12 .byte (12 : Int32) [(.int (nar .byte v16)), (.int (nar .byte v164)), (.int (nar .byte v171)), (.int (nar .byte v178)), (.int (nar .byte v185)), (.int (nar .byte v192)), (.int (nar .byte v199)), (.int (nar .byte v65)), (.int (nar .byte v72)), (.int (nar .byte v79)), (.int (nar .byte v86)), (.int (nar .byte v93))] (.int (0 : Int32)) := Arv.set Ar200 q200 S200 M200 H200 G200 (fits_nar_byte _) W201 6 rfl (Nat.le_of_ble_eq_true rfl)
    obtain ⟨v206, hv206⟩ : ∃ z : Int32, z = ((((q0.toUInt64 >>> ((8 : Int32) &&& 0x3f).toInt64.toUInt64).toInt64).toInt32).toInt8.toInt32) := ⟨_, rfl⟩
    obtain ⟨cl207, Ar207, q207, S207, M207, H207, G207⟩ := id f205
    have hin207 : ¬ ((7 : Int32) < 0 ∨ cl207.slots.size ≤ ((7 : Int32)).toNatClampNeg) := inb_of S207 ⟨by decide, by decide⟩
    obtain ⟨T208, h208, X208, e208, W208, st208⟩ := stB X201 hx hZ e201 Ar207 (j := (7 : Int32)) hin207 (g := (mkF m 220 #[.val (.long q0), .second, .val (.int p1), .val (.long q2), .second, .val (.int p3), .val (.int (1 : Int32)), .val (.ref b12)] [(.int v206), (.int (7 : Int32)), (.ref b12)])) rfl rfl (hb hby at_220)
    have K209 : Keep h0 h208 [] := K202.wr W208 (Or.inr sz_b12)
    have z210 : n0 ≤ h208.size := Nat.le_trans z203 (Keep.of_wr W208).1
    have N211 := Fr.snoc X208 N204 g_b12
    have f212 : Arv Z h208 b12 k12 .byte (12 : Int32) [(.int (nar .byte v16)), (.int (nar .byte v164)), (.int (nar .byte v171)), (.int (nar .byte v178)), (.int (nar .byte v185)), (.int (nar .byte v192)), (.int (nar .byte v199)), (.int (nar .byte v206)), (.int (nar .byte v72)), (.int (nar .byte v79)), (.int (nar .byte v86)), (.int (nar .byte v93))] (.int (0 : Int32)) := Arv.set Ar207 q207 S207 M207 H207 G207 (fits_nar_byte _) W208 7 rfl (Nat.le_of_ble_eq_true rfl)
    obtain ⟨v213, hv213⟩ : ∃ z : Int32, z = ((q0.toInt32).toInt8.toInt32) := ⟨_, rfl⟩
    obtain ⟨cl214, Ar214, q214, S214, M214, H214, G214⟩ := id f212
    have hin214 : ¬ ((8 : Int32) < 0 ∨ cl214.slots.size ≤ ((8 : Int32)).toNatClampNeg) := inb_of S214 ⟨by decide, by decide⟩
    obtain ⟨T215, h215, X215, e215, W215, st215⟩ := stB X208 hx hZ e208 Ar214 (j := (8 : Int32)) hin214 (g := (mkF m 231 #[.val (.long q0), .second, .val (.int p1), .val (.long q2), .second, .val (.int p3), .val (.int (1 : Int32)), .val (.ref b12)] [(.int v213), (.int (8 : Int32)), (.ref b12)])) rfl rfl (hb hby at_231)
    have K216 : Keep h0 h215 [] := K209.wr W215 (Or.inr sz_b12)
    have z217 : n0 ≤ h215.size := Nat.le_trans z210 (Keep.of_wr W215).1
    have N218 := Fr.snoc X215 N211 g_b12
    have f219 : Arv Z h215 b12 k12 .byte (12 : Int32) [(.int (nar .byte v16)), (.int (nar .byte v164)), (.int (nar .byte v171)), (.int (nar .byte v178)), (.int (nar .byte v185)), (.int (nar .byte v192)), (.int (nar .byte v199)), (.int (nar .byte v206)), (.int (nar .byte v213)), (.int (nar .byte v79)), (.int (nar .byte v86)), (.int (nar .byte v93))] (.int (0 : Int32)) := Arv.set Ar214 q214 S214 M214 H214 G214 (fits_nar_byte _) W215 8 rfl (Nat.le_of_ble_eq_true rfl)
    obtain ⟨_, _, ⟨T220, L220, k220, n220⟩, -, X220, ⟨Lc220, hQ220, l220, y220, z220⟩, st220⟩ := Jvm.LawKit.callS X215 hx (y := (⟨"com/example/all1/all1/Encoding", "readLong", "([BI)J"⟩ : MethodName)) hown (mvT hZ (hw _ (List.mem_of_getElem? (i := 1) rfl))) (mvT hZ (hw _ (List.mem_of_getElem? (i := 2) rfl))) (mvT hZ (hw _ (List.mem_of_getElem? (i := 3) rfl))) (mvT hZ (hw _ (List.mem_of_getElem? (i := 4) rfl))) (by decide) (backOf (W := 0) (own_rm1 l Z av hw [] b12 (1 : Int32) (k12) ((12 : Int32)) ([(.int (nar .byte v16)), (.int (nar .byte v164)), (.int (nar .byte v171)), (.int (nar .byte v178)), (.int (nar .byte v185)), (.int (nar .byte v192)), (.int (nar .byte v199)), (.int (nar .byte v206)), (.int (nar .byte v213)), (.int (nar .byte v79)), (.int (nar .byte v86)), (.int (nar .byte v93))]) ((.int (0 : Int32))) ((nar .byte v164)) ((nar .byte v171)) ((nar .byte v178)) ((nar .byte v185)) ((nar .byte v192)) ((nar .byte v199)) ((nar .byte v206)) ((nar .byte v213)) h215 n0 z217 f219 (⟨by decide, by decide⟩) (⟨by decide, by decide⟩) (⟨by decide, by decide⟩) (⟨by decide, by decide⟩) (⟨by decide, by decide⟩) (⟨by decide, by decide⟩) (⟨by decide, by decide⟩) (⟨by decide, by decide⟩) (rfl) (rfl) (rfl) (rfl) (rfl) (rfl) (rfl) (rfl)) hZ (hw _ (List.mem_of_getElem? (i := 4) rfl)) (hw _ (List.mem_of_getElem? (i := 3) rfl)) (by decide) (by decide)) (g := (mkF m 236 #[.val (.long q0), .second, .val (.int p1), .val (.long q2), .second, .val (.int p3), .val (.int (1 : Int32)), .val (.ref b12)] [(.int (1 : Int32)), (.ref b12)])) rfl (by rw [hml]; rfl) (argsL := [(.ref b12), (.int (1 : Int32))]) (rest := []) (lenOf own_pd1 rfl) rfl (by show 2 * 0 + _ ≤ _; exact Nat.le_of_eq rfl) (hb hby at_236) (fun _ _ => ⟨rfl, e215, (by decide : 1 + 0 ≤ _), (by decide : 12 + 0 ≤ _)⟩)
    dsimp only [Pt.U, Pt.locs, Pt.cells, Pt.slots] at X220 l220 y220 z220 st220 hQ220
    subst l220 y220 z220
    obtain ⟨rfl, N220q, e222⟩ := hQ220
    have N221 := Fr.app N218 N220q
    have pre223 : ∀ t, Steps p.tables e below (T220.setTop (mkF m 241 #[.val (.long q0), .second, .val (.int p1), .val (.long q2), .second, .val (.int p3), .val (.int (1 : Int32)), .val (.ref b12)] [(.int (lcmpW (own_rdl (own_rd (nar .byte v164) (nar .byte v171) (nar .byte v178) (nar .byte v185)) (own_rd (nar .byte v192) (nar .byte v199) (nar .byte v206) (nar .byte v213))) q0))])) t → Steps p.tables e below (s₁.setTop (entryFrame m #[(.long q0), (.int p1), (.long q2), (.int p3)] maxLocals)) t := fun t kk => pre101 t (by
      show Steps p.tables e below (T95.setTop (mkF m 131 #[.val (.long q0), .second, .val (.int p1), .val (.long q2), .second, .val (.int p3), .val (.int (1 : Int32)), .val (.ref b12)] [])) _
      refine XS.aload X95.here hx rfl (hb hby at_131) rfl rfl ?_
      show Steps p.tables e below (T95.setTop (mkF m 133 #[.val (.long q0), .second, .val (.int p1), .val (.long q2), .second, .val (.int p3), .val (.int (1 : Int32)), .val (.ref b12)] [(.ref b12)])) _
      refine XS.iload X95.here hx rfl (hb hby at_133) rfl ?_
      show Steps p.tables e below (T95.setTop (mkF m 135 #[.val (.long q0), .second, .val (.int p1), .val (.long q2), .second, .val (.int p3), .val (.int (1 : Int32)), .val (.ref b12)] [(.int (1 : Int32)), (.ref b12)])) _
      refine XS.lloadN X95.here hx rfl (hb hby at_135) rfl ?_
      show Steps p.tables e below (T95.setTop (mkF m 136 #[.val (.long q0), .second, .val (.int p1), .val (.long q2), .second, .val (.int p3), .val (.int (1 : Int32)), .val (.ref b12)] [(.long q0), (.int (1 : Int32)), (.ref b12)])) _
      refine XS.bipush X95.here hx rfl (hb hby at_136) ?_
      show Steps p.tables e below (T95.setTop (mkF m 138 #[.val (.long q0), .second, .val (.int p1), .val (.long q2), .second, .val (.int p3), .val (.int (1 : Int32)), .val (.ref b12)] [(.int (56 : Int32)), (.long q0), (.int (1 : Int32)), (.ref b12)])) _
      refine XS.lushr X95.here hx rfl (hb hby at_138) rfl ?_
      show Steps p.tables e below (T95.setTop (mkF m 139 #[.val (.long q0), .second, .val (.int p1), .val (.long q2), .second, .val (.int p3), .val (.int (1 : Int32)), .val (.ref b12)] [(.long ((q0.toUInt64 >>> ((56 : Int32) &&& 0x3f).toInt64.toUInt64).toInt64)), (.int (1 : Int32)), (.ref b12)])) _
      refine XS.l2i X95.here hx rfl (hb hby at_139) rfl ?_
      show Steps p.tables e below (T95.setTop (mkF m 140 #[.val (.long q0), .second, .val (.int p1), .val (.long q2), .second, .val (.int p3), .val (.int (1 : Int32)), .val (.ref b12)] [(.int (((q0.toUInt64 >>> ((56 : Int32) &&& 0x3f).toInt64.toUInt64).toInt64).toInt32)), (.int (1 : Int32)), (.ref b12)])) _
      refine XS.i2b X95.here hx rfl (hb hby at_140) rfl ?_
      show Steps p.tables e below (T95.setTop (mkF m 141 #[.val (.long q0), .second, .val (.int p1), .val (.long q2), .second, .val (.int p3), .val (.int (1 : Int32)), .val (.ref b12)] [(.int ((((q0.toUInt64 >>> ((56 : Int32) &&& 0x3f).toInt64.toUInt64).toInt64).toInt32).toInt8.toInt32)), (.int (1 : Int32)), (.ref b12)])) _
      show Steps p.tables e below (T95.setTop (mkF m 141 #[.val (.long q0), .second, .val (.int p1), .val (.long q2), .second, .val (.int p3), .val (.int (1 : Int32)), .val (.ref b12)] [(.int ((((q0.toUInt64 >>> ((56 : Int32) &&& 0x3f).toInt64.toUInt64).toInt64).toInt32).toInt8.toInt32)), (.int (1 : Int32)), (.ref b12)])) _
      refine castTop (congrArg (fun z : Int32 => mkF m 141 #[.val (.long q0), .second, .val (.int p1), .val (.long q2), .second, .val (.int p3), .val (.int (1 : Int32)), .val (.ref b12)] [(.int z), (.int (1 : Int32)), (.ref b12)]) hv164.symm) ?_
      refine st166 _ ?_
      show Steps p.tables e below (T166.setTop (mkF m 142 #[.val (.long q0), .second, .val (.int p1), .val (.long q2), .second, .val (.int p3), .val (.int (1 : Int32)), .val (.ref b12)] [])) _
      refine XS.aload X166.here hx rfl (hb hby at_142) rfl rfl ?_
      show Steps p.tables e below (T166.setTop (mkF m 144 #[.val (.long q0), .second, .val (.int p1), .val (.long q2), .second, .val (.int p3), .val (.int (1 : Int32)), .val (.ref b12)] [(.ref b12)])) _
      refine XS.iload X166.here hx rfl (hb hby at_144) rfl ?_
      show Steps p.tables e below (T166.setTop (mkF m 146 #[.val (.long q0), .second, .val (.int p1), .val (.long q2), .second, .val (.int p3), .val (.int (1 : Int32)), .val (.ref b12)] [(.int (1 : Int32)), (.ref b12)])) _
      refine XS.iconst X166.here hx rfl (hb hby at_146) ?_
      show Steps p.tables e below (T166.setTop (mkF m 147 #[.val (.long q0), .second, .val (.int p1), .val (.long q2), .second, .val (.int p3), .val (.int (1 : Int32)), .val (.ref b12)] [(.int (1 : Int32)), (.int (1 : Int32)), (.ref b12)])) _
      refine XS.iadd X166.here hx rfl (hb hby at_147) rfl ?_
      show Steps p.tables e below (T166.setTop (mkF m 148 #[.val (.long q0), .second, .val (.int p1), .val (.long q2), .second, .val (.int p3), .val (.int (1 : Int32)), .val (.ref b12)] [(.int ((1 : Int32) + (1 : Int32))), (.ref b12)])) _
      refine castTop (congrArg (fun z : Int32 => mkF m 148 #[.val (.long q0), .second, .val (.int p1), .val (.long q2), .second, .val (.int p3), .val (.int (1 : Int32)), .val (.ref b12)] [(.int z), (.ref b12)]) (by decide : ((1 : Int32) + (1 : Int32)) = (2 : Int32))) ?_
      show Steps p.tables e below (T166.setTop (mkF m 148 #[.val (.long q0), .second, .val (.int p1), .val (.long q2), .second, .val (.int p3), .val (.int (1 : Int32)), .val (.ref b12)] [(.int (2 : Int32)), (.ref b12)])) _
      refine XS.lloadN X166.here hx rfl (hb hby at_148) rfl ?_
      show Steps p.tables e below (T166.setTop (mkF m 149 #[.val (.long q0), .second, .val (.int p1), .val (.long q2), .second, .val (.int p3), .val (.int (1 : Int32)), .val (.ref b12)] [(.long q0), (.int (2 : Int32)), (.ref b12)])) _
      refine XS.bipush X166.here hx rfl (hb hby at_149) ?_
      show Steps p.tables e below (T166.setTop (mkF m 151 #[.val (.long q0), .second, .val (.int p1), .val (.long q2), .second, .val (.int p3), .val (.int (1 : Int32)), .val (.ref b12)] [(.int (48 : Int32)), (.long q0), (.int (2 : Int32)), (.ref b12)])) _
      refine XS.lushr X166.here hx rfl (hb hby at_151) rfl ?_
      show Steps p.tables e below (T166.setTop (mkF m 152 #[.val (.long q0), .second, .val (.int p1), .val (.long q2), .second, .val (.int p3), .val (.int (1 : Int32)), .val (.ref b12)] [(.long ((q0.toUInt64 >>> ((48 : Int32) &&& 0x3f).toInt64.toUInt64).toInt64)), (.int (2 : Int32)), (.ref b12)])) _
      refine XS.l2i X166.here hx rfl (hb hby at_152) rfl ?_
      show Steps p.tables e below (T166.setTop (mkF m 153 #[.val (.long q0), .second, .val (.int p1), .val (.long q2), .second, .val (.int p3), .val (.int (1 : Int32)), .val (.ref b12)] [(.int (((q0.toUInt64 >>> ((48 : Int32) &&& 0x3f).toInt64.toUInt64).toInt64).toInt32)), (.int (2 : Int32)), (.ref b12)])) _
      refine XS.i2b X166.here hx rfl (hb hby at_153) rfl ?_
      show Steps p.tables e below (T166.setTop (mkF m 154 #[.val (.long q0), .second, .val (.int p1), .val (.long q2), .second, .val (.int p3), .val (.int (1 : Int32)), .val (.ref b12)] [(.int ((((q0.toUInt64 >>> ((48 : Int32) &&& 0x3f).toInt64.toUInt64).toInt64).toInt32).toInt8.toInt32)), (.int (2 : Int32)), (.ref b12)])) _
      show Steps p.tables e below (T166.setTop (mkF m 154 #[.val (.long q0), .second, .val (.int p1), .val (.long q2), .second, .val (.int p3), .val (.int (1 : Int32)), .val (.ref b12)] [(.int ((((q0.toUInt64 >>> ((48 : Int32) &&& 0x3f).toInt64.toUInt64).toInt64).toInt32).toInt8.toInt32)), (.int (2 : Int32)), (.ref b12)])) _
      refine castTop (congrArg (fun z : Int32 => mkF m 154 #[.val (.long q0), .second, .val (.int p1), .val (.long q2), .second, .val (.int p3), .val (.int (1 : Int32)), .val (.ref b12)] [(.int z), (.int (2 : Int32)), (.ref b12)]) hv171.symm) ?_
      refine st173 _ ?_
      show Steps p.tables e below (T173.setTop (mkF m 155 #[.val (.long q0), .second, .val (.int p1), .val (.long q2), .second, .val (.int p3), .val (.int (1 : Int32)), .val (.ref b12)] [])) _
      refine XS.aload X173.here hx rfl (hb hby at_155) rfl rfl ?_
      show Steps p.tables e below (T173.setTop (mkF m 157 #[.val (.long q0), .second, .val (.int p1), .val (.long q2), .second, .val (.int p3), .val (.int (1 : Int32)), .val (.ref b12)] [(.ref b12)])) _
      refine XS.iload X173.here hx rfl (hb hby at_157) rfl ?_
      show Steps p.tables e below (T173.setTop (mkF m 159 #[.val (.long q0), .second, .val (.int p1), .val (.long q2), .second, .val (.int p3), .val (.int (1 : Int32)), .val (.ref b12)] [(.int (1 : Int32)), (.ref b12)])) _
      refine XS.iconst X173.here hx rfl (hb hby at_159) ?_
      show Steps p.tables e below (T173.setTop (mkF m 160 #[.val (.long q0), .second, .val (.int p1), .val (.long q2), .second, .val (.int p3), .val (.int (1 : Int32)), .val (.ref b12)] [(.int (2 : Int32)), (.int (1 : Int32)), (.ref b12)])) _
      refine XS.iadd X173.here hx rfl (hb hby at_160) rfl ?_
      show Steps p.tables e below (T173.setTop (mkF m 161 #[.val (.long q0), .second, .val (.int p1), .val (.long q2), .second, .val (.int p3), .val (.int (1 : Int32)), .val (.ref b12)] [(.int ((1 : Int32) + (2 : Int32))), (.ref b12)])) _
      refine castTop (congrArg (fun z : Int32 => mkF m 161 #[.val (.long q0), .second, .val (.int p1), .val (.long q2), .second, .val (.int p3), .val (.int (1 : Int32)), .val (.ref b12)] [(.int z), (.ref b12)]) (by decide : ((1 : Int32) + (2 : Int32)) = (3 : Int32))) ?_
      show Steps p.tables e below (T173.setTop (mkF m 161 #[.val (.long q0), .second, .val (.int p1), .val (.long q2), .second, .val (.int p3), .val (.int (1 : Int32)), .val (.ref b12)] [(.int (3 : Int32)), (.ref b12)])) _
      refine XS.lloadN X173.here hx rfl (hb hby at_161) rfl ?_
      show Steps p.tables e below (T173.setTop (mkF m 162 #[.val (.long q0), .second, .val (.int p1), .val (.long q2), .second, .val (.int p3), .val (.int (1 : Int32)), .val (.ref b12)] [(.long q0), (.int (3 : Int32)), (.ref b12)])) _
      refine XS.bipush X173.here hx rfl (hb hby at_162) ?_
      show Steps p.tables e below (T173.setTop (mkF m 164 #[.val (.long q0), .second, .val (.int p1), .val (.long q2), .second, .val (.int p3), .val (.int (1 : Int32)), .val (.ref b12)] [(.int (40 : Int32)), (.long q0), (.int (3 : Int32)), (.ref b12)])) _
      refine XS.lushr X173.here hx rfl (hb hby at_164) rfl ?_
      show Steps p.tables e below (T173.setTop (mkF m 165 #[.val (.long q0), .second, .val (.int p1), .val (.long q2), .second, .val (.int p3), .val (.int (1 : Int32)), .val (.ref b12)] [(.long ((q0.toUInt64 >>> ((40 : Int32) &&& 0x3f).toInt64.toUInt64).toInt64)), (.int (3 : Int32)), (.ref b12)])) _
      refine XS.l2i X173.here hx rfl (hb hby at_165) rfl ?_
      show Steps p.tables e below (T173.setTop (mkF m 166 #[.val (.long q0), .second, .val (.int p1), .val (.long q2), .second, .val (.int p3), .val (.int (1 : Int32)), .val (.ref b12)] [(.int (((q0.toUInt64 >>> ((40 : Int32) &&& 0x3f).toInt64.toUInt64).toInt64).toInt32)), (.int (3 : Int32)), (.ref b12)])) _
      refine XS.i2b X173.here hx rfl (hb hby at_166) rfl ?_
      show Steps p.tables e below (T173.setTop (mkF m 167 #[.val (.long q0), .second, .val (.int p1), .val (.long q2), .second, .val (.int p3), .val (.int (1 : Int32)), .val (.ref b12)] [(.int ((((q0.toUInt64 >>> ((40 : Int32) &&& 0x3f).toInt64.toUInt64).toInt64).toInt32).toInt8.toInt32)), (.int (3 : Int32)), (.ref b12)])) _
      show Steps p.tables e below (T173.setTop (mkF m 167 #[.val (.long q0), .second, .val (.int p1), .val (.long q2), .second, .val (.int p3), .val (.int (1 : Int32)), .val (.ref b12)] [(.int ((((q0.toUInt64 >>> ((40 : Int32) &&& 0x3f).toInt64.toUInt64).toInt64).toInt32).toInt8.toInt32)), (.int (3 : Int32)), (.ref b12)])) _
      refine castTop (congrArg (fun z : Int32 => mkF m 167 #[.val (.long q0), .second, .val (.int p1), .val (.long q2), .second, .val (.int p3), .val (.int (1 : Int32)), .val (.ref b12)] [(.int z), (.int (3 : Int32)), (.ref b12)]) hv178.symm) ?_
      refine st180 _ ?_
      show Steps p.tables e below (T180.setTop (mkF m 168 #[.val (.long q0), .second, .val (.int p1), .val (.long q2), .second, .val (.int p3), .val (.int (1 : Int32)), .val (.ref b12)] [])) _
      refine XS.aload X180.here hx rfl (hb hby at_168) rfl rfl ?_
      show Steps p.tables e below (T180.setTop (mkF m 170 #[.val (.long q0), .second, .val (.int p1), .val (.long q2), .second, .val (.int p3), .val (.int (1 : Int32)), .val (.ref b12)] [(.ref b12)])) _
      refine XS.iload X180.here hx rfl (hb hby at_170) rfl ?_
      show Steps p.tables e below (T180.setTop (mkF m 172 #[.val (.long q0), .second, .val (.int p1), .val (.long q2), .second, .val (.int p3), .val (.int (1 : Int32)), .val (.ref b12)] [(.int (1 : Int32)), (.ref b12)])) _
      refine XS.iconst X180.here hx rfl (hb hby at_172) ?_
      show Steps p.tables e below (T180.setTop (mkF m 173 #[.val (.long q0), .second, .val (.int p1), .val (.long q2), .second, .val (.int p3), .val (.int (1 : Int32)), .val (.ref b12)] [(.int (3 : Int32)), (.int (1 : Int32)), (.ref b12)])) _
      refine XS.iadd X180.here hx rfl (hb hby at_173) rfl ?_
      show Steps p.tables e below (T180.setTop (mkF m 174 #[.val (.long q0), .second, .val (.int p1), .val (.long q2), .second, .val (.int p3), .val (.int (1 : Int32)), .val (.ref b12)] [(.int ((1 : Int32) + (3 : Int32))), (.ref b12)])) _
      refine castTop (congrArg (fun z : Int32 => mkF m 174 #[.val (.long q0), .second, .val (.int p1), .val (.long q2), .second, .val (.int p3), .val (.int (1 : Int32)), .val (.ref b12)] [(.int z), (.ref b12)]) (by decide : ((1 : Int32) + (3 : Int32)) = (4 : Int32))) ?_
      show Steps p.tables e below (T180.setTop (mkF m 174 #[.val (.long q0), .second, .val (.int p1), .val (.long q2), .second, .val (.int p3), .val (.int (1 : Int32)), .val (.ref b12)] [(.int (4 : Int32)), (.ref b12)])) _
      refine XS.lloadN X180.here hx rfl (hb hby at_174) rfl ?_
      show Steps p.tables e below (T180.setTop (mkF m 175 #[.val (.long q0), .second, .val (.int p1), .val (.long q2), .second, .val (.int p3), .val (.int (1 : Int32)), .val (.ref b12)] [(.long q0), (.int (4 : Int32)), (.ref b12)])) _
      refine XS.bipush X180.here hx rfl (hb hby at_175) ?_
      show Steps p.tables e below (T180.setTop (mkF m 177 #[.val (.long q0), .second, .val (.int p1), .val (.long q2), .second, .val (.int p3), .val (.int (1 : Int32)), .val (.ref b12)] [(.int (32 : Int32)), (.long q0), (.int (4 : Int32)), (.ref b12)])) _
      refine XS.lushr X180.here hx rfl (hb hby at_177) rfl ?_
      show Steps p.tables e below (T180.setTop (mkF m 178 #[.val (.long q0), .second, .val (.int p1), .val (.long q2), .second, .val (.int p3), .val (.int (1 : Int32)), .val (.ref b12)] [(.long ((q0.toUInt64 >>> ((32 : Int32) &&& 0x3f).toInt64.toUInt64).toInt64)), (.int (4 : Int32)), (.ref b12)])) _
      refine XS.l2i X180.here hx rfl (hb hby at_178) rfl ?_
      show Steps p.tables e below (T180.setTop (mkF m 179 #[.val (.long q0), .second, .val (.int p1), .val (.long q2), .second, .val (.int p3), .val (.int (1 : Int32)), .val (.ref b12)] [(.int (((q0.toUInt64 >>> ((32 : Int32) &&& 0x3f).toInt64.toUInt64).toInt64).toInt32)), (.int (4 : Int32)), (.ref b12)])) _
      refine XS.i2b X180.here hx rfl (hb hby at_179) rfl ?_
      show Steps p.tables e below (T180.setTop (mkF m 180 #[.val (.long q0), .second, .val (.int p1), .val (.long q2), .second, .val (.int p3), .val (.int (1 : Int32)), .val (.ref b12)] [(.int ((((q0.toUInt64 >>> ((32 : Int32) &&& 0x3f).toInt64.toUInt64).toInt64).toInt32).toInt8.toInt32)), (.int (4 : Int32)), (.ref b12)])) _
      show Steps p.tables e below (T180.setTop (mkF m 180 #[.val (.long q0), .second, .val (.int p1), .val (.long q2), .second, .val (.int p3), .val (.int (1 : Int32)), .val (.ref b12)] [(.int ((((q0.toUInt64 >>> ((32 : Int32) &&& 0x3f).toInt64.toUInt64).toInt64).toInt32).toInt8.toInt32)), (.int (4 : Int32)), (.ref b12)])) _
      refine castTop (congrArg (fun z : Int32 => mkF m 180 #[.val (.long q0), .second, .val (.int p1), .val (.long q2), .second, .val (.int p3), .val (.int (1 : Int32)), .val (.ref b12)] [(.int z), (.int (4 : Int32)), (.ref b12)]) hv185.symm) ?_
      refine st187 _ ?_
      show Steps p.tables e below (T187.setTop (mkF m 181 #[.val (.long q0), .second, .val (.int p1), .val (.long q2), .second, .val (.int p3), .val (.int (1 : Int32)), .val (.ref b12)] [])) _
      refine XS.aload X187.here hx rfl (hb hby at_181) rfl rfl ?_
      show Steps p.tables e below (T187.setTop (mkF m 183 #[.val (.long q0), .second, .val (.int p1), .val (.long q2), .second, .val (.int p3), .val (.int (1 : Int32)), .val (.ref b12)] [(.ref b12)])) _
      refine XS.iload X187.here hx rfl (hb hby at_183) rfl ?_
      show Steps p.tables e below (T187.setTop (mkF m 185 #[.val (.long q0), .second, .val (.int p1), .val (.long q2), .second, .val (.int p3), .val (.int (1 : Int32)), .val (.ref b12)] [(.int (1 : Int32)), (.ref b12)])) _
      refine XS.iconst X187.here hx rfl (hb hby at_185) ?_
      show Steps p.tables e below (T187.setTop (mkF m 186 #[.val (.long q0), .second, .val (.int p1), .val (.long q2), .second, .val (.int p3), .val (.int (1 : Int32)), .val (.ref b12)] [(.int (4 : Int32)), (.int (1 : Int32)), (.ref b12)])) _
      refine XS.iadd X187.here hx rfl (hb hby at_186) rfl ?_
      show Steps p.tables e below (T187.setTop (mkF m 187 #[.val (.long q0), .second, .val (.int p1), .val (.long q2), .second, .val (.int p3), .val (.int (1 : Int32)), .val (.ref b12)] [(.int ((1 : Int32) + (4 : Int32))), (.ref b12)])) _
      refine castTop (congrArg (fun z : Int32 => mkF m 187 #[.val (.long q0), .second, .val (.int p1), .val (.long q2), .second, .val (.int p3), .val (.int (1 : Int32)), .val (.ref b12)] [(.int z), (.ref b12)]) (by decide : ((1 : Int32) + (4 : Int32)) = (5 : Int32))) ?_
      show Steps p.tables e below (T187.setTop (mkF m 187 #[.val (.long q0), .second, .val (.int p1), .val (.long q2), .second, .val (.int p3), .val (.int (1 : Int32)), .val (.ref b12)] [(.int (5 : Int32)), (.ref b12)])) _
      refine XS.lloadN X187.here hx rfl (hb hby at_187) rfl ?_
      show Steps p.tables e below (T187.setTop (mkF m 188 #[.val (.long q0), .second, .val (.int p1), .val (.long q2), .second, .val (.int p3), .val (.int (1 : Int32)), .val (.ref b12)] [(.long q0), (.int (5 : Int32)), (.ref b12)])) _
      refine XS.bipush X187.here hx rfl (hb hby at_188) ?_
      show Steps p.tables e below (T187.setTop (mkF m 190 #[.val (.long q0), .second, .val (.int p1), .val (.long q2), .second, .val (.int p3), .val (.int (1 : Int32)), .val (.ref b12)] [(.int (24 : Int32)), (.long q0), (.int (5 : Int32)), (.ref b12)])) _
      refine XS.lushr X187.here hx rfl (hb hby at_190) rfl ?_
      show Steps p.tables e below (T187.setTop (mkF m 191 #[.val (.long q0), .second, .val (.int p1), .val (.long q2), .second, .val (.int p3), .val (.int (1 : Int32)), .val (.ref b12)] [(.long ((q0.toUInt64 >>> ((24 : Int32) &&& 0x3f).toInt64.toUInt64).toInt64)), (.int (5 : Int32)), (.ref b12)])) _
      refine XS.l2i X187.here hx rfl (hb hby at_191) rfl ?_
      show Steps p.tables e below (T187.setTop (mkF m 192 #[.val (.long q0), .second, .val (.int p1), .val (.long q2), .second, .val (.int p3), .val (.int (1 : Int32)), .val (.ref b12)] [(.int (((q0.toUInt64 >>> ((24 : Int32) &&& 0x3f).toInt64.toUInt64).toInt64).toInt32)), (.int (5 : Int32)), (.ref b12)])) _
      refine XS.i2b X187.here hx rfl (hb hby at_192) rfl ?_
      show Steps p.tables e below (T187.setTop (mkF m 193 #[.val (.long q0), .second, .val (.int p1), .val (.long q2), .second, .val (.int p3), .val (.int (1 : Int32)), .val (.ref b12)] [(.int ((((q0.toUInt64 >>> ((24 : Int32) &&& 0x3f).toInt64.toUInt64).toInt64).toInt32).toInt8.toInt32)), (.int (5 : Int32)), (.ref b12)])) _
      show Steps p.tables e below (T187.setTop (mkF m 193 #[.val (.long q0), .second, .val (.int p1), .val (.long q2), .second, .val (.int p3), .val (.int (1 : Int32)), .val (.ref b12)] [(.int ((((q0.toUInt64 >>> ((24 : Int32) &&& 0x3f).toInt64.toUInt64).toInt64).toInt32).toInt8.toInt32)), (.int (5 : Int32)), (.ref b12)])) _
      refine castTop (congrArg (fun z : Int32 => mkF m 193 #[.val (.long q0), .second, .val (.int p1), .val (.long q2), .second, .val (.int p3), .val (.int (1 : Int32)), .val (.ref b12)] [(.int z), (.int (5 : Int32)), (.ref b12)]) hv192.symm) ?_
      refine st194 _ ?_
      show Steps p.tables e below (T194.setTop (mkF m 194 #[.val (.long q0), .second, .val (.int p1), .val (.long q2), .second, .val (.int p3), .val (.int (1 : Int32)), .val (.ref b12)] [])) _
      refine XS.aload X194.here hx rfl (hb hby at_194) rfl rfl ?_
      show Steps p.tables e below (T194.setTop (mkF m 196 #[.val (.long q0), .second, .val (.int p1), .val (.long q2), .second, .val (.int p3), .val (.int (1 : Int32)), .val (.ref b12)] [(.ref b12)])) _
      refine XS.iload X194.here hx rfl (hb hby at_196) rfl ?_
      show Steps p.tables e below (T194.setTop (mkF m 198 #[.val (.long q0), .second, .val (.int p1), .val (.long q2), .second, .val (.int p3), .val (.int (1 : Int32)), .val (.ref b12)] [(.int (1 : Int32)), (.ref b12)])) _
      refine XS.iconst X194.here hx rfl (hb hby at_198) ?_
      show Steps p.tables e below (T194.setTop (mkF m 199 #[.val (.long q0), .second, .val (.int p1), .val (.long q2), .second, .val (.int p3), .val (.int (1 : Int32)), .val (.ref b12)] [(.int (5 : Int32)), (.int (1 : Int32)), (.ref b12)])) _
      refine XS.iadd X194.here hx rfl (hb hby at_199) rfl ?_
      show Steps p.tables e below (T194.setTop (mkF m 200 #[.val (.long q0), .second, .val (.int p1), .val (.long q2), .second, .val (.int p3), .val (.int (1 : Int32)), .val (.ref b12)] [(.int ((1 : Int32) + (5 : Int32))), (.ref b12)])) _
      refine castTop (congrArg (fun z : Int32 => mkF m 200 #[.val (.long q0), .second, .val (.int p1), .val (.long q2), .second, .val (.int p3), .val (.int (1 : Int32)), .val (.ref b12)] [(.int z), (.ref b12)]) (by decide : ((1 : Int32) + (5 : Int32)) = (6 : Int32))) ?_
      show Steps p.tables e below (T194.setTop (mkF m 200 #[.val (.long q0), .second, .val (.int p1), .val (.long q2), .second, .val (.int p3), .val (.int (1 : Int32)), .val (.ref b12)] [(.int (6 : Int32)), (.ref b12)])) _
      refine XS.lloadN X194.here hx rfl (hb hby at_200) rfl ?_
      show Steps p.tables e below (T194.setTop (mkF m 201 #[.val (.long q0), .second, .val (.int p1), .val (.long q2), .second, .val (.int p3), .val (.int (1 : Int32)), .val (.ref b12)] [(.long q0), (.int (6 : Int32)), (.ref b12)])) _
      refine XS.bipush X194.here hx rfl (hb hby at_201) ?_
      show Steps p.tables e below (T194.setTop (mkF m 203 #[.val (.long q0), .second, .val (.int p1), .val (.long q2), .second, .val (.int p3), .val (.int (1 : Int32)), .val (.ref b12)] [(.int (16 : Int32)), (.long q0), (.int (6 : Int32)), (.ref b12)])) _
      refine XS.lushr X194.here hx rfl (hb hby at_203) rfl ?_
      show Steps p.tables e below (T194.setTop (mkF m 204 #[.val (.long q0), .second, .val (.int p1), .val (.long q2), .second, .val (.int p3), .val (.int (1 : Int32)), .val (.ref b12)] [(.long ((q0.toUInt64 >>> ((16 : Int32) &&& 0x3f).toInt64.toUInt64).toInt64)), (.int (6 : Int32)), (.ref b12)])) _
      refine XS.l2i X194.here hx rfl (hb hby at_204) rfl ?_
      show Steps p.tables e below (T194.setTop (mkF m 205 #[.val (.long q0), .second, .val (.int p1), .val (.long q2), .second, .val (.int p3), .val (.int (1 : Int32)), .val (.ref b12)] [(.int (((q0.toUInt64 >>> ((16 : Int32) &&& 0x3f).toInt64.toUInt64).toInt64).toInt32)), (.int (6 : Int32)), (.ref b12)])) _
      refine XS.i2b X194.here hx rfl (hb hby at_205) rfl ?_
      show Steps p.tables e below (T194.setTop (mkF m 206 #[.val (.long q0), .second, .val (.int p1), .val (.long q2), .second, .val (.int p3), .val (.int (1 : Int32)), .val (.ref b12)] [(.int ((((q0.toUInt64 >>> ((16 : Int32) &&& 0x3f).toInt64.toUInt64).toInt64).toInt32).toInt8.toInt32)), (.int (6 : Int32)), (.ref b12)])) _
      show Steps p.tables e below (T194.setTop (mkF m 206 #[.val (.long q0), .second, .val (.int p1), .val (.long q2), .second, .val (.int p3), .val (.int (1 : Int32)), .val (.ref b12)] [(.int ((((q0.toUInt64 >>> ((16 : Int32) &&& 0x3f).toInt64.toUInt64).toInt64).toInt32).toInt8.toInt32)), (.int (6 : Int32)), (.ref b12)])) _
      refine castTop (congrArg (fun z : Int32 => mkF m 206 #[.val (.long q0), .second, .val (.int p1), .val (.long q2), .second, .val (.int p3), .val (.int (1 : Int32)), .val (.ref b12)] [(.int z), (.int (6 : Int32)), (.ref b12)]) hv199.symm) ?_
      refine st201 _ ?_
      show Steps p.tables e below (T201.setTop (mkF m 207 #[.val (.long q0), .second, .val (.int p1), .val (.long q2), .second, .val (.int p3), .val (.int (1 : Int32)), .val (.ref b12)] [])) _
      refine XS.aload X201.here hx rfl (hb hby at_207) rfl rfl ?_
      show Steps p.tables e below (T201.setTop (mkF m 209 #[.val (.long q0), .second, .val (.int p1), .val (.long q2), .second, .val (.int p3), .val (.int (1 : Int32)), .val (.ref b12)] [(.ref b12)])) _
      refine XS.iload X201.here hx rfl (hb hby at_209) rfl ?_
      show Steps p.tables e below (T201.setTop (mkF m 211 #[.val (.long q0), .second, .val (.int p1), .val (.long q2), .second, .val (.int p3), .val (.int (1 : Int32)), .val (.ref b12)] [(.int (1 : Int32)), (.ref b12)])) _
      refine XS.bipush X201.here hx rfl (hb hby at_211) ?_
      show Steps p.tables e below (T201.setTop (mkF m 213 #[.val (.long q0), .second, .val (.int p1), .val (.long q2), .second, .val (.int p3), .val (.int (1 : Int32)), .val (.ref b12)] [(.int (6 : Int32)), (.int (1 : Int32)), (.ref b12)])) _
      refine XS.iadd X201.here hx rfl (hb hby at_213) rfl ?_
      show Steps p.tables e below (T201.setTop (mkF m 214 #[.val (.long q0), .second, .val (.int p1), .val (.long q2), .second, .val (.int p3), .val (.int (1 : Int32)), .val (.ref b12)] [(.int ((1 : Int32) + (6 : Int32))), (.ref b12)])) _
      refine castTop (congrArg (fun z : Int32 => mkF m 214 #[.val (.long q0), .second, .val (.int p1), .val (.long q2), .second, .val (.int p3), .val (.int (1 : Int32)), .val (.ref b12)] [(.int z), (.ref b12)]) (by decide : ((1 : Int32) + (6 : Int32)) = (7 : Int32))) ?_
      show Steps p.tables e below (T201.setTop (mkF m 214 #[.val (.long q0), .second, .val (.int p1), .val (.long q2), .second, .val (.int p3), .val (.int (1 : Int32)), .val (.ref b12)] [(.int (7 : Int32)), (.ref b12)])) _
      refine XS.lloadN X201.here hx rfl (hb hby at_214) rfl ?_
      show Steps p.tables e below (T201.setTop (mkF m 215 #[.val (.long q0), .second, .val (.int p1), .val (.long q2), .second, .val (.int p3), .val (.int (1 : Int32)), .val (.ref b12)] [(.long q0), (.int (7 : Int32)), (.ref b12)])) _
      refine XS.bipush X201.here hx rfl (hb hby at_215) ?_
      show Steps p.tables e below (T201.setTop (mkF m 217 #[.val (.long q0), .second, .val (.int p1), .val (.long q2), .second, .val (.int p3), .val (.int (1 : Int32)), .val (.ref b12)] [(.int (8 : Int32)), (.long q0), (.int (7 : Int32)), (.ref b12)])) _
      refine XS.lushr X201.here hx rfl (hb hby at_217) rfl ?_
      show Steps p.tables e below (T201.setTop (mkF m 218 #[.val (.long q0), .second, .val (.int p1), .val (.long q2), .second, .val (.int p3), .val (.int (1 : Int32)), .val (.ref b12)] [(.long ((q0.toUInt64 >>> ((8 : Int32) &&& 0x3f).toInt64.toUInt64).toInt64)), (.int (7 : Int32)), (.ref b12)])) _
      refine XS.l2i X201.here hx rfl (hb hby at_218) rfl ?_
      show Steps p.tables e below (T201.setTop (mkF m 219 #[.val (.long q0), .second, .val (.int p1), .val (.long q2), .second, .val (.int p3), .val (.int (1 : Int32)), .val (.ref b12)] [(.int (((q0.toUInt64 >>> ((8 : Int32) &&& 0x3f).toInt64.toUInt64).toInt64).toInt32)), (.int (7 : Int32)), (.ref b12)])) _
      refine XS.i2b X201.here hx rfl (hb hby at_219) rfl ?_
      show Steps p.tables e below (T201.setTop (mkF m 220 #[.val (.long q0), .second, .val (.int p1), .val (.long q2), .second, .val (.int p3), .val (.int (1 : Int32)), .val (.ref b12)] [(.int ((((q0.toUInt64 >>> ((8 : Int32) &&& 0x3f).toInt64.toUInt64).toInt64).toInt32).toInt8.toInt32)), (.int (7 : Int32)), (.ref b12)])) _
      show Steps p.tables e below (T201.setTop (mkF m 220 #[.val (.long q0), .second, .val (.int p1), .val (.long q2), .second, .val (.int p3), .val (.int (1 : Int32)), .val (.ref b12)] [(.int ((((q0.toUInt64 >>> ((8 : Int32) &&& 0x3f).toInt64.toUInt64).toInt64).toInt32).toInt8.toInt32)), (.int (7 : Int32)), (.ref b12)])) _
      refine castTop (congrArg (fun z : Int32 => mkF m 220 #[.val (.long q0), .second, .val (.int p1), .val (.long q2), .second, .val (.int p3), .val (.int (1 : Int32)), .val (.ref b12)] [(.int z), (.int (7 : Int32)), (.ref b12)]) hv206.symm) ?_
      refine st208 _ ?_
      show Steps p.tables e below (T208.setTop (mkF m 221 #[.val (.long q0), .second, .val (.int p1), .val (.long q2), .second, .val (.int p3), .val (.int (1 : Int32)), .val (.ref b12)] [])) _
      refine XS.aload X208.here hx rfl (hb hby at_221) rfl rfl ?_
      show Steps p.tables e below (T208.setTop (mkF m 223 #[.val (.long q0), .second, .val (.int p1), .val (.long q2), .second, .val (.int p3), .val (.int (1 : Int32)), .val (.ref b12)] [(.ref b12)])) _
      refine XS.iload X208.here hx rfl (hb hby at_223) rfl ?_
      show Steps p.tables e below (T208.setTop (mkF m 225 #[.val (.long q0), .second, .val (.int p1), .val (.long q2), .second, .val (.int p3), .val (.int (1 : Int32)), .val (.ref b12)] [(.int (1 : Int32)), (.ref b12)])) _
      refine XS.bipush X208.here hx rfl (hb hby at_225) ?_
      show Steps p.tables e below (T208.setTop (mkF m 227 #[.val (.long q0), .second, .val (.int p1), .val (.long q2), .second, .val (.int p3), .val (.int (1 : Int32)), .val (.ref b12)] [(.int (7 : Int32)), (.int (1 : Int32)), (.ref b12)])) _
      refine XS.iadd X208.here hx rfl (hb hby at_227) rfl ?_
      show Steps p.tables e below (T208.setTop (mkF m 228 #[.val (.long q0), .second, .val (.int p1), .val (.long q2), .second, .val (.int p3), .val (.int (1 : Int32)), .val (.ref b12)] [(.int ((1 : Int32) + (7 : Int32))), (.ref b12)])) _
      refine castTop (congrArg (fun z : Int32 => mkF m 228 #[.val (.long q0), .second, .val (.int p1), .val (.long q2), .second, .val (.int p3), .val (.int (1 : Int32)), .val (.ref b12)] [(.int z), (.ref b12)]) (by decide : ((1 : Int32) + (7 : Int32)) = (8 : Int32))) ?_
      show Steps p.tables e below (T208.setTop (mkF m 228 #[.val (.long q0), .second, .val (.int p1), .val (.long q2), .second, .val (.int p3), .val (.int (1 : Int32)), .val (.ref b12)] [(.int (8 : Int32)), (.ref b12)])) _
      refine XS.lloadN X208.here hx rfl (hb hby at_228) rfl ?_
      show Steps p.tables e below (T208.setTop (mkF m 229 #[.val (.long q0), .second, .val (.int p1), .val (.long q2), .second, .val (.int p3), .val (.int (1 : Int32)), .val (.ref b12)] [(.long q0), (.int (8 : Int32)), (.ref b12)])) _
      refine XS.l2i X208.here hx rfl (hb hby at_229) rfl ?_
      show Steps p.tables e below (T208.setTop (mkF m 230 #[.val (.long q0), .second, .val (.int p1), .val (.long q2), .second, .val (.int p3), .val (.int (1 : Int32)), .val (.ref b12)] [(.int (q0.toInt32)), (.int (8 : Int32)), (.ref b12)])) _
      refine XS.i2b X208.here hx rfl (hb hby at_230) rfl ?_
      show Steps p.tables e below (T208.setTop (mkF m 231 #[.val (.long q0), .second, .val (.int p1), .val (.long q2), .second, .val (.int p3), .val (.int (1 : Int32)), .val (.ref b12)] [(.int ((q0.toInt32).toInt8.toInt32)), (.int (8 : Int32)), (.ref b12)])) _
      show Steps p.tables e below (T208.setTop (mkF m 231 #[.val (.long q0), .second, .val (.int p1), .val (.long q2), .second, .val (.int p3), .val (.int (1 : Int32)), .val (.ref b12)] [(.int ((q0.toInt32).toInt8.toInt32)), (.int (8 : Int32)), (.ref b12)])) _
      refine castTop (congrArg (fun z : Int32 => mkF m 231 #[.val (.long q0), .second, .val (.int p1), .val (.long q2), .second, .val (.int p3), .val (.int (1 : Int32)), .val (.ref b12)] [(.int z), (.int (8 : Int32)), (.ref b12)]) hv213.symm) ?_
      refine st215 _ ?_
      show Steps p.tables e below (T215.setTop (mkF m 232 #[.val (.long q0), .second, .val (.int p1), .val (.long q2), .second, .val (.int p3), .val (.int (1 : Int32)), .val (.ref b12)] [])) _
      refine XS.aload X215.here hx rfl (hb hby at_232) rfl rfl ?_
      show Steps p.tables e below (T215.setTop (mkF m 234 #[.val (.long q0), .second, .val (.int p1), .val (.long q2), .second, .val (.int p3), .val (.int (1 : Int32)), .val (.ref b12)] [(.ref b12)])) _
      refine XS.iload X215.here hx rfl (hb hby at_234) rfl ?_
      show Steps p.tables e below (T215.setTop (mkF m 236 #[.val (.long q0), .second, .val (.int p1), .val (.long q2), .second, .val (.int p3), .val (.int (1 : Int32)), .val (.ref b12)] [(.int (1 : Int32)), (.ref b12)])) _
      refine st220 _ ?_
      show Steps p.tables e below (T220.setTop (mkF m 239 #[.val (.long q0), .second, .val (.int p1), .val (.long q2), .second, .val (.int p3), .val (.int (1 : Int32)), .val (.ref b12)] [(.long (own_rdl (own_rd (nar .byte v164) (nar .byte v171) (nar .byte v178) (nar .byte v185)) (own_rd (nar .byte v192) (nar .byte v199) (nar .byte v206) (nar .byte v213))))])) _
      refine XS.lloadN X220.here hx rfl (hb hby at_239) rfl ?_
      show Steps p.tables e below (T220.setTop (mkF m 240 #[.val (.long q0), .second, .val (.int p1), .val (.long q2), .second, .val (.int p3), .val (.int (1 : Int32)), .val (.ref b12)] [(.long q0), (.long (own_rdl (own_rd (nar .byte v164) (nar .byte v171) (nar .byte v178) (nar .byte v185)) (own_rd (nar .byte v192) (nar .byte v199) (nar .byte v206) (nar .byte v213))))])) _
      refine XS.lcmp X220.here hx rfl (hb hby at_240) rfl ?_
      show Steps p.tables e below (T220.setTop (mkF m 241 #[.val (.long q0), .second, .val (.int p1), .val (.long q2), .second, .val (.int p3), .val (.int (1 : Int32)), .val (.ref b12)] [(.int (lcmpW (own_rdl (own_rd (nar .byte v164) (nar .byte v171) (nar .byte v178) (nar .byte v185)) (own_rd (nar .byte v192) (nar .byte v199) (nar .byte v206) (nar .byte v213))) q0))])) _
      exact kk)
    by_cases hc224 : (own_rdl (own_rd (nar .byte v164) (nar .byte v171) (nar .byte v178) (nar .byte v185)) (own_rd (nar .byte v192) (nar .byte v199) (nar .byte v206) (nar .byte v213))) = q0
    · obtain ⟨fs, hr, hrun, hended, hW, hsame⟩ := X220.leave (v := some (.int (1 : Int32))) (fun h => by rw [Bd.returns] at h; cases h)
      refine ⟨_, _, pre223 _ ?_, hrun, hended, _, _, rfl, ?_, ⟨_, rfl⟩, hW, hsame.mono (by decide) (by decide)⟩
      · show Steps p.tables e below (T220.setTop (mkF m 241 #[.val (.long q0), .second, .val (.int p1), .val (.long q2), .second, .val (.int p3), .val (.int (1 : Int32)), .val (.ref b12)] [(.int (lcmpW (own_rdl (own_rd (nar .byte v164) (nar .byte v171) (nar .byte v178) (nar .byte v185)) (own_rd (nar .byte v192) (nar .byte v199) (nar .byte v206) (nar .byte v213))) q0))])) _
        refine XS.ifNo X220.here hx rfl (hb hby at_241) rfl ((if0 _ _).trans (teq ((lw_eq (own_rdl (own_rd (nar .byte v164) (nar .byte v171) (nar .byte v178) (nar .byte v185)) (own_rd (nar .byte v192) (nar .byte v199) (nar .byte v206) (nar .byte v213))) q0).mpr hc224)).2) ?_
        show Steps p.tables e below (T220.setTop (mkF m 244 #[.val (.long q0), .second, .val (.int p1), .val (.long q2), .second, .val (.int p3), .val (.int (1 : Int32)), .val (.ref b12)] [])) _
        refine XS.iconst X220.here hx rfl (hb hby at_244) ?_
        show Steps p.tables e below (T220.setTop (mkF m 245 #[.val (.long q0), .second, .val (.int p1), .val (.long q2), .second, .val (.int p3), .val (.int (1 : Int32)), .val (.ref b12)] [(.int (1 : Int32))])) _
        refine XS.goto X220.here hx rfl (pc0 := 245) (pc' := 249) rfl (hb hby at_245) (by decide) (by decide) ?_
        show Steps p.tables e below (T220.setTop (mkF m 249 #[.val (.long q0), .second, .val (.int p1), .val (.long q2), .second, .val (.int p3), .val (.int (1 : Int32)), .val (.ref b12)] [(.int (1 : Int32))])) _
        exact retN X220 hx (t := .boolean) Bd.returns (by simp) (hb hby at_249) hr
      · show own_Q0 Z q0 p1 q2 p3 h0 n0 _ T220.heap _
        rw [e222]
        exact ⟨rfl, N221⟩
    · exact (own_leaf0_4 q0 v164 hv164 v171 hv171 v178 hv178 v185 hv185 v192 hv192 v199 hv199 v206 hv206 v213 hv213 hc224).elim
  · subst hs102
    obtain ⟨v225, hv225⟩ : ∃ z : Int32, z = ((((q0.toUInt64 >>> ((56 : Int32) &&& 0x3f).toInt64.toUInt64).toInt64).toInt32).toInt8.toInt32) := ⟨_, rfl⟩
    obtain ⟨cl226, Ar226, q226, S226, M226, H226, G226⟩ := id f99
    have hin226 : ¬ ((2 : Int32) < 0 ∨ cl226.slots.size ≤ ((2 : Int32)).toNatClampNeg) := inb_of S226 ⟨by decide, by decide⟩
    obtain ⟨T227, h227, X227, e227, W227, st227⟩ := stB X95 hx hZ e95 Ar226 (j := (2 : Int32)) hin226 (g := (mkF m 141 #[.val (.long q0), .second, .val (.int p1), .val (.long q2), .second, .val (.int p3), .val (.int (2 : Int32)), .val (.ref b12)] [(.int v225), (.int (2 : Int32)), (.ref b12)])) rfl rfl (hb hby at_141)
    have K228 : Keep h0 h227 [] := K96.wr W227 (Or.inr sz_b12)
    have z229 : n0 ≤ h227.size := Nat.le_trans z97 (Keep.of_wr W227).1
    have N230 := Fr.snoc X227 N98 g_b12
    have f231 : Arv Z h227 b12 k12 .byte (12 : Int32) [(.int (nar .byte v16)), (.int (nar .byte v23)), (.int (nar .byte v225)), (.int (nar .byte v37)), (.int (nar .byte v44)), (.int (nar .byte v51)), (.int (nar .byte v58)), (.int (nar .byte v65)), (.int (nar .byte v72)), (.int (nar .byte v79)), (.int (nar .byte v86)), (.int (nar .byte v93))] (.int (0 : Int32)) := Arv.set Ar226 q226 S226 M226 H226 G226 (fits_nar_byte _) W227 2 rfl (Nat.le_of_ble_eq_true rfl)
    obtain ⟨v232, hv232⟩ : ∃ z : Int32, z = ((((q0.toUInt64 >>> ((48 : Int32) &&& 0x3f).toInt64.toUInt64).toInt64).toInt32).toInt8.toInt32) := ⟨_, rfl⟩
    obtain ⟨cl233, Ar233, q233, S233, M233, H233, G233⟩ := id f231
    have hin233 : ¬ ((3 : Int32) < 0 ∨ cl233.slots.size ≤ ((3 : Int32)).toNatClampNeg) := inb_of S233 ⟨by decide, by decide⟩
    obtain ⟨T234, h234, X234, e234, W234, st234⟩ := stB X227 hx hZ e227 Ar233 (j := (3 : Int32)) hin233 (g := (mkF m 154 #[.val (.long q0), .second, .val (.int p1), .val (.long q2), .second, .val (.int p3), .val (.int (2 : Int32)), .val (.ref b12)] [(.int v232), (.int (3 : Int32)), (.ref b12)])) rfl rfl (hb hby at_154)
    have K235 : Keep h0 h234 [] := K228.wr W234 (Or.inr sz_b12)
    have z236 : n0 ≤ h234.size := Nat.le_trans z229 (Keep.of_wr W234).1
    have N237 := Fr.snoc X234 N230 g_b12
    have f238 : Arv Z h234 b12 k12 .byte (12 : Int32) [(.int (nar .byte v16)), (.int (nar .byte v23)), (.int (nar .byte v225)), (.int (nar .byte v232)), (.int (nar .byte v44)), (.int (nar .byte v51)), (.int (nar .byte v58)), (.int (nar .byte v65)), (.int (nar .byte v72)), (.int (nar .byte v79)), (.int (nar .byte v86)), (.int (nar .byte v93))] (.int (0 : Int32)) := Arv.set Ar233 q233 S233 M233 H233 G233 (fits_nar_byte _) W234 3 rfl (Nat.le_of_ble_eq_true rfl)
    obtain ⟨v239, hv239⟩ : ∃ z : Int32, z = ((((q0.toUInt64 >>> ((40 : Int32) &&& 0x3f).toInt64.toUInt64).toInt64).toInt32).toInt8.toInt32) := ⟨_, rfl⟩
    obtain ⟨cl240, Ar240, q240, S240, M240, H240, G240⟩ := id f238
    have hin240 : ¬ ((4 : Int32) < 0 ∨ cl240.slots.size ≤ ((4 : Int32)).toNatClampNeg) := inb_of S240 ⟨by decide, by decide⟩
    obtain ⟨T241, h241, X241, e241, W241, st241⟩ := stB X234 hx hZ e234 Ar240 (j := (4 : Int32)) hin240 (g := (mkF m 167 #[.val (.long q0), .second, .val (.int p1), .val (.long q2), .second, .val (.int p3), .val (.int (2 : Int32)), .val (.ref b12)] [(.int v239), (.int (4 : Int32)), (.ref b12)])) rfl rfl (hb hby at_167)
    have K242 : Keep h0 h241 [] := K235.wr W241 (Or.inr sz_b12)
    have z243 : n0 ≤ h241.size := Nat.le_trans z236 (Keep.of_wr W241).1
    have N244 := Fr.snoc X241 N237 g_b12
    have f245 : Arv Z h241 b12 k12 .byte (12 : Int32) [(.int (nar .byte v16)), (.int (nar .byte v23)), (.int (nar .byte v225)), (.int (nar .byte v232)), (.int (nar .byte v239)), (.int (nar .byte v51)), (.int (nar .byte v58)), (.int (nar .byte v65)), (.int (nar .byte v72)), (.int (nar .byte v79)), (.int (nar .byte v86)), (.int (nar .byte v93))] (.int (0 : Int32)) := Arv.set Ar240 q240 S240 M240 H240 G240 (fits_nar_byte _) W241 4 rfl (Nat.le_of_ble_eq_true rfl)
    obtain ⟨v246, hv246⟩ : ∃ z : Int32, z = ((((q0.toUInt64 >>> ((32 : Int32) &&& 0x3f).toInt64.toUInt64).toInt64).toInt32).toInt8.toInt32) := ⟨_, rfl⟩
    obtain ⟨cl247, Ar247, q247, S247, M247, H247, G247⟩ := id f245
    have hin247 : ¬ ((5 : Int32) < 0 ∨ cl247.slots.size ≤ ((5 : Int32)).toNatClampNeg) := inb_of S247 ⟨by decide, by decide⟩
    obtain ⟨T248, h248, X248, e248, W248, st248⟩ := stB X241 hx hZ e241 Ar247 (j := (5 : Int32)) hin247 (g := (mkF m 180 #[.val (.long q0), .second, .val (.int p1), .val (.long q2), .second, .val (.int p3), .val (.int (2 : Int32)), .val (.ref b12)] [(.int v246), (.int (5 : Int32)), (.ref b12)])) rfl rfl (hb hby at_180)
    have K249 : Keep h0 h248 [] := K242.wr W248 (Or.inr sz_b12)
    have z250 : n0 ≤ h248.size := Nat.le_trans z243 (Keep.of_wr W248).1
    have N251 := Fr.snoc X248 N244 g_b12
    have f252 : Arv Z h248 b12 k12 .byte (12 : Int32) [(.int (nar .byte v16)), (.int (nar .byte v23)), (.int (nar .byte v225)), (.int (nar .byte v232)), (.int (nar .byte v239)), (.int (nar .byte v246)), (.int (nar .byte v58)), (.int (nar .byte v65)), (.int (nar .byte v72)), (.int (nar .byte v79)), (.int (nar .byte v86)), (.int (nar .byte v93))] (.int (0 : Int32)) := Arv.set Ar247 q247 S247 M247 H247 G247 (fits_nar_byte _) W248 5 rfl (Nat.le_of_ble_eq_true rfl)
    obtain ⟨v253, hv253⟩ : ∃ z : Int32, z = ((((q0.toUInt64 >>> ((24 : Int32) &&& 0x3f).toInt64.toUInt64).toInt64).toInt32).toInt8.toInt32) := ⟨_, rfl⟩
    obtain ⟨cl254, Ar254, q254, S254, M254, H254, G254⟩ := id f252
    have hin254 : ¬ ((6 : Int32) < 0 ∨ cl254.slots.size ≤ ((6 : Int32)).toNatClampNeg) := inb_of S254 ⟨by decide, by decide⟩
    obtain ⟨T255, h255, X255, e255, W255, st255⟩ := stB X248 hx hZ e248 Ar254 (j := (6 : Int32)) hin254 (g := (mkF m 193 #[.val (.long q0), .second, .val (.int p1), .val (.long q2), .second, .val (.int p3), .val (.int (2 : Int32)), .val (.ref b12)] [(.int v253), (.int (6 : Int32)), (.ref b12)])) rfl rfl (hb hby at_193)
    have K256 : Keep h0 h255 [] := K249.wr W255 (Or.inr sz_b12)
    have z257 : n0 ≤ h255.size := Nat.le_trans z250 (Keep.of_wr W255).1
    have N258 := Fr.snoc X255 N251 g_b12
    have f259 : Arv Z h255 b12 k12 .byte (12 : Int32) [(.int (nar .byte v16)), (.int (nar .byte v23)), (.int (nar .byte v225)), (.int (nar .byte v232)), (.int (nar .byte v239)), (.int (nar .byte v246)), (.int (nar .byte v253)), (.int (nar .byte v65)), (.int (nar .byte v72)), (.int (nar .byte v79)), (.int (nar .byte v86)), (.int (nar .byte v93))] (.int (0 : Int32)) := Arv.set Ar254 q254 S254 M254 H254 G254 (fits_nar_byte _) W255 6 rfl (Nat.le_of_ble_eq_true rfl)
    obtain ⟨v260, hv260⟩ : ∃ z : Int32, z = ((((q0.toUInt64 >>> ((16 : Int32) &&& 0x3f).toInt64.toUInt64).toInt64).toInt32).toInt8.toInt32) := ⟨_, rfl⟩
    obtain ⟨cl261, Ar261, q261, S261, M261, H261, G261⟩ := id f259
    have hin261 : ¬ ((7 : Int32) < 0 ∨ cl261.slots.size ≤ ((7 : Int32)).toNatClampNeg) := inb_of S261 ⟨by decide, by decide⟩
    obtain ⟨T262, h262, X262, e262, W262, st262⟩ := stB X255 hx hZ e255 Ar261 (j := (7 : Int32)) hin261 (g := (mkF m 206 #[.val (.long q0), .second, .val (.int p1), .val (.long q2), .second, .val (.int p3), .val (.int (2 : Int32)), .val (.ref b12)] [(.int v260), (.int (7 : Int32)), (.ref b12)])) rfl rfl (hb hby at_206)
    have K263 : Keep h0 h262 [] := K256.wr W262 (Or.inr sz_b12)
    have z264 : n0 ≤ h262.size := Nat.le_trans z257 (Keep.of_wr W262).1
    have N265 := Fr.snoc X262 N258 g_b12
    have f266 : Arv Z h262 b12 k12 .byte (12 : Int32) [(.int (nar .byte v16)), (.int (nar .byte v23)), (.int (nar .byte v225)), (.int (nar .byte v232)), (.int (nar .byte v239)), (.int (nar .byte v246)), (.int (nar .byte v253)), (.int (nar .byte v260)), (.int (nar .byte v72)), (.int (nar .byte v79)), (.int (nar .byte v86)), (.int (nar .byte v93))] (.int (0 : Int32)) := Arv.set Ar261 q261 S261 M261 H261 G261 (fits_nar_byte _) W262 7 rfl (Nat.le_of_ble_eq_true rfl)
    obtain ⟨v267, hv267⟩ : ∃ z : Int32, z = ((((q0.toUInt64 >>> ((8 : Int32) &&& 0x3f).toInt64.toUInt64).toInt64).toInt32).toInt8.toInt32) := ⟨_, rfl⟩
    obtain ⟨cl268, Ar268, q268, S268, M268, H268, G268⟩ := id f266
    have hin268 : ¬ ((8 : Int32) < 0 ∨ cl268.slots.size ≤ ((8 : Int32)).toNatClampNeg) := inb_of S268 ⟨by decide, by decide⟩
    obtain ⟨T269, h269, X269, e269, W269, st269⟩ := stB X262 hx hZ e262 Ar268 (j := (8 : Int32)) hin268 (g := (mkF m 220 #[.val (.long q0), .second, .val (.int p1), .val (.long q2), .second, .val (.int p3), .val (.int (2 : Int32)), .val (.ref b12)] [(.int v267), (.int (8 : Int32)), (.ref b12)])) rfl rfl (hb hby at_220)
    have K270 : Keep h0 h269 [] := K263.wr W269 (Or.inr sz_b12)
    have z271 : n0 ≤ h269.size := Nat.le_trans z264 (Keep.of_wr W269).1
    have N272 := Fr.snoc X269 N265 g_b12
    have f273 : Arv Z h269 b12 k12 .byte (12 : Int32) [(.int (nar .byte v16)), (.int (nar .byte v23)), (.int (nar .byte v225)), (.int (nar .byte v232)), (.int (nar .byte v239)), (.int (nar .byte v246)), (.int (nar .byte v253)), (.int (nar .byte v260)), (.int (nar .byte v267)), (.int (nar .byte v79)), (.int (nar .byte v86)), (.int (nar .byte v93))] (.int (0 : Int32)) := Arv.set Ar268 q268 S268 M268 H268 G268 (fits_nar_byte _) W269 8 rfl (Nat.le_of_ble_eq_true rfl)
    obtain ⟨v274, hv274⟩ : ∃ z : Int32, z = ((q0.toInt32).toInt8.toInt32) := ⟨_, rfl⟩
    obtain ⟨cl275, Ar275, q275, S275, M275, H275, G275⟩ := id f273
    have hin275 : ¬ ((9 : Int32) < 0 ∨ cl275.slots.size ≤ ((9 : Int32)).toNatClampNeg) := inb_of S275 ⟨by decide, by decide⟩
    obtain ⟨T276, h276, X276, e276, W276, st276⟩ := stB X269 hx hZ e269 Ar275 (j := (9 : Int32)) hin275 (g := (mkF m 231 #[.val (.long q0), .second, .val (.int p1), .val (.long q2), .second, .val (.int p3), .val (.int (2 : Int32)), .val (.ref b12)] [(.int v274), (.int (9 : Int32)), (.ref b12)])) rfl rfl (hb hby at_231)
    have K277 : Keep h0 h276 [] := K270.wr W276 (Or.inr sz_b12)
    have z278 : n0 ≤ h276.size := Nat.le_trans z271 (Keep.of_wr W276).1
    have N279 := Fr.snoc X276 N272 g_b12
    have f280 : Arv Z h276 b12 k12 .byte (12 : Int32) [(.int (nar .byte v16)), (.int (nar .byte v23)), (.int (nar .byte v225)), (.int (nar .byte v232)), (.int (nar .byte v239)), (.int (nar .byte v246)), (.int (nar .byte v253)), (.int (nar .byte v260)), (.int (nar .byte v267)), (.int (nar .byte v274)), (.int (nar .byte v86)), (.int (nar .byte v93))] (.int (0 : Int32)) := Arv.set Ar275 q275 S275 M275 H275 G275 (fits_nar_byte _) W276 9 rfl (Nat.le_of_ble_eq_true rfl)
    obtain ⟨_, _, ⟨T281, L281, k281, n281⟩, -, X281, ⟨Lc281, hQ281, l281, y281, z281⟩, st281⟩ := Jvm.LawKit.callS X276 hx (y := (⟨"com/example/all1/all1/Encoding", "readLong", "([BI)J"⟩ : MethodName)) hown (mvT hZ (hw _ (List.mem_of_getElem? (i := 1) rfl))) (mvT hZ (hw _ (List.mem_of_getElem? (i := 2) rfl))) (mvT hZ (hw _ (List.mem_of_getElem? (i := 3) rfl))) (mvT hZ (hw _ (List.mem_of_getElem? (i := 4) rfl))) (by decide) (backOf (W := 0) (own_rm1 l Z av hw [] b12 (2 : Int32) (k12) ((12 : Int32)) ([(.int (nar .byte v16)), (.int (nar .byte v23)), (.int (nar .byte v225)), (.int (nar .byte v232)), (.int (nar .byte v239)), (.int (nar .byte v246)), (.int (nar .byte v253)), (.int (nar .byte v260)), (.int (nar .byte v267)), (.int (nar .byte v274)), (.int (nar .byte v86)), (.int (nar .byte v93))]) ((.int (0 : Int32))) ((nar .byte v225)) ((nar .byte v232)) ((nar .byte v239)) ((nar .byte v246)) ((nar .byte v253)) ((nar .byte v260)) ((nar .byte v267)) ((nar .byte v274)) h276 n0 z278 f280 (⟨by decide, by decide⟩) (⟨by decide, by decide⟩) (⟨by decide, by decide⟩) (⟨by decide, by decide⟩) (⟨by decide, by decide⟩) (⟨by decide, by decide⟩) (⟨by decide, by decide⟩) (⟨by decide, by decide⟩) (rfl) (rfl) (rfl) (rfl) (rfl) (rfl) (rfl) (rfl)) hZ (hw _ (List.mem_of_getElem? (i := 4) rfl)) (hw _ (List.mem_of_getElem? (i := 3) rfl)) (by decide) (by decide)) (g := (mkF m 236 #[.val (.long q0), .second, .val (.int p1), .val (.long q2), .second, .val (.int p3), .val (.int (2 : Int32)), .val (.ref b12)] [(.int (2 : Int32)), (.ref b12)])) rfl (by rw [hml]; rfl) (argsL := [(.ref b12), (.int (2 : Int32))]) (rest := []) (lenOf own_pd1 rfl) rfl (by show 2 * 0 + _ ≤ _; exact Nat.le_of_eq rfl) (hb hby at_236) (fun _ _ => ⟨rfl, e276, (by decide : 1 + 0 ≤ _), (by decide : 12 + 0 ≤ _)⟩)
    dsimp only [Pt.U, Pt.locs, Pt.cells, Pt.slots] at X281 l281 y281 z281 st281 hQ281
    subst l281 y281 z281
    obtain ⟨rfl, N281q, e283⟩ := hQ281
    have N282 := Fr.app N279 N281q
    have pre284 : ∀ t, Steps p.tables e below (T281.setTop (mkF m 241 #[.val (.long q0), .second, .val (.int p1), .val (.long q2), .second, .val (.int p3), .val (.int (2 : Int32)), .val (.ref b12)] [(.int (lcmpW (own_rdl (own_rd (nar .byte v225) (nar .byte v232) (nar .byte v239) (nar .byte v246)) (own_rd (nar .byte v253) (nar .byte v260) (nar .byte v267) (nar .byte v274))) q0))])) t → Steps p.tables e below (s₁.setTop (entryFrame m #[(.long q0), (.int p1), (.long q2), (.int p3)] maxLocals)) t := fun t kk => pre101 t (by
      show Steps p.tables e below (T95.setTop (mkF m 131 #[.val (.long q0), .second, .val (.int p1), .val (.long q2), .second, .val (.int p3), .val (.int (2 : Int32)), .val (.ref b12)] [])) _
      refine XS.aload X95.here hx rfl (hb hby at_131) rfl rfl ?_
      show Steps p.tables e below (T95.setTop (mkF m 133 #[.val (.long q0), .second, .val (.int p1), .val (.long q2), .second, .val (.int p3), .val (.int (2 : Int32)), .val (.ref b12)] [(.ref b12)])) _
      refine XS.iload X95.here hx rfl (hb hby at_133) rfl ?_
      show Steps p.tables e below (T95.setTop (mkF m 135 #[.val (.long q0), .second, .val (.int p1), .val (.long q2), .second, .val (.int p3), .val (.int (2 : Int32)), .val (.ref b12)] [(.int (2 : Int32)), (.ref b12)])) _
      refine XS.lloadN X95.here hx rfl (hb hby at_135) rfl ?_
      show Steps p.tables e below (T95.setTop (mkF m 136 #[.val (.long q0), .second, .val (.int p1), .val (.long q2), .second, .val (.int p3), .val (.int (2 : Int32)), .val (.ref b12)] [(.long q0), (.int (2 : Int32)), (.ref b12)])) _
      refine XS.bipush X95.here hx rfl (hb hby at_136) ?_
      show Steps p.tables e below (T95.setTop (mkF m 138 #[.val (.long q0), .second, .val (.int p1), .val (.long q2), .second, .val (.int p3), .val (.int (2 : Int32)), .val (.ref b12)] [(.int (56 : Int32)), (.long q0), (.int (2 : Int32)), (.ref b12)])) _
      refine XS.lushr X95.here hx rfl (hb hby at_138) rfl ?_
      show Steps p.tables e below (T95.setTop (mkF m 139 #[.val (.long q0), .second, .val (.int p1), .val (.long q2), .second, .val (.int p3), .val (.int (2 : Int32)), .val (.ref b12)] [(.long ((q0.toUInt64 >>> ((56 : Int32) &&& 0x3f).toInt64.toUInt64).toInt64)), (.int (2 : Int32)), (.ref b12)])) _
      refine XS.l2i X95.here hx rfl (hb hby at_139) rfl ?_
      show Steps p.tables e below (T95.setTop (mkF m 140 #[.val (.long q0), .second, .val (.int p1), .val (.long q2), .second, .val (.int p3), .val (.int (2 : Int32)), .val (.ref b12)] [(.int (((q0.toUInt64 >>> ((56 : Int32) &&& 0x3f).toInt64.toUInt64).toInt64).toInt32)), (.int (2 : Int32)), (.ref b12)])) _
      refine XS.i2b X95.here hx rfl (hb hby at_140) rfl ?_
      show Steps p.tables e below (T95.setTop (mkF m 141 #[.val (.long q0), .second, .val (.int p1), .val (.long q2), .second, .val (.int p3), .val (.int (2 : Int32)), .val (.ref b12)] [(.int ((((q0.toUInt64 >>> ((56 : Int32) &&& 0x3f).toInt64.toUInt64).toInt64).toInt32).toInt8.toInt32)), (.int (2 : Int32)), (.ref b12)])) _
      show Steps p.tables e below (T95.setTop (mkF m 141 #[.val (.long q0), .second, .val (.int p1), .val (.long q2), .second, .val (.int p3), .val (.int (2 : Int32)), .val (.ref b12)] [(.int ((((q0.toUInt64 >>> ((56 : Int32) &&& 0x3f).toInt64.toUInt64).toInt64).toInt32).toInt8.toInt32)), (.int (2 : Int32)), (.ref b12)])) _
      refine castTop (congrArg (fun z : Int32 => mkF m 141 #[.val (.long q0), .second, .val (.int p1), .val (.long q2), .second, .val (.int p3), .val (.int (2 : Int32)), .val (.ref b12)] [(.int z), (.int (2 : Int32)), (.ref b12)]) hv225.symm) ?_
      refine st227 _ ?_
      show Steps p.tables e below (T227.setTop (mkF m 142 #[.val (.long q0), .second, .val (.int p1), .val (.long q2), .second, .val (.int p3), .val (.int (2 : Int32)), .val (.ref b12)] [])) _
      refine XS.aload X227.here hx rfl (hb hby at_142) rfl rfl ?_
      show Steps p.tables e below (T227.setTop (mkF m 144 #[.val (.long q0), .second, .val (.int p1), .val (.long q2), .second, .val (.int p3), .val (.int (2 : Int32)), .val (.ref b12)] [(.ref b12)])) _
      refine XS.iload X227.here hx rfl (hb hby at_144) rfl ?_
      show Steps p.tables e below (T227.setTop (mkF m 146 #[.val (.long q0), .second, .val (.int p1), .val (.long q2), .second, .val (.int p3), .val (.int (2 : Int32)), .val (.ref b12)] [(.int (2 : Int32)), (.ref b12)])) _
      refine XS.iconst X227.here hx rfl (hb hby at_146) ?_
      show Steps p.tables e below (T227.setTop (mkF m 147 #[.val (.long q0), .second, .val (.int p1), .val (.long q2), .second, .val (.int p3), .val (.int (2 : Int32)), .val (.ref b12)] [(.int (1 : Int32)), (.int (2 : Int32)), (.ref b12)])) _
      refine XS.iadd X227.here hx rfl (hb hby at_147) rfl ?_
      show Steps p.tables e below (T227.setTop (mkF m 148 #[.val (.long q0), .second, .val (.int p1), .val (.long q2), .second, .val (.int p3), .val (.int (2 : Int32)), .val (.ref b12)] [(.int ((2 : Int32) + (1 : Int32))), (.ref b12)])) _
      refine castTop (congrArg (fun z : Int32 => mkF m 148 #[.val (.long q0), .second, .val (.int p1), .val (.long q2), .second, .val (.int p3), .val (.int (2 : Int32)), .val (.ref b12)] [(.int z), (.ref b12)]) (by decide : ((2 : Int32) + (1 : Int32)) = (3 : Int32))) ?_
      show Steps p.tables e below (T227.setTop (mkF m 148 #[.val (.long q0), .second, .val (.int p1), .val (.long q2), .second, .val (.int p3), .val (.int (2 : Int32)), .val (.ref b12)] [(.int (3 : Int32)), (.ref b12)])) _
      refine XS.lloadN X227.here hx rfl (hb hby at_148) rfl ?_
      show Steps p.tables e below (T227.setTop (mkF m 149 #[.val (.long q0), .second, .val (.int p1), .val (.long q2), .second, .val (.int p3), .val (.int (2 : Int32)), .val (.ref b12)] [(.long q0), (.int (3 : Int32)), (.ref b12)])) _
      refine XS.bipush X227.here hx rfl (hb hby at_149) ?_
      show Steps p.tables e below (T227.setTop (mkF m 151 #[.val (.long q0), .second, .val (.int p1), .val (.long q2), .second, .val (.int p3), .val (.int (2 : Int32)), .val (.ref b12)] [(.int (48 : Int32)), (.long q0), (.int (3 : Int32)), (.ref b12)])) _
      refine XS.lushr X227.here hx rfl (hb hby at_151) rfl ?_
      show Steps p.tables e below (T227.setTop (mkF m 152 #[.val (.long q0), .second, .val (.int p1), .val (.long q2), .second, .val (.int p3), .val (.int (2 : Int32)), .val (.ref b12)] [(.long ((q0.toUInt64 >>> ((48 : Int32) &&& 0x3f).toInt64.toUInt64).toInt64)), (.int (3 : Int32)), (.ref b12)])) _
      refine XS.l2i X227.here hx rfl (hb hby at_152) rfl ?_
      show Steps p.tables e below (T227.setTop (mkF m 153 #[.val (.long q0), .second, .val (.int p1), .val (.long q2), .second, .val (.int p3), .val (.int (2 : Int32)), .val (.ref b12)] [(.int (((q0.toUInt64 >>> ((48 : Int32) &&& 0x3f).toInt64.toUInt64).toInt64).toInt32)), (.int (3 : Int32)), (.ref b12)])) _
      refine XS.i2b X227.here hx rfl (hb hby at_153) rfl ?_
      show Steps p.tables e below (T227.setTop (mkF m 154 #[.val (.long q0), .second, .val (.int p1), .val (.long q2), .second, .val (.int p3), .val (.int (2 : Int32)), .val (.ref b12)] [(.int ((((q0.toUInt64 >>> ((48 : Int32) &&& 0x3f).toInt64.toUInt64).toInt64).toInt32).toInt8.toInt32)), (.int (3 : Int32)), (.ref b12)])) _
      show Steps p.tables e below (T227.setTop (mkF m 154 #[.val (.long q0), .second, .val (.int p1), .val (.long q2), .second, .val (.int p3), .val (.int (2 : Int32)), .val (.ref b12)] [(.int ((((q0.toUInt64 >>> ((48 : Int32) &&& 0x3f).toInt64.toUInt64).toInt64).toInt32).toInt8.toInt32)), (.int (3 : Int32)), (.ref b12)])) _
      refine castTop (congrArg (fun z : Int32 => mkF m 154 #[.val (.long q0), .second, .val (.int p1), .val (.long q2), .second, .val (.int p3), .val (.int (2 : Int32)), .val (.ref b12)] [(.int z), (.int (3 : Int32)), (.ref b12)]) hv232.symm) ?_
      refine st234 _ ?_
      show Steps p.tables e below (T234.setTop (mkF m 155 #[.val (.long q0), .second, .val (.int p1), .val (.long q2), .second, .val (.int p3), .val (.int (2 : Int32)), .val (.ref b12)] [])) _
      refine XS.aload X234.here hx rfl (hb hby at_155) rfl rfl ?_
      show Steps p.tables e below (T234.setTop (mkF m 157 #[.val (.long q0), .second, .val (.int p1), .val (.long q2), .second, .val (.int p3), .val (.int (2 : Int32)), .val (.ref b12)] [(.ref b12)])) _
      refine XS.iload X234.here hx rfl (hb hby at_157) rfl ?_
      show Steps p.tables e below (T234.setTop (mkF m 159 #[.val (.long q0), .second, .val (.int p1), .val (.long q2), .second, .val (.int p3), .val (.int (2 : Int32)), .val (.ref b12)] [(.int (2 : Int32)), (.ref b12)])) _
      refine XS.iconst X234.here hx rfl (hb hby at_159) ?_
      show Steps p.tables e below (T234.setTop (mkF m 160 #[.val (.long q0), .second, .val (.int p1), .val (.long q2), .second, .val (.int p3), .val (.int (2 : Int32)), .val (.ref b12)] [(.int (2 : Int32)), (.int (2 : Int32)), (.ref b12)])) _
      refine XS.iadd X234.here hx rfl (hb hby at_160) rfl ?_
      show Steps p.tables e below (T234.setTop (mkF m 161 #[.val (.long q0), .second, .val (.int p1), .val (.long q2), .second, .val (.int p3), .val (.int (2 : Int32)), .val (.ref b12)] [(.int ((2 : Int32) + (2 : Int32))), (.ref b12)])) _
      refine castTop (congrArg (fun z : Int32 => mkF m 161 #[.val (.long q0), .second, .val (.int p1), .val (.long q2), .second, .val (.int p3), .val (.int (2 : Int32)), .val (.ref b12)] [(.int z), (.ref b12)]) (by decide : ((2 : Int32) + (2 : Int32)) = (4 : Int32))) ?_
      show Steps p.tables e below (T234.setTop (mkF m 161 #[.val (.long q0), .second, .val (.int p1), .val (.long q2), .second, .val (.int p3), .val (.int (2 : Int32)), .val (.ref b12)] [(.int (4 : Int32)), (.ref b12)])) _
      refine XS.lloadN X234.here hx rfl (hb hby at_161) rfl ?_
      show Steps p.tables e below (T234.setTop (mkF m 162 #[.val (.long q0), .second, .val (.int p1), .val (.long q2), .second, .val (.int p3), .val (.int (2 : Int32)), .val (.ref b12)] [(.long q0), (.int (4 : Int32)), (.ref b12)])) _
      refine XS.bipush X234.here hx rfl (hb hby at_162) ?_
      show Steps p.tables e below (T234.setTop (mkF m 164 #[.val (.long q0), .second, .val (.int p1), .val (.long q2), .second, .val (.int p3), .val (.int (2 : Int32)), .val (.ref b12)] [(.int (40 : Int32)), (.long q0), (.int (4 : Int32)), (.ref b12)])) _
      refine XS.lushr X234.here hx rfl (hb hby at_164) rfl ?_
      show Steps p.tables e below (T234.setTop (mkF m 165 #[.val (.long q0), .second, .val (.int p1), .val (.long q2), .second, .val (.int p3), .val (.int (2 : Int32)), .val (.ref b12)] [(.long ((q0.toUInt64 >>> ((40 : Int32) &&& 0x3f).toInt64.toUInt64).toInt64)), (.int (4 : Int32)), (.ref b12)])) _
      refine XS.l2i X234.here hx rfl (hb hby at_165) rfl ?_
      show Steps p.tables e below (T234.setTop (mkF m 166 #[.val (.long q0), .second, .val (.int p1), .val (.long q2), .second, .val (.int p3), .val (.int (2 : Int32)), .val (.ref b12)] [(.int (((q0.toUInt64 >>> ((40 : Int32) &&& 0x3f).toInt64.toUInt64).toInt64).toInt32)), (.int (4 : Int32)), (.ref b12)])) _
      refine XS.i2b X234.here hx rfl (hb hby at_166) rfl ?_
      show Steps p.tables e below (T234.setTop (mkF m 167 #[.val (.long q0), .second, .val (.int p1), .val (.long q2), .second, .val (.int p3), .val (.int (2 : Int32)), .val (.ref b12)] [(.int ((((q0.toUInt64 >>> ((40 : Int32) &&& 0x3f).toInt64.toUInt64).toInt64).toInt32).toInt8.toInt32)), (.int (4 : Int32)), (.ref b12)])) _
      show Steps p.tables e below (T234.setTop (mkF m 167 #[.val (.long q0), .second, .val (.int p1), .val (.long q2), .second, .val (.int p3), .val (.int (2 : Int32)), .val (.ref b12)] [(.int ((((q0.toUInt64 >>> ((40 : Int32) &&& 0x3f).toInt64.toUInt64).toInt64).toInt32).toInt8.toInt32)), (.int (4 : Int32)), (.ref b12)])) _
      refine castTop (congrArg (fun z : Int32 => mkF m 167 #[.val (.long q0), .second, .val (.int p1), .val (.long q2), .second, .val (.int p3), .val (.int (2 : Int32)), .val (.ref b12)] [(.int z), (.int (4 : Int32)), (.ref b12)]) hv239.symm) ?_
      refine st241 _ ?_
      show Steps p.tables e below (T241.setTop (mkF m 168 #[.val (.long q0), .second, .val (.int p1), .val (.long q2), .second, .val (.int p3), .val (.int (2 : Int32)), .val (.ref b12)] [])) _
      refine XS.aload X241.here hx rfl (hb hby at_168) rfl rfl ?_
      show Steps p.tables e below (T241.setTop (mkF m 170 #[.val (.long q0), .second, .val (.int p1), .val (.long q2), .second, .val (.int p3), .val (.int (2 : Int32)), .val (.ref b12)] [(.ref b12)])) _
      refine XS.iload X241.here hx rfl (hb hby at_170) rfl ?_
      show Steps p.tables e below (T241.setTop (mkF m 172 #[.val (.long q0), .second, .val (.int p1), .val (.long q2), .second, .val (.int p3), .val (.int (2 : Int32)), .val (.ref b12)] [(.int (2 : Int32)), (.ref b12)])) _
      refine XS.iconst X241.here hx rfl (hb hby at_172) ?_
      show Steps p.tables e below (T241.setTop (mkF m 173 #[.val (.long q0), .second, .val (.int p1), .val (.long q2), .second, .val (.int p3), .val (.int (2 : Int32)), .val (.ref b12)] [(.int (3 : Int32)), (.int (2 : Int32)), (.ref b12)])) _
      refine XS.iadd X241.here hx rfl (hb hby at_173) rfl ?_
      show Steps p.tables e below (T241.setTop (mkF m 174 #[.val (.long q0), .second, .val (.int p1), .val (.long q2), .second, .val (.int p3), .val (.int (2 : Int32)), .val (.ref b12)] [(.int ((2 : Int32) + (3 : Int32))), (.ref b12)])) _
      refine castTop (congrArg (fun z : Int32 => mkF m 174 #[.val (.long q0), .second, .val (.int p1), .val (.long q2), .second, .val (.int p3), .val (.int (2 : Int32)), .val (.ref b12)] [(.int z), (.ref b12)]) (by decide : ((2 : Int32) + (3 : Int32)) = (5 : Int32))) ?_
      show Steps p.tables e below (T241.setTop (mkF m 174 #[.val (.long q0), .second, .val (.int p1), .val (.long q2), .second, .val (.int p3), .val (.int (2 : Int32)), .val (.ref b12)] [(.int (5 : Int32)), (.ref b12)])) _
      refine XS.lloadN X241.here hx rfl (hb hby at_174) rfl ?_
      show Steps p.tables e below (T241.setTop (mkF m 175 #[.val (.long q0), .second, .val (.int p1), .val (.long q2), .second, .val (.int p3), .val (.int (2 : Int32)), .val (.ref b12)] [(.long q0), (.int (5 : Int32)), (.ref b12)])) _
      refine XS.bipush X241.here hx rfl (hb hby at_175) ?_
      show Steps p.tables e below (T241.setTop (mkF m 177 #[.val (.long q0), .second, .val (.int p1), .val (.long q2), .second, .val (.int p3), .val (.int (2 : Int32)), .val (.ref b12)] [(.int (32 : Int32)), (.long q0), (.int (5 : Int32)), (.ref b12)])) _
      refine XS.lushr X241.here hx rfl (hb hby at_177) rfl ?_
      show Steps p.tables e below (T241.setTop (mkF m 178 #[.val (.long q0), .second, .val (.int p1), .val (.long q2), .second, .val (.int p3), .val (.int (2 : Int32)), .val (.ref b12)] [(.long ((q0.toUInt64 >>> ((32 : Int32) &&& 0x3f).toInt64.toUInt64).toInt64)), (.int (5 : Int32)), (.ref b12)])) _
      refine XS.l2i X241.here hx rfl (hb hby at_178) rfl ?_
      show Steps p.tables e below (T241.setTop (mkF m 179 #[.val (.long q0), .second, .val (.int p1), .val (.long q2), .second, .val (.int p3), .val (.int (2 : Int32)), .val (.ref b12)] [(.int (((q0.toUInt64 >>> ((32 : Int32) &&& 0x3f).toInt64.toUInt64).toInt64).toInt32)), (.int (5 : Int32)), (.ref b12)])) _
      refine XS.i2b X241.here hx rfl (hb hby at_179) rfl ?_
      show Steps p.tables e below (T241.setTop (mkF m 180 #[.val (.long q0), .second, .val (.int p1), .val (.long q2), .second, .val (.int p3), .val (.int (2 : Int32)), .val (.ref b12)] [(.int ((((q0.toUInt64 >>> ((32 : Int32) &&& 0x3f).toInt64.toUInt64).toInt64).toInt32).toInt8.toInt32)), (.int (5 : Int32)), (.ref b12)])) _
      show Steps p.tables e below (T241.setTop (mkF m 180 #[.val (.long q0), .second, .val (.int p1), .val (.long q2), .second, .val (.int p3), .val (.int (2 : Int32)), .val (.ref b12)] [(.int ((((q0.toUInt64 >>> ((32 : Int32) &&& 0x3f).toInt64.toUInt64).toInt64).toInt32).toInt8.toInt32)), (.int (5 : Int32)), (.ref b12)])) _
      refine castTop (congrArg (fun z : Int32 => mkF m 180 #[.val (.long q0), .second, .val (.int p1), .val (.long q2), .second, .val (.int p3), .val (.int (2 : Int32)), .val (.ref b12)] [(.int z), (.int (5 : Int32)), (.ref b12)]) hv246.symm) ?_
      refine st248 _ ?_
      show Steps p.tables e below (T248.setTop (mkF m 181 #[.val (.long q0), .second, .val (.int p1), .val (.long q2), .second, .val (.int p3), .val (.int (2 : Int32)), .val (.ref b12)] [])) _
      refine XS.aload X248.here hx rfl (hb hby at_181) rfl rfl ?_
      show Steps p.tables e below (T248.setTop (mkF m 183 #[.val (.long q0), .second, .val (.int p1), .val (.long q2), .second, .val (.int p3), .val (.int (2 : Int32)), .val (.ref b12)] [(.ref b12)])) _
      refine XS.iload X248.here hx rfl (hb hby at_183) rfl ?_
      show Steps p.tables e below (T248.setTop (mkF m 185 #[.val (.long q0), .second, .val (.int p1), .val (.long q2), .second, .val (.int p3), .val (.int (2 : Int32)), .val (.ref b12)] [(.int (2 : Int32)), (.ref b12)])) _
      refine XS.iconst X248.here hx rfl (hb hby at_185) ?_
      show Steps p.tables e below (T248.setTop (mkF m 186 #[.val (.long q0), .second, .val (.int p1), .val (.long q2), .second, .val (.int p3), .val (.int (2 : Int32)), .val (.ref b12)] [(.int (4 : Int32)), (.int (2 : Int32)), (.ref b12)])) _
      refine XS.iadd X248.here hx rfl (hb hby at_186) rfl ?_
      show Steps p.tables e below (T248.setTop (mkF m 187 #[.val (.long q0), .second, .val (.int p1), .val (.long q2), .second, .val (.int p3), .val (.int (2 : Int32)), .val (.ref b12)] [(.int ((2 : Int32) + (4 : Int32))), (.ref b12)])) _
      refine castTop (congrArg (fun z : Int32 => mkF m 187 #[.val (.long q0), .second, .val (.int p1), .val (.long q2), .second, .val (.int p3), .val (.int (2 : Int32)), .val (.ref b12)] [(.int z), (.ref b12)]) (by decide : ((2 : Int32) + (4 : Int32)) = (6 : Int32))) ?_
      show Steps p.tables e below (T248.setTop (mkF m 187 #[.val (.long q0), .second, .val (.int p1), .val (.long q2), .second, .val (.int p3), .val (.int (2 : Int32)), .val (.ref b12)] [(.int (6 : Int32)), (.ref b12)])) _
      refine XS.lloadN X248.here hx rfl (hb hby at_187) rfl ?_
      show Steps p.tables e below (T248.setTop (mkF m 188 #[.val (.long q0), .second, .val (.int p1), .val (.long q2), .second, .val (.int p3), .val (.int (2 : Int32)), .val (.ref b12)] [(.long q0), (.int (6 : Int32)), (.ref b12)])) _
      refine XS.bipush X248.here hx rfl (hb hby at_188) ?_
      show Steps p.tables e below (T248.setTop (mkF m 190 #[.val (.long q0), .second, .val (.int p1), .val (.long q2), .second, .val (.int p3), .val (.int (2 : Int32)), .val (.ref b12)] [(.int (24 : Int32)), (.long q0), (.int (6 : Int32)), (.ref b12)])) _
      refine XS.lushr X248.here hx rfl (hb hby at_190) rfl ?_
      show Steps p.tables e below (T248.setTop (mkF m 191 #[.val (.long q0), .second, .val (.int p1), .val (.long q2), .second, .val (.int p3), .val (.int (2 : Int32)), .val (.ref b12)] [(.long ((q0.toUInt64 >>> ((24 : Int32) &&& 0x3f).toInt64.toUInt64).toInt64)), (.int (6 : Int32)), (.ref b12)])) _
      refine XS.l2i X248.here hx rfl (hb hby at_191) rfl ?_
      show Steps p.tables e below (T248.setTop (mkF m 192 #[.val (.long q0), .second, .val (.int p1), .val (.long q2), .second, .val (.int p3), .val (.int (2 : Int32)), .val (.ref b12)] [(.int (((q0.toUInt64 >>> ((24 : Int32) &&& 0x3f).toInt64.toUInt64).toInt64).toInt32)), (.int (6 : Int32)), (.ref b12)])) _
      refine XS.i2b X248.here hx rfl (hb hby at_192) rfl ?_
      show Steps p.tables e below (T248.setTop (mkF m 193 #[.val (.long q0), .second, .val (.int p1), .val (.long q2), .second, .val (.int p3), .val (.int (2 : Int32)), .val (.ref b12)] [(.int ((((q0.toUInt64 >>> ((24 : Int32) &&& 0x3f).toInt64.toUInt64).toInt64).toInt32).toInt8.toInt32)), (.int (6 : Int32)), (.ref b12)])) _
      show Steps p.tables e below (T248.setTop (mkF m 193 #[.val (.long q0), .second, .val (.int p1), .val (.long q2), .second, .val (.int p3), .val (.int (2 : Int32)), .val (.ref b12)] [(.int ((((q0.toUInt64 >>> ((24 : Int32) &&& 0x3f).toInt64.toUInt64).toInt64).toInt32).toInt8.toInt32)), (.int (6 : Int32)), (.ref b12)])) _
      refine castTop (congrArg (fun z : Int32 => mkF m 193 #[.val (.long q0), .second, .val (.int p1), .val (.long q2), .second, .val (.int p3), .val (.int (2 : Int32)), .val (.ref b12)] [(.int z), (.int (6 : Int32)), (.ref b12)]) hv253.symm) ?_
      refine st255 _ ?_
      show Steps p.tables e below (T255.setTop (mkF m 194 #[.val (.long q0), .second, .val (.int p1), .val (.long q2), .second, .val (.int p3), .val (.int (2 : Int32)), .val (.ref b12)] [])) _
      refine XS.aload X255.here hx rfl (hb hby at_194) rfl rfl ?_
      show Steps p.tables e below (T255.setTop (mkF m 196 #[.val (.long q0), .second, .val (.int p1), .val (.long q2), .second, .val (.int p3), .val (.int (2 : Int32)), .val (.ref b12)] [(.ref b12)])) _
      refine XS.iload X255.here hx rfl (hb hby at_196) rfl ?_
      show Steps p.tables e below (T255.setTop (mkF m 198 #[.val (.long q0), .second, .val (.int p1), .val (.long q2), .second, .val (.int p3), .val (.int (2 : Int32)), .val (.ref b12)] [(.int (2 : Int32)), (.ref b12)])) _
      refine XS.iconst X255.here hx rfl (hb hby at_198) ?_
      show Steps p.tables e below (T255.setTop (mkF m 199 #[.val (.long q0), .second, .val (.int p1), .val (.long q2), .second, .val (.int p3), .val (.int (2 : Int32)), .val (.ref b12)] [(.int (5 : Int32)), (.int (2 : Int32)), (.ref b12)])) _
      refine XS.iadd X255.here hx rfl (hb hby at_199) rfl ?_
      show Steps p.tables e below (T255.setTop (mkF m 200 #[.val (.long q0), .second, .val (.int p1), .val (.long q2), .second, .val (.int p3), .val (.int (2 : Int32)), .val (.ref b12)] [(.int ((2 : Int32) + (5 : Int32))), (.ref b12)])) _
      refine castTop (congrArg (fun z : Int32 => mkF m 200 #[.val (.long q0), .second, .val (.int p1), .val (.long q2), .second, .val (.int p3), .val (.int (2 : Int32)), .val (.ref b12)] [(.int z), (.ref b12)]) (by decide : ((2 : Int32) + (5 : Int32)) = (7 : Int32))) ?_
      show Steps p.tables e below (T255.setTop (mkF m 200 #[.val (.long q0), .second, .val (.int p1), .val (.long q2), .second, .val (.int p3), .val (.int (2 : Int32)), .val (.ref b12)] [(.int (7 : Int32)), (.ref b12)])) _
      refine XS.lloadN X255.here hx rfl (hb hby at_200) rfl ?_
      show Steps p.tables e below (T255.setTop (mkF m 201 #[.val (.long q0), .second, .val (.int p1), .val (.long q2), .second, .val (.int p3), .val (.int (2 : Int32)), .val (.ref b12)] [(.long q0), (.int (7 : Int32)), (.ref b12)])) _
      refine XS.bipush X255.here hx rfl (hb hby at_201) ?_
      show Steps p.tables e below (T255.setTop (mkF m 203 #[.val (.long q0), .second, .val (.int p1), .val (.long q2), .second, .val (.int p3), .val (.int (2 : Int32)), .val (.ref b12)] [(.int (16 : Int32)), (.long q0), (.int (7 : Int32)), (.ref b12)])) _
      refine XS.lushr X255.here hx rfl (hb hby at_203) rfl ?_
      show Steps p.tables e below (T255.setTop (mkF m 204 #[.val (.long q0), .second, .val (.int p1), .val (.long q2), .second, .val (.int p3), .val (.int (2 : Int32)), .val (.ref b12)] [(.long ((q0.toUInt64 >>> ((16 : Int32) &&& 0x3f).toInt64.toUInt64).toInt64)), (.int (7 : Int32)), (.ref b12)])) _
      refine XS.l2i X255.here hx rfl (hb hby at_204) rfl ?_
      show Steps p.tables e below (T255.setTop (mkF m 205 #[.val (.long q0), .second, .val (.int p1), .val (.long q2), .second, .val (.int p3), .val (.int (2 : Int32)), .val (.ref b12)] [(.int (((q0.toUInt64 >>> ((16 : Int32) &&& 0x3f).toInt64.toUInt64).toInt64).toInt32)), (.int (7 : Int32)), (.ref b12)])) _
      refine XS.i2b X255.here hx rfl (hb hby at_205) rfl ?_
      show Steps p.tables e below (T255.setTop (mkF m 206 #[.val (.long q0), .second, .val (.int p1), .val (.long q2), .second, .val (.int p3), .val (.int (2 : Int32)), .val (.ref b12)] [(.int ((((q0.toUInt64 >>> ((16 : Int32) &&& 0x3f).toInt64.toUInt64).toInt64).toInt32).toInt8.toInt32)), (.int (7 : Int32)), (.ref b12)])) _
      show Steps p.tables e below (T255.setTop (mkF m 206 #[.val (.long q0), .second, .val (.int p1), .val (.long q2), .second, .val (.int p3), .val (.int (2 : Int32)), .val (.ref b12)] [(.int ((((q0.toUInt64 >>> ((16 : Int32) &&& 0x3f).toInt64.toUInt64).toInt64).toInt32).toInt8.toInt32)), (.int (7 : Int32)), (.ref b12)])) _
      refine castTop (congrArg (fun z : Int32 => mkF m 206 #[.val (.long q0), .second, .val (.int p1), .val (.long q2), .second, .val (.int p3), .val (.int (2 : Int32)), .val (.ref b12)] [(.int z), (.int (7 : Int32)), (.ref b12)]) hv260.symm) ?_
      refine st262 _ ?_
      show Steps p.tables e below (T262.setTop (mkF m 207 #[.val (.long q0), .second, .val (.int p1), .val (.long q2), .second, .val (.int p3), .val (.int (2 : Int32)), .val (.ref b12)] [])) _
      refine XS.aload X262.here hx rfl (hb hby at_207) rfl rfl ?_
      show Steps p.tables e below (T262.setTop (mkF m 209 #[.val (.long q0), .second, .val (.int p1), .val (.long q2), .second, .val (.int p3), .val (.int (2 : Int32)), .val (.ref b12)] [(.ref b12)])) _
      refine XS.iload X262.here hx rfl (hb hby at_209) rfl ?_
      show Steps p.tables e below (T262.setTop (mkF m 211 #[.val (.long q0), .second, .val (.int p1), .val (.long q2), .second, .val (.int p3), .val (.int (2 : Int32)), .val (.ref b12)] [(.int (2 : Int32)), (.ref b12)])) _
      refine XS.bipush X262.here hx rfl (hb hby at_211) ?_
      show Steps p.tables e below (T262.setTop (mkF m 213 #[.val (.long q0), .second, .val (.int p1), .val (.long q2), .second, .val (.int p3), .val (.int (2 : Int32)), .val (.ref b12)] [(.int (6 : Int32)), (.int (2 : Int32)), (.ref b12)])) _
      refine XS.iadd X262.here hx rfl (hb hby at_213) rfl ?_
      show Steps p.tables e below (T262.setTop (mkF m 214 #[.val (.long q0), .second, .val (.int p1), .val (.long q2), .second, .val (.int p3), .val (.int (2 : Int32)), .val (.ref b12)] [(.int ((2 : Int32) + (6 : Int32))), (.ref b12)])) _
      refine castTop (congrArg (fun z : Int32 => mkF m 214 #[.val (.long q0), .second, .val (.int p1), .val (.long q2), .second, .val (.int p3), .val (.int (2 : Int32)), .val (.ref b12)] [(.int z), (.ref b12)]) (by decide : ((2 : Int32) + (6 : Int32)) = (8 : Int32))) ?_
      show Steps p.tables e below (T262.setTop (mkF m 214 #[.val (.long q0), .second, .val (.int p1), .val (.long q2), .second, .val (.int p3), .val (.int (2 : Int32)), .val (.ref b12)] [(.int (8 : Int32)), (.ref b12)])) _
      refine XS.lloadN X262.here hx rfl (hb hby at_214) rfl ?_
      show Steps p.tables e below (T262.setTop (mkF m 215 #[.val (.long q0), .second, .val (.int p1), .val (.long q2), .second, .val (.int p3), .val (.int (2 : Int32)), .val (.ref b12)] [(.long q0), (.int (8 : Int32)), (.ref b12)])) _
      refine XS.bipush X262.here hx rfl (hb hby at_215) ?_
      show Steps p.tables e below (T262.setTop (mkF m 217 #[.val (.long q0), .second, .val (.int p1), .val (.long q2), .second, .val (.int p3), .val (.int (2 : Int32)), .val (.ref b12)] [(.int (8 : Int32)), (.long q0), (.int (8 : Int32)), (.ref b12)])) _
      refine XS.lushr X262.here hx rfl (hb hby at_217) rfl ?_
      show Steps p.tables e below (T262.setTop (mkF m 218 #[.val (.long q0), .second, .val (.int p1), .val (.long q2), .second, .val (.int p3), .val (.int (2 : Int32)), .val (.ref b12)] [(.long ((q0.toUInt64 >>> ((8 : Int32) &&& 0x3f).toInt64.toUInt64).toInt64)), (.int (8 : Int32)), (.ref b12)])) _
      refine XS.l2i X262.here hx rfl (hb hby at_218) rfl ?_
      show Steps p.tables e below (T262.setTop (mkF m 219 #[.val (.long q0), .second, .val (.int p1), .val (.long q2), .second, .val (.int p3), .val (.int (2 : Int32)), .val (.ref b12)] [(.int (((q0.toUInt64 >>> ((8 : Int32) &&& 0x3f).toInt64.toUInt64).toInt64).toInt32)), (.int (8 : Int32)), (.ref b12)])) _
      refine XS.i2b X262.here hx rfl (hb hby at_219) rfl ?_
      show Steps p.tables e below (T262.setTop (mkF m 220 #[.val (.long q0), .second, .val (.int p1), .val (.long q2), .second, .val (.int p3), .val (.int (2 : Int32)), .val (.ref b12)] [(.int ((((q0.toUInt64 >>> ((8 : Int32) &&& 0x3f).toInt64.toUInt64).toInt64).toInt32).toInt8.toInt32)), (.int (8 : Int32)), (.ref b12)])) _
      show Steps p.tables e below (T262.setTop (mkF m 220 #[.val (.long q0), .second, .val (.int p1), .val (.long q2), .second, .val (.int p3), .val (.int (2 : Int32)), .val (.ref b12)] [(.int ((((q0.toUInt64 >>> ((8 : Int32) &&& 0x3f).toInt64.toUInt64).toInt64).toInt32).toInt8.toInt32)), (.int (8 : Int32)), (.ref b12)])) _
      refine castTop (congrArg (fun z : Int32 => mkF m 220 #[.val (.long q0), .second, .val (.int p1), .val (.long q2), .second, .val (.int p3), .val (.int (2 : Int32)), .val (.ref b12)] [(.int z), (.int (8 : Int32)), (.ref b12)]) hv267.symm) ?_
      refine st269 _ ?_
      show Steps p.tables e below (T269.setTop (mkF m 221 #[.val (.long q0), .second, .val (.int p1), .val (.long q2), .second, .val (.int p3), .val (.int (2 : Int32)), .val (.ref b12)] [])) _
      refine XS.aload X269.here hx rfl (hb hby at_221) rfl rfl ?_
      show Steps p.tables e below (T269.setTop (mkF m 223 #[.val (.long q0), .second, .val (.int p1), .val (.long q2), .second, .val (.int p3), .val (.int (2 : Int32)), .val (.ref b12)] [(.ref b12)])) _
      refine XS.iload X269.here hx rfl (hb hby at_223) rfl ?_
      show Steps p.tables e below (T269.setTop (mkF m 225 #[.val (.long q0), .second, .val (.int p1), .val (.long q2), .second, .val (.int p3), .val (.int (2 : Int32)), .val (.ref b12)] [(.int (2 : Int32)), (.ref b12)])) _
      refine XS.bipush X269.here hx rfl (hb hby at_225) ?_
      show Steps p.tables e below (T269.setTop (mkF m 227 #[.val (.long q0), .second, .val (.int p1), .val (.long q2), .second, .val (.int p3), .val (.int (2 : Int32)), .val (.ref b12)] [(.int (7 : Int32)), (.int (2 : Int32)), (.ref b12)])) _
      refine XS.iadd X269.here hx rfl (hb hby at_227) rfl ?_
      show Steps p.tables e below (T269.setTop (mkF m 228 #[.val (.long q0), .second, .val (.int p1), .val (.long q2), .second, .val (.int p3), .val (.int (2 : Int32)), .val (.ref b12)] [(.int ((2 : Int32) + (7 : Int32))), (.ref b12)])) _
      refine castTop (congrArg (fun z : Int32 => mkF m 228 #[.val (.long q0), .second, .val (.int p1), .val (.long q2), .second, .val (.int p3), .val (.int (2 : Int32)), .val (.ref b12)] [(.int z), (.ref b12)]) (by decide : ((2 : Int32) + (7 : Int32)) = (9 : Int32))) ?_
      show Steps p.tables e below (T269.setTop (mkF m 228 #[.val (.long q0), .second, .val (.int p1), .val (.long q2), .second, .val (.int p3), .val (.int (2 : Int32)), .val (.ref b12)] [(.int (9 : Int32)), (.ref b12)])) _
      refine XS.lloadN X269.here hx rfl (hb hby at_228) rfl ?_
      show Steps p.tables e below (T269.setTop (mkF m 229 #[.val (.long q0), .second, .val (.int p1), .val (.long q2), .second, .val (.int p3), .val (.int (2 : Int32)), .val (.ref b12)] [(.long q0), (.int (9 : Int32)), (.ref b12)])) _
      refine XS.l2i X269.here hx rfl (hb hby at_229) rfl ?_
      show Steps p.tables e below (T269.setTop (mkF m 230 #[.val (.long q0), .second, .val (.int p1), .val (.long q2), .second, .val (.int p3), .val (.int (2 : Int32)), .val (.ref b12)] [(.int (q0.toInt32)), (.int (9 : Int32)), (.ref b12)])) _
      refine XS.i2b X269.here hx rfl (hb hby at_230) rfl ?_
      show Steps p.tables e below (T269.setTop (mkF m 231 #[.val (.long q0), .second, .val (.int p1), .val (.long q2), .second, .val (.int p3), .val (.int (2 : Int32)), .val (.ref b12)] [(.int ((q0.toInt32).toInt8.toInt32)), (.int (9 : Int32)), (.ref b12)])) _
      show Steps p.tables e below (T269.setTop (mkF m 231 #[.val (.long q0), .second, .val (.int p1), .val (.long q2), .second, .val (.int p3), .val (.int (2 : Int32)), .val (.ref b12)] [(.int ((q0.toInt32).toInt8.toInt32)), (.int (9 : Int32)), (.ref b12)])) _
      refine castTop (congrArg (fun z : Int32 => mkF m 231 #[.val (.long q0), .second, .val (.int p1), .val (.long q2), .second, .val (.int p3), .val (.int (2 : Int32)), .val (.ref b12)] [(.int z), (.int (9 : Int32)), (.ref b12)]) hv274.symm) ?_
      refine st276 _ ?_
      show Steps p.tables e below (T276.setTop (mkF m 232 #[.val (.long q0), .second, .val (.int p1), .val (.long q2), .second, .val (.int p3), .val (.int (2 : Int32)), .val (.ref b12)] [])) _
      refine XS.aload X276.here hx rfl (hb hby at_232) rfl rfl ?_
      show Steps p.tables e below (T276.setTop (mkF m 234 #[.val (.long q0), .second, .val (.int p1), .val (.long q2), .second, .val (.int p3), .val (.int (2 : Int32)), .val (.ref b12)] [(.ref b12)])) _
      refine XS.iload X276.here hx rfl (hb hby at_234) rfl ?_
      show Steps p.tables e below (T276.setTop (mkF m 236 #[.val (.long q0), .second, .val (.int p1), .val (.long q2), .second, .val (.int p3), .val (.int (2 : Int32)), .val (.ref b12)] [(.int (2 : Int32)), (.ref b12)])) _
      refine st281 _ ?_
      show Steps p.tables e below (T281.setTop (mkF m 239 #[.val (.long q0), .second, .val (.int p1), .val (.long q2), .second, .val (.int p3), .val (.int (2 : Int32)), .val (.ref b12)] [(.long (own_rdl (own_rd (nar .byte v225) (nar .byte v232) (nar .byte v239) (nar .byte v246)) (own_rd (nar .byte v253) (nar .byte v260) (nar .byte v267) (nar .byte v274))))])) _
      refine XS.lloadN X281.here hx rfl (hb hby at_239) rfl ?_
      show Steps p.tables e below (T281.setTop (mkF m 240 #[.val (.long q0), .second, .val (.int p1), .val (.long q2), .second, .val (.int p3), .val (.int (2 : Int32)), .val (.ref b12)] [(.long q0), (.long (own_rdl (own_rd (nar .byte v225) (nar .byte v232) (nar .byte v239) (nar .byte v246)) (own_rd (nar .byte v253) (nar .byte v260) (nar .byte v267) (nar .byte v274))))])) _
      refine XS.lcmp X281.here hx rfl (hb hby at_240) rfl ?_
      show Steps p.tables e below (T281.setTop (mkF m 241 #[.val (.long q0), .second, .val (.int p1), .val (.long q2), .second, .val (.int p3), .val (.int (2 : Int32)), .val (.ref b12)] [(.int (lcmpW (own_rdl (own_rd (nar .byte v225) (nar .byte v232) (nar .byte v239) (nar .byte v246)) (own_rd (nar .byte v253) (nar .byte v260) (nar .byte v267) (nar .byte v274))) q0))])) _
      exact kk)
    by_cases hc285 : (own_rdl (own_rd (nar .byte v225) (nar .byte v232) (nar .byte v239) (nar .byte v246)) (own_rd (nar .byte v253) (nar .byte v260) (nar .byte v267) (nar .byte v274))) = q0
    · obtain ⟨fs, hr, hrun, hended, hW, hsame⟩ := X281.leave (v := some (.int (1 : Int32))) (fun h => by rw [Bd.returns] at h; cases h)
      refine ⟨_, _, pre284 _ ?_, hrun, hended, _, _, rfl, ?_, ⟨_, rfl⟩, hW, hsame.mono (by decide) (by decide)⟩
      · show Steps p.tables e below (T281.setTop (mkF m 241 #[.val (.long q0), .second, .val (.int p1), .val (.long q2), .second, .val (.int p3), .val (.int (2 : Int32)), .val (.ref b12)] [(.int (lcmpW (own_rdl (own_rd (nar .byte v225) (nar .byte v232) (nar .byte v239) (nar .byte v246)) (own_rd (nar .byte v253) (nar .byte v260) (nar .byte v267) (nar .byte v274))) q0))])) _
        refine XS.ifNo X281.here hx rfl (hb hby at_241) rfl ((if0 _ _).trans (teq ((lw_eq (own_rdl (own_rd (nar .byte v225) (nar .byte v232) (nar .byte v239) (nar .byte v246)) (own_rd (nar .byte v253) (nar .byte v260) (nar .byte v267) (nar .byte v274))) q0).mpr hc285)).2) ?_
        show Steps p.tables e below (T281.setTop (mkF m 244 #[.val (.long q0), .second, .val (.int p1), .val (.long q2), .second, .val (.int p3), .val (.int (2 : Int32)), .val (.ref b12)] [])) _
        refine XS.iconst X281.here hx rfl (hb hby at_244) ?_
        show Steps p.tables e below (T281.setTop (mkF m 245 #[.val (.long q0), .second, .val (.int p1), .val (.long q2), .second, .val (.int p3), .val (.int (2 : Int32)), .val (.ref b12)] [(.int (1 : Int32))])) _
        refine XS.goto X281.here hx rfl (pc0 := 245) (pc' := 249) rfl (hb hby at_245) (by decide) (by decide) ?_
        show Steps p.tables e below (T281.setTop (mkF m 249 #[.val (.long q0), .second, .val (.int p1), .val (.long q2), .second, .val (.int p3), .val (.int (2 : Int32)), .val (.ref b12)] [(.int (1 : Int32))])) _
        exact retN X281 hx (t := .boolean) Bd.returns (by simp) (hb hby at_249) hr
      · show own_Q0 Z q0 p1 q2 p3 h0 n0 _ T281.heap _
        rw [e283]
        exact ⟨rfl, N282⟩
    · exact (own_leaf0_6 q0 v225 hv225 v232 hv232 v239 hv239 v246 hv246 v253 hv253 v260 hv260 v267 hv267 v274 hv274 hc285).elim
  · subst hs102
    obtain ⟨v286, hv286⟩ : ∃ z : Int32, z = ((((q0.toUInt64 >>> ((56 : Int32) &&& 0x3f).toInt64.toUInt64).toInt64).toInt32).toInt8.toInt32) := ⟨_, rfl⟩
    obtain ⟨cl287, Ar287, q287, S287, M287, H287, G287⟩ := id f99
    have hin287 : ¬ ((3 : Int32) < 0 ∨ cl287.slots.size ≤ ((3 : Int32)).toNatClampNeg) := inb_of S287 ⟨by decide, by decide⟩
    obtain ⟨T288, h288, X288, e288, W288, st288⟩ := stB X95 hx hZ e95 Ar287 (j := (3 : Int32)) hin287 (g := (mkF m 141 #[.val (.long q0), .second, .val (.int p1), .val (.long q2), .second, .val (.int p3), .val (.int (3 : Int32)), .val (.ref b12)] [(.int v286), (.int (3 : Int32)), (.ref b12)])) rfl rfl (hb hby at_141)
    have K289 : Keep h0 h288 [] := K96.wr W288 (Or.inr sz_b12)
    have z290 : n0 ≤ h288.size := Nat.le_trans z97 (Keep.of_wr W288).1
    have N291 := Fr.snoc X288 N98 g_b12
    have f292 : Arv Z h288 b12 k12 .byte (12 : Int32) [(.int (nar .byte v16)), (.int (nar .byte v23)), (.int (nar .byte v30)), (.int (nar .byte v286)), (.int (nar .byte v44)), (.int (nar .byte v51)), (.int (nar .byte v58)), (.int (nar .byte v65)), (.int (nar .byte v72)), (.int (nar .byte v79)), (.int (nar .byte v86)), (.int (nar .byte v93))] (.int (0 : Int32)) := Arv.set Ar287 q287 S287 M287 H287 G287 (fits_nar_byte _) W288 3 rfl (Nat.le_of_ble_eq_true rfl)
    obtain ⟨v293, hv293⟩ : ∃ z : Int32, z = ((((q0.toUInt64 >>> ((48 : Int32) &&& 0x3f).toInt64.toUInt64).toInt64).toInt32).toInt8.toInt32) := ⟨_, rfl⟩
    obtain ⟨cl294, Ar294, q294, S294, M294, H294, G294⟩ := id f292
    have hin294 : ¬ ((4 : Int32) < 0 ∨ cl294.slots.size ≤ ((4 : Int32)).toNatClampNeg) := inb_of S294 ⟨by decide, by decide⟩
    obtain ⟨T295, h295, X295, e295, W295, st295⟩ := stB X288 hx hZ e288 Ar294 (j := (4 : Int32)) hin294 (g := (mkF m 154 #[.val (.long q0), .second, .val (.int p1), .val (.long q2), .second, .val (.int p3), .val (.int (3 : Int32)), .val (.ref b12)] [(.int v293), (.int (4 : Int32)), (.ref b12)])) rfl rfl (hb hby at_154)
    have K296 : Keep h0 h295 [] := K289.wr W295 (Or.inr sz_b12)
    have z297 : n0 ≤ h295.size := Nat.le_trans z290 (Keep.of_wr W295).1
    have N298 := Fr.snoc X295 N291 g_b12
    have f299 : Arv Z h295 b12 k12 .byte (12 : Int32) [(.int (nar .byte v16)), (.int (nar .byte v23)), (.int (nar .byte v30)), (.int (nar .byte v286)), (.int (nar .byte v293)), (.int (nar .byte v51)), (.int (nar .byte v58)), (.int (nar .byte v65)), (.int (nar .byte v72)), (.int (nar .byte v79)), (.int (nar .byte v86)), (.int (nar .byte v93))] (.int (0 : Int32)) := Arv.set Ar294 q294 S294 M294 H294 G294 (fits_nar_byte _) W295 4 rfl (Nat.le_of_ble_eq_true rfl)
    obtain ⟨v300, hv300⟩ : ∃ z : Int32, z = ((((q0.toUInt64 >>> ((40 : Int32) &&& 0x3f).toInt64.toUInt64).toInt64).toInt32).toInt8.toInt32) := ⟨_, rfl⟩
    obtain ⟨cl301, Ar301, q301, S301, M301, H301, G301⟩ := id f299
    have hin301 : ¬ ((5 : Int32) < 0 ∨ cl301.slots.size ≤ ((5 : Int32)).toNatClampNeg) := inb_of S301 ⟨by decide, by decide⟩
    obtain ⟨T302, h302, X302, e302, W302, st302⟩ := stB X295 hx hZ e295 Ar301 (j := (5 : Int32)) hin301 (g := (mkF m 167 #[.val (.long q0), .second, .val (.int p1), .val (.long q2), .second, .val (.int p3), .val (.int (3 : Int32)), .val (.ref b12)] [(.int v300), (.int (5 : Int32)), (.ref b12)])) rfl rfl (hb hby at_167)
    have K303 : Keep h0 h302 [] := K296.wr W302 (Or.inr sz_b12)
    have z304 : n0 ≤ h302.size := Nat.le_trans z297 (Keep.of_wr W302).1
    have N305 := Fr.snoc X302 N298 g_b12
    have f306 : Arv Z h302 b12 k12 .byte (12 : Int32) [(.int (nar .byte v16)), (.int (nar .byte v23)), (.int (nar .byte v30)), (.int (nar .byte v286)), (.int (nar .byte v293)), (.int (nar .byte v300)), (.int (nar .byte v58)), (.int (nar .byte v65)), (.int (nar .byte v72)), (.int (nar .byte v79)), (.int (nar .byte v86)), (.int (nar .byte v93))] (.int (0 : Int32)) := Arv.set Ar301 q301 S301 M301 H301 G301 (fits_nar_byte _) W302 5 rfl (Nat.le_of_ble_eq_true rfl)
    obtain ⟨v307, hv307⟩ : ∃ z : Int32, z = ((((q0.toUInt64 >>> ((32 : Int32) &&& 0x3f).toInt64.toUInt64).toInt64).toInt32).toInt8.toInt32) := ⟨_, rfl⟩
    obtain ⟨cl308, Ar308, q308, S308, M308, H308, G308⟩ := id f306
    have hin308 : ¬ ((6 : Int32) < 0 ∨ cl308.slots.size ≤ ((6 : Int32)).toNatClampNeg) := inb_of S308 ⟨by decide, by decide⟩
    obtain ⟨T309, h309, X309, e309, W309, st309⟩ := stB X302 hx hZ e302 Ar308 (j := (6 : Int32)) hin308 (g := (mkF m 180 #[.val (.long q0), .second, .val (.int p1), .val (.long q2), .second, .val (.int p3), .val (.int (3 : Int32)), .val (.ref b12)] [(.int v307), (.int (6 : Int32)), (.ref b12)])) rfl rfl (hb hby at_180)
    have K310 : Keep h0 h309 [] := K303.wr W309 (Or.inr sz_b12)
    have z311 : n0 ≤ h309.size := Nat.le_trans z304 (Keep.of_wr W309).1
    have N312 := Fr.snoc X309 N305 g_b12
    have f313 : Arv Z h309 b12 k12 .byte (12 : Int32) [(.int (nar .byte v16)), (.int (nar .byte v23)), (.int (nar .byte v30)), (.int (nar .byte v286)), (.int (nar .byte v293)), (.int (nar .byte v300)), (.int (nar .byte v307)), (.int (nar .byte v65)), (.int (nar .byte v72)), (.int (nar .byte v79)), (.int (nar .byte v86)), (.int (nar .byte v93))] (.int (0 : Int32)) := Arv.set Ar308 q308 S308 M308 H308 G308 (fits_nar_byte _) W309 6 rfl (Nat.le_of_ble_eq_true rfl)
    obtain ⟨v314, hv314⟩ : ∃ z : Int32, z = ((((q0.toUInt64 >>> ((24 : Int32) &&& 0x3f).toInt64.toUInt64).toInt64).toInt32).toInt8.toInt32) := ⟨_, rfl⟩
    obtain ⟨cl315, Ar315, q315, S315, M315, H315, G315⟩ := id f313
    have hin315 : ¬ ((7 : Int32) < 0 ∨ cl315.slots.size ≤ ((7 : Int32)).toNatClampNeg) := inb_of S315 ⟨by decide, by decide⟩
    obtain ⟨T316, h316, X316, e316, W316, st316⟩ := stB X309 hx hZ e309 Ar315 (j := (7 : Int32)) hin315 (g := (mkF m 193 #[.val (.long q0), .second, .val (.int p1), .val (.long q2), .second, .val (.int p3), .val (.int (3 : Int32)), .val (.ref b12)] [(.int v314), (.int (7 : Int32)), (.ref b12)])) rfl rfl (hb hby at_193)
    have K317 : Keep h0 h316 [] := K310.wr W316 (Or.inr sz_b12)
    have z318 : n0 ≤ h316.size := Nat.le_trans z311 (Keep.of_wr W316).1
    have N319 := Fr.snoc X316 N312 g_b12
    have f320 : Arv Z h316 b12 k12 .byte (12 : Int32) [(.int (nar .byte v16)), (.int (nar .byte v23)), (.int (nar .byte v30)), (.int (nar .byte v286)), (.int (nar .byte v293)), (.int (nar .byte v300)), (.int (nar .byte v307)), (.int (nar .byte v314)), (.int (nar .byte v72)), (.int (nar .byte v79)), (.int (nar .byte v86)), (.int (nar .byte v93))] (.int (0 : Int32)) := Arv.set Ar315 q315 S315 M315 H315 G315 (fits_nar_byte _) W316 7 rfl (Nat.le_of_ble_eq_true rfl)
    obtain ⟨v321, hv321⟩ : ∃ z : Int32, z = ((((q0.toUInt64 >>> ((16 : Int32) &&& 0x3f).toInt64.toUInt64).toInt64).toInt32).toInt8.toInt32) := ⟨_, rfl⟩
    obtain ⟨cl322, Ar322, q322, S322, M322, H322, G322⟩ := id f320
    have hin322 : ¬ ((8 : Int32) < 0 ∨ cl322.slots.size ≤ ((8 : Int32)).toNatClampNeg) := inb_of S322 ⟨by decide, by decide⟩
    obtain ⟨T323, h323, X323, e323, W323, st323⟩ := stB X316 hx hZ e316 Ar322 (j := (8 : Int32)) hin322 (g := (mkF m 206 #[.val (.long q0), .second, .val (.int p1), .val (.long q2), .second, .val (.int p3), .val (.int (3 : Int32)), .val (.ref b12)] [(.int v321), (.int (8 : Int32)), (.ref b12)])) rfl rfl (hb hby at_206)
    have K324 : Keep h0 h323 [] := K317.wr W323 (Or.inr sz_b12)
    have z325 : n0 ≤ h323.size := Nat.le_trans z318 (Keep.of_wr W323).1
    have N326 := Fr.snoc X323 N319 g_b12
    have f327 : Arv Z h323 b12 k12 .byte (12 : Int32) [(.int (nar .byte v16)), (.int (nar .byte v23)), (.int (nar .byte v30)), (.int (nar .byte v286)), (.int (nar .byte v293)), (.int (nar .byte v300)), (.int (nar .byte v307)), (.int (nar .byte v314)), (.int (nar .byte v321)), (.int (nar .byte v79)), (.int (nar .byte v86)), (.int (nar .byte v93))] (.int (0 : Int32)) := Arv.set Ar322 q322 S322 M322 H322 G322 (fits_nar_byte _) W323 8 rfl (Nat.le_of_ble_eq_true rfl)
    obtain ⟨v328, hv328⟩ : ∃ z : Int32, z = ((((q0.toUInt64 >>> ((8 : Int32) &&& 0x3f).toInt64.toUInt64).toInt64).toInt32).toInt8.toInt32) := ⟨_, rfl⟩
    obtain ⟨cl329, Ar329, q329, S329, M329, H329, G329⟩ := id f327
    have hin329 : ¬ ((9 : Int32) < 0 ∨ cl329.slots.size ≤ ((9 : Int32)).toNatClampNeg) := inb_of S329 ⟨by decide, by decide⟩
    obtain ⟨T330, h330, X330, e330, W330, st330⟩ := stB X323 hx hZ e323 Ar329 (j := (9 : Int32)) hin329 (g := (mkF m 220 #[.val (.long q0), .second, .val (.int p1), .val (.long q2), .second, .val (.int p3), .val (.int (3 : Int32)), .val (.ref b12)] [(.int v328), (.int (9 : Int32)), (.ref b12)])) rfl rfl (hb hby at_220)
    have K331 : Keep h0 h330 [] := K324.wr W330 (Or.inr sz_b12)
    have z332 : n0 ≤ h330.size := Nat.le_trans z325 (Keep.of_wr W330).1
    have N333 := Fr.snoc X330 N326 g_b12
    have f334 : Arv Z h330 b12 k12 .byte (12 : Int32) [(.int (nar .byte v16)), (.int (nar .byte v23)), (.int (nar .byte v30)), (.int (nar .byte v286)), (.int (nar .byte v293)), (.int (nar .byte v300)), (.int (nar .byte v307)), (.int (nar .byte v314)), (.int (nar .byte v321)), (.int (nar .byte v328)), (.int (nar .byte v86)), (.int (nar .byte v93))] (.int (0 : Int32)) := Arv.set Ar329 q329 S329 M329 H329 G329 (fits_nar_byte _) W330 9 rfl (Nat.le_of_ble_eq_true rfl)
    obtain ⟨v335, hv335⟩ : ∃ z : Int32, z = ((q0.toInt32).toInt8.toInt32) := ⟨_, rfl⟩
    obtain ⟨cl336, Ar336, q336, S336, M336, H336, G336⟩ := id f334
    have hin336 : ¬ ((10 : Int32) < 0 ∨ cl336.slots.size ≤ ((10 : Int32)).toNatClampNeg) := inb_of S336 ⟨by decide, by decide⟩
    obtain ⟨T337, h337, X337, e337, W337, st337⟩ := stB X330 hx hZ e330 Ar336 (j := (10 : Int32)) hin336 (g := (mkF m 231 #[.val (.long q0), .second, .val (.int p1), .val (.long q2), .second, .val (.int p3), .val (.int (3 : Int32)), .val (.ref b12)] [(.int v335), (.int (10 : Int32)), (.ref b12)])) rfl rfl (hb hby at_231)
    have K338 : Keep h0 h337 [] := K331.wr W337 (Or.inr sz_b12)
    have z339 : n0 ≤ h337.size := Nat.le_trans z332 (Keep.of_wr W337).1
    have N340 := Fr.snoc X337 N333 g_b12
    have f341 : Arv Z h337 b12 k12 .byte (12 : Int32) [(.int (nar .byte v16)), (.int (nar .byte v23)), (.int (nar .byte v30)), (.int (nar .byte v286)), (.int (nar .byte v293)), (.int (nar .byte v300)), (.int (nar .byte v307)), (.int (nar .byte v314)), (.int (nar .byte v321)), (.int (nar .byte v328)), (.int (nar .byte v335)), (.int (nar .byte v93))] (.int (0 : Int32)) := Arv.set Ar336 q336 S336 M336 H336 G336 (fits_nar_byte _) W337 10 rfl (Nat.le_of_ble_eq_true rfl)
    obtain ⟨_, _, ⟨T342, L342, k342, n342⟩, -, X342, ⟨Lc342, hQ342, l342, y342, z342⟩, st342⟩ := Jvm.LawKit.callS X337 hx (y := (⟨"com/example/all1/all1/Encoding", "readLong", "([BI)J"⟩ : MethodName)) hown (mvT hZ (hw _ (List.mem_of_getElem? (i := 1) rfl))) (mvT hZ (hw _ (List.mem_of_getElem? (i := 2) rfl))) (mvT hZ (hw _ (List.mem_of_getElem? (i := 3) rfl))) (mvT hZ (hw _ (List.mem_of_getElem? (i := 4) rfl))) (by decide) (backOf (W := 0) (own_rm1 l Z av hw [] b12 (3 : Int32) (k12) ((12 : Int32)) ([(.int (nar .byte v16)), (.int (nar .byte v23)), (.int (nar .byte v30)), (.int (nar .byte v286)), (.int (nar .byte v293)), (.int (nar .byte v300)), (.int (nar .byte v307)), (.int (nar .byte v314)), (.int (nar .byte v321)), (.int (nar .byte v328)), (.int (nar .byte v335)), (.int (nar .byte v93))]) ((.int (0 : Int32))) ((nar .byte v286)) ((nar .byte v293)) ((nar .byte v300)) ((nar .byte v307)) ((nar .byte v314)) ((nar .byte v321)) ((nar .byte v328)) ((nar .byte v335)) h337 n0 z339 f341 (⟨by decide, by decide⟩) (⟨by decide, by decide⟩) (⟨by decide, by decide⟩) (⟨by decide, by decide⟩) (⟨by decide, by decide⟩) (⟨by decide, by decide⟩) (⟨by decide, by decide⟩) (⟨by decide, by decide⟩) (rfl) (rfl) (rfl) (rfl) (rfl) (rfl) (rfl) (rfl)) hZ (hw _ (List.mem_of_getElem? (i := 4) rfl)) (hw _ (List.mem_of_getElem? (i := 3) rfl)) (by decide) (by decide)) (g := (mkF m 236 #[.val (.long q0), .second, .val (.int p1), .val (.long q2), .second, .val (.int p3), .val (.int (3 : Int32)), .val (.ref b12)] [(.int (3 : Int32)), (.ref b12)])) rfl (by rw [hml]; rfl) (argsL := [(.ref b12), (.int (3 : Int32))]) (rest := []) (lenOf own_pd1 rfl) rfl (by show 2 * 0 + _ ≤ _; exact Nat.le_of_eq rfl) (hb hby at_236) (fun _ _ => ⟨rfl, e337, (by decide : 1 + 0 ≤ _), (by decide : 12 + 0 ≤ _)⟩)
    dsimp only [Pt.U, Pt.locs, Pt.cells, Pt.slots] at X342 l342 y342 z342 st342 hQ342
    subst l342 y342 z342
    obtain ⟨rfl, N342q, e344⟩ := hQ342
    have N343 := Fr.app N340 N342q
    have pre345 : ∀ t, Steps p.tables e below (T342.setTop (mkF m 241 #[.val (.long q0), .second, .val (.int p1), .val (.long q2), .second, .val (.int p3), .val (.int (3 : Int32)), .val (.ref b12)] [(.int (lcmpW (own_rdl (own_rd (nar .byte v286) (nar .byte v293) (nar .byte v300) (nar .byte v307)) (own_rd (nar .byte v314) (nar .byte v321) (nar .byte v328) (nar .byte v335))) q0))])) t → Steps p.tables e below (s₁.setTop (entryFrame m #[(.long q0), (.int p1), (.long q2), (.int p3)] maxLocals)) t := fun t kk => pre101 t (by
      show Steps p.tables e below (T95.setTop (mkF m 131 #[.val (.long q0), .second, .val (.int p1), .val (.long q2), .second, .val (.int p3), .val (.int (3 : Int32)), .val (.ref b12)] [])) _
      refine XS.aload X95.here hx rfl (hb hby at_131) rfl rfl ?_
      show Steps p.tables e below (T95.setTop (mkF m 133 #[.val (.long q0), .second, .val (.int p1), .val (.long q2), .second, .val (.int p3), .val (.int (3 : Int32)), .val (.ref b12)] [(.ref b12)])) _
      refine XS.iload X95.here hx rfl (hb hby at_133) rfl ?_
      show Steps p.tables e below (T95.setTop (mkF m 135 #[.val (.long q0), .second, .val (.int p1), .val (.long q2), .second, .val (.int p3), .val (.int (3 : Int32)), .val (.ref b12)] [(.int (3 : Int32)), (.ref b12)])) _
      refine XS.lloadN X95.here hx rfl (hb hby at_135) rfl ?_
      show Steps p.tables e below (T95.setTop (mkF m 136 #[.val (.long q0), .second, .val (.int p1), .val (.long q2), .second, .val (.int p3), .val (.int (3 : Int32)), .val (.ref b12)] [(.long q0), (.int (3 : Int32)), (.ref b12)])) _
      refine XS.bipush X95.here hx rfl (hb hby at_136) ?_
      show Steps p.tables e below (T95.setTop (mkF m 138 #[.val (.long q0), .second, .val (.int p1), .val (.long q2), .second, .val (.int p3), .val (.int (3 : Int32)), .val (.ref b12)] [(.int (56 : Int32)), (.long q0), (.int (3 : Int32)), (.ref b12)])) _
      refine XS.lushr X95.here hx rfl (hb hby at_138) rfl ?_
      show Steps p.tables e below (T95.setTop (mkF m 139 #[.val (.long q0), .second, .val (.int p1), .val (.long q2), .second, .val (.int p3), .val (.int (3 : Int32)), .val (.ref b12)] [(.long ((q0.toUInt64 >>> ((56 : Int32) &&& 0x3f).toInt64.toUInt64).toInt64)), (.int (3 : Int32)), (.ref b12)])) _
      refine XS.l2i X95.here hx rfl (hb hby at_139) rfl ?_
      show Steps p.tables e below (T95.setTop (mkF m 140 #[.val (.long q0), .second, .val (.int p1), .val (.long q2), .second, .val (.int p3), .val (.int (3 : Int32)), .val (.ref b12)] [(.int (((q0.toUInt64 >>> ((56 : Int32) &&& 0x3f).toInt64.toUInt64).toInt64).toInt32)), (.int (3 : Int32)), (.ref b12)])) _
      refine XS.i2b X95.here hx rfl (hb hby at_140) rfl ?_
      show Steps p.tables e below (T95.setTop (mkF m 141 #[.val (.long q0), .second, .val (.int p1), .val (.long q2), .second, .val (.int p3), .val (.int (3 : Int32)), .val (.ref b12)] [(.int ((((q0.toUInt64 >>> ((56 : Int32) &&& 0x3f).toInt64.toUInt64).toInt64).toInt32).toInt8.toInt32)), (.int (3 : Int32)), (.ref b12)])) _
      show Steps p.tables e below (T95.setTop (mkF m 141 #[.val (.long q0), .second, .val (.int p1), .val (.long q2), .second, .val (.int p3), .val (.int (3 : Int32)), .val (.ref b12)] [(.int ((((q0.toUInt64 >>> ((56 : Int32) &&& 0x3f).toInt64.toUInt64).toInt64).toInt32).toInt8.toInt32)), (.int (3 : Int32)), (.ref b12)])) _
      refine castTop (congrArg (fun z : Int32 => mkF m 141 #[.val (.long q0), .second, .val (.int p1), .val (.long q2), .second, .val (.int p3), .val (.int (3 : Int32)), .val (.ref b12)] [(.int z), (.int (3 : Int32)), (.ref b12)]) hv286.symm) ?_
      refine st288 _ ?_
      show Steps p.tables e below (T288.setTop (mkF m 142 #[.val (.long q0), .second, .val (.int p1), .val (.long q2), .second, .val (.int p3), .val (.int (3 : Int32)), .val (.ref b12)] [])) _
      refine XS.aload X288.here hx rfl (hb hby at_142) rfl rfl ?_
      show Steps p.tables e below (T288.setTop (mkF m 144 #[.val (.long q0), .second, .val (.int p1), .val (.long q2), .second, .val (.int p3), .val (.int (3 : Int32)), .val (.ref b12)] [(.ref b12)])) _
      refine XS.iload X288.here hx rfl (hb hby at_144) rfl ?_
      show Steps p.tables e below (T288.setTop (mkF m 146 #[.val (.long q0), .second, .val (.int p1), .val (.long q2), .second, .val (.int p3), .val (.int (3 : Int32)), .val (.ref b12)] [(.int (3 : Int32)), (.ref b12)])) _
      refine XS.iconst X288.here hx rfl (hb hby at_146) ?_
      show Steps p.tables e below (T288.setTop (mkF m 147 #[.val (.long q0), .second, .val (.int p1), .val (.long q2), .second, .val (.int p3), .val (.int (3 : Int32)), .val (.ref b12)] [(.int (1 : Int32)), (.int (3 : Int32)), (.ref b12)])) _
      refine XS.iadd X288.here hx rfl (hb hby at_147) rfl ?_
      show Steps p.tables e below (T288.setTop (mkF m 148 #[.val (.long q0), .second, .val (.int p1), .val (.long q2), .second, .val (.int p3), .val (.int (3 : Int32)), .val (.ref b12)] [(.int ((3 : Int32) + (1 : Int32))), (.ref b12)])) _
      refine castTop (congrArg (fun z : Int32 => mkF m 148 #[.val (.long q0), .second, .val (.int p1), .val (.long q2), .second, .val (.int p3), .val (.int (3 : Int32)), .val (.ref b12)] [(.int z), (.ref b12)]) (by decide : ((3 : Int32) + (1 : Int32)) = (4 : Int32))) ?_
      show Steps p.tables e below (T288.setTop (mkF m 148 #[.val (.long q0), .second, .val (.int p1), .val (.long q2), .second, .val (.int p3), .val (.int (3 : Int32)), .val (.ref b12)] [(.int (4 : Int32)), (.ref b12)])) _
      refine XS.lloadN X288.here hx rfl (hb hby at_148) rfl ?_
      show Steps p.tables e below (T288.setTop (mkF m 149 #[.val (.long q0), .second, .val (.int p1), .val (.long q2), .second, .val (.int p3), .val (.int (3 : Int32)), .val (.ref b12)] [(.long q0), (.int (4 : Int32)), (.ref b12)])) _
      refine XS.bipush X288.here hx rfl (hb hby at_149) ?_
      show Steps p.tables e below (T288.setTop (mkF m 151 #[.val (.long q0), .second, .val (.int p1), .val (.long q2), .second, .val (.int p3), .val (.int (3 : Int32)), .val (.ref b12)] [(.int (48 : Int32)), (.long q0), (.int (4 : Int32)), (.ref b12)])) _
      refine XS.lushr X288.here hx rfl (hb hby at_151) rfl ?_
      show Steps p.tables e below (T288.setTop (mkF m 152 #[.val (.long q0), .second, .val (.int p1), .val (.long q2), .second, .val (.int p3), .val (.int (3 : Int32)), .val (.ref b12)] [(.long ((q0.toUInt64 >>> ((48 : Int32) &&& 0x3f).toInt64.toUInt64).toInt64)), (.int (4 : Int32)), (.ref b12)])) _
      refine XS.l2i X288.here hx rfl (hb hby at_152) rfl ?_
      show Steps p.tables e below (T288.setTop (mkF m 153 #[.val (.long q0), .second, .val (.int p1), .val (.long q2), .second, .val (.int p3), .val (.int (3 : Int32)), .val (.ref b12)] [(.int (((q0.toUInt64 >>> ((48 : Int32) &&& 0x3f).toInt64.toUInt64).toInt64).toInt32)), (.int (4 : Int32)), (.ref b12)])) _
      refine XS.i2b X288.here hx rfl (hb hby at_153) rfl ?_
      show Steps p.tables e below (T288.setTop (mkF m 154 #[.val (.long q0), .second, .val (.int p1), .val (.long q2), .second, .val (.int p3), .val (.int (3 : Int32)), .val (.ref b12)] [(.int ((((q0.toUInt64 >>> ((48 : Int32) &&& 0x3f).toInt64.toUInt64).toInt64).toInt32).toInt8.toInt32)), (.int (4 : Int32)), (.ref b12)])) _
      show Steps p.tables e below (T288.setTop (mkF m 154 #[.val (.long q0), .second, .val (.int p1), .val (.long q2), .second, .val (.int p3), .val (.int (3 : Int32)), .val (.ref b12)] [(.int ((((q0.toUInt64 >>> ((48 : Int32) &&& 0x3f).toInt64.toUInt64).toInt64).toInt32).toInt8.toInt32)), (.int (4 : Int32)), (.ref b12)])) _
      refine castTop (congrArg (fun z : Int32 => mkF m 154 #[.val (.long q0), .second, .val (.int p1), .val (.long q2), .second, .val (.int p3), .val (.int (3 : Int32)), .val (.ref b12)] [(.int z), (.int (4 : Int32)), (.ref b12)]) hv293.symm) ?_
      refine st295 _ ?_
      show Steps p.tables e below (T295.setTop (mkF m 155 #[.val (.long q0), .second, .val (.int p1), .val (.long q2), .second, .val (.int p3), .val (.int (3 : Int32)), .val (.ref b12)] [])) _
      refine XS.aload X295.here hx rfl (hb hby at_155) rfl rfl ?_
      show Steps p.tables e below (T295.setTop (mkF m 157 #[.val (.long q0), .second, .val (.int p1), .val (.long q2), .second, .val (.int p3), .val (.int (3 : Int32)), .val (.ref b12)] [(.ref b12)])) _
      refine XS.iload X295.here hx rfl (hb hby at_157) rfl ?_
      show Steps p.tables e below (T295.setTop (mkF m 159 #[.val (.long q0), .second, .val (.int p1), .val (.long q2), .second, .val (.int p3), .val (.int (3 : Int32)), .val (.ref b12)] [(.int (3 : Int32)), (.ref b12)])) _
      refine XS.iconst X295.here hx rfl (hb hby at_159) ?_
      show Steps p.tables e below (T295.setTop (mkF m 160 #[.val (.long q0), .second, .val (.int p1), .val (.long q2), .second, .val (.int p3), .val (.int (3 : Int32)), .val (.ref b12)] [(.int (2 : Int32)), (.int (3 : Int32)), (.ref b12)])) _
      refine XS.iadd X295.here hx rfl (hb hby at_160) rfl ?_
      show Steps p.tables e below (T295.setTop (mkF m 161 #[.val (.long q0), .second, .val (.int p1), .val (.long q2), .second, .val (.int p3), .val (.int (3 : Int32)), .val (.ref b12)] [(.int ((3 : Int32) + (2 : Int32))), (.ref b12)])) _
      refine castTop (congrArg (fun z : Int32 => mkF m 161 #[.val (.long q0), .second, .val (.int p1), .val (.long q2), .second, .val (.int p3), .val (.int (3 : Int32)), .val (.ref b12)] [(.int z), (.ref b12)]) (by decide : ((3 : Int32) + (2 : Int32)) = (5 : Int32))) ?_
      show Steps p.tables e below (T295.setTop (mkF m 161 #[.val (.long q0), .second, .val (.int p1), .val (.long q2), .second, .val (.int p3), .val (.int (3 : Int32)), .val (.ref b12)] [(.int (5 : Int32)), (.ref b12)])) _
      refine XS.lloadN X295.here hx rfl (hb hby at_161) rfl ?_
      show Steps p.tables e below (T295.setTop (mkF m 162 #[.val (.long q0), .second, .val (.int p1), .val (.long q2), .second, .val (.int p3), .val (.int (3 : Int32)), .val (.ref b12)] [(.long q0), (.int (5 : Int32)), (.ref b12)])) _
      refine XS.bipush X295.here hx rfl (hb hby at_162) ?_
      show Steps p.tables e below (T295.setTop (mkF m 164 #[.val (.long q0), .second, .val (.int p1), .val (.long q2), .second, .val (.int p3), .val (.int (3 : Int32)), .val (.ref b12)] [(.int (40 : Int32)), (.long q0), (.int (5 : Int32)), (.ref b12)])) _
      refine XS.lushr X295.here hx rfl (hb hby at_164) rfl ?_
      show Steps p.tables e below (T295.setTop (mkF m 165 #[.val (.long q0), .second, .val (.int p1), .val (.long q2), .second, .val (.int p3), .val (.int (3 : Int32)), .val (.ref b12)] [(.long ((q0.toUInt64 >>> ((40 : Int32) &&& 0x3f).toInt64.toUInt64).toInt64)), (.int (5 : Int32)), (.ref b12)])) _
      refine XS.l2i X295.here hx rfl (hb hby at_165) rfl ?_
      show Steps p.tables e below (T295.setTop (mkF m 166 #[.val (.long q0), .second, .val (.int p1), .val (.long q2), .second, .val (.int p3), .val (.int (3 : Int32)), .val (.ref b12)] [(.int (((q0.toUInt64 >>> ((40 : Int32) &&& 0x3f).toInt64.toUInt64).toInt64).toInt32)), (.int (5 : Int32)), (.ref b12)])) _
      refine XS.i2b X295.here hx rfl (hb hby at_166) rfl ?_
      show Steps p.tables e below (T295.setTop (mkF m 167 #[.val (.long q0), .second, .val (.int p1), .val (.long q2), .second, .val (.int p3), .val (.int (3 : Int32)), .val (.ref b12)] [(.int ((((q0.toUInt64 >>> ((40 : Int32) &&& 0x3f).toInt64.toUInt64).toInt64).toInt32).toInt8.toInt32)), (.int (5 : Int32)), (.ref b12)])) _
      show Steps p.tables e below (T295.setTop (mkF m 167 #[.val (.long q0), .second, .val (.int p1), .val (.long q2), .second, .val (.int p3), .val (.int (3 : Int32)), .val (.ref b12)] [(.int ((((q0.toUInt64 >>> ((40 : Int32) &&& 0x3f).toInt64.toUInt64).toInt64).toInt32).toInt8.toInt32)), (.int (5 : Int32)), (.ref b12)])) _
      refine castTop (congrArg (fun z : Int32 => mkF m 167 #[.val (.long q0), .second, .val (.int p1), .val (.long q2), .second, .val (.int p3), .val (.int (3 : Int32)), .val (.ref b12)] [(.int z), (.int (5 : Int32)), (.ref b12)]) hv300.symm) ?_
      refine st302 _ ?_
      show Steps p.tables e below (T302.setTop (mkF m 168 #[.val (.long q0), .second, .val (.int p1), .val (.long q2), .second, .val (.int p3), .val (.int (3 : Int32)), .val (.ref b12)] [])) _
      refine XS.aload X302.here hx rfl (hb hby at_168) rfl rfl ?_
      show Steps p.tables e below (T302.setTop (mkF m 170 #[.val (.long q0), .second, .val (.int p1), .val (.long q2), .second, .val (.int p3), .val (.int (3 : Int32)), .val (.ref b12)] [(.ref b12)])) _
      refine XS.iload X302.here hx rfl (hb hby at_170) rfl ?_
      show Steps p.tables e below (T302.setTop (mkF m 172 #[.val (.long q0), .second, .val (.int p1), .val (.long q2), .second, .val (.int p3), .val (.int (3 : Int32)), .val (.ref b12)] [(.int (3 : Int32)), (.ref b12)])) _
      refine XS.iconst X302.here hx rfl (hb hby at_172) ?_
      show Steps p.tables e below (T302.setTop (mkF m 173 #[.val (.long q0), .second, .val (.int p1), .val (.long q2), .second, .val (.int p3), .val (.int (3 : Int32)), .val (.ref b12)] [(.int (3 : Int32)), (.int (3 : Int32)), (.ref b12)])) _
      refine XS.iadd X302.here hx rfl (hb hby at_173) rfl ?_
      show Steps p.tables e below (T302.setTop (mkF m 174 #[.val (.long q0), .second, .val (.int p1), .val (.long q2), .second, .val (.int p3), .val (.int (3 : Int32)), .val (.ref b12)] [(.int ((3 : Int32) + (3 : Int32))), (.ref b12)])) _
      refine castTop (congrArg (fun z : Int32 => mkF m 174 #[.val (.long q0), .second, .val (.int p1), .val (.long q2), .second, .val (.int p3), .val (.int (3 : Int32)), .val (.ref b12)] [(.int z), (.ref b12)]) (by decide : ((3 : Int32) + (3 : Int32)) = (6 : Int32))) ?_
      show Steps p.tables e below (T302.setTop (mkF m 174 #[.val (.long q0), .second, .val (.int p1), .val (.long q2), .second, .val (.int p3), .val (.int (3 : Int32)), .val (.ref b12)] [(.int (6 : Int32)), (.ref b12)])) _
      refine XS.lloadN X302.here hx rfl (hb hby at_174) rfl ?_
      show Steps p.tables e below (T302.setTop (mkF m 175 #[.val (.long q0), .second, .val (.int p1), .val (.long q2), .second, .val (.int p3), .val (.int (3 : Int32)), .val (.ref b12)] [(.long q0), (.int (6 : Int32)), (.ref b12)])) _
      refine XS.bipush X302.here hx rfl (hb hby at_175) ?_
      show Steps p.tables e below (T302.setTop (mkF m 177 #[.val (.long q0), .second, .val (.int p1), .val (.long q2), .second, .val (.int p3), .val (.int (3 : Int32)), .val (.ref b12)] [(.int (32 : Int32)), (.long q0), (.int (6 : Int32)), (.ref b12)])) _
      refine XS.lushr X302.here hx rfl (hb hby at_177) rfl ?_
      show Steps p.tables e below (T302.setTop (mkF m 178 #[.val (.long q0), .second, .val (.int p1), .val (.long q2), .second, .val (.int p3), .val (.int (3 : Int32)), .val (.ref b12)] [(.long ((q0.toUInt64 >>> ((32 : Int32) &&& 0x3f).toInt64.toUInt64).toInt64)), (.int (6 : Int32)), (.ref b12)])) _
      refine XS.l2i X302.here hx rfl (hb hby at_178) rfl ?_
      show Steps p.tables e below (T302.setTop (mkF m 179 #[.val (.long q0), .second, .val (.int p1), .val (.long q2), .second, .val (.int p3), .val (.int (3 : Int32)), .val (.ref b12)] [(.int (((q0.toUInt64 >>> ((32 : Int32) &&& 0x3f).toInt64.toUInt64).toInt64).toInt32)), (.int (6 : Int32)), (.ref b12)])) _
      refine XS.i2b X302.here hx rfl (hb hby at_179) rfl ?_
      show Steps p.tables e below (T302.setTop (mkF m 180 #[.val (.long q0), .second, .val (.int p1), .val (.long q2), .second, .val (.int p3), .val (.int (3 : Int32)), .val (.ref b12)] [(.int ((((q0.toUInt64 >>> ((32 : Int32) &&& 0x3f).toInt64.toUInt64).toInt64).toInt32).toInt8.toInt32)), (.int (6 : Int32)), (.ref b12)])) _
      show Steps p.tables e below (T302.setTop (mkF m 180 #[.val (.long q0), .second, .val (.int p1), .val (.long q2), .second, .val (.int p3), .val (.int (3 : Int32)), .val (.ref b12)] [(.int ((((q0.toUInt64 >>> ((32 : Int32) &&& 0x3f).toInt64.toUInt64).toInt64).toInt32).toInt8.toInt32)), (.int (6 : Int32)), (.ref b12)])) _
      refine castTop (congrArg (fun z : Int32 => mkF m 180 #[.val (.long q0), .second, .val (.int p1), .val (.long q2), .second, .val (.int p3), .val (.int (3 : Int32)), .val (.ref b12)] [(.int z), (.int (6 : Int32)), (.ref b12)]) hv307.symm) ?_
      refine st309 _ ?_
      show Steps p.tables e below (T309.setTop (mkF m 181 #[.val (.long q0), .second, .val (.int p1), .val (.long q2), .second, .val (.int p3), .val (.int (3 : Int32)), .val (.ref b12)] [])) _
      refine XS.aload X309.here hx rfl (hb hby at_181) rfl rfl ?_
      show Steps p.tables e below (T309.setTop (mkF m 183 #[.val (.long q0), .second, .val (.int p1), .val (.long q2), .second, .val (.int p3), .val (.int (3 : Int32)), .val (.ref b12)] [(.ref b12)])) _
      refine XS.iload X309.here hx rfl (hb hby at_183) rfl ?_
      show Steps p.tables e below (T309.setTop (mkF m 185 #[.val (.long q0), .second, .val (.int p1), .val (.long q2), .second, .val (.int p3), .val (.int (3 : Int32)), .val (.ref b12)] [(.int (3 : Int32)), (.ref b12)])) _
      refine XS.iconst X309.here hx rfl (hb hby at_185) ?_
      show Steps p.tables e below (T309.setTop (mkF m 186 #[.val (.long q0), .second, .val (.int p1), .val (.long q2), .second, .val (.int p3), .val (.int (3 : Int32)), .val (.ref b12)] [(.int (4 : Int32)), (.int (3 : Int32)), (.ref b12)])) _
      refine XS.iadd X309.here hx rfl (hb hby at_186) rfl ?_
      show Steps p.tables e below (T309.setTop (mkF m 187 #[.val (.long q0), .second, .val (.int p1), .val (.long q2), .second, .val (.int p3), .val (.int (3 : Int32)), .val (.ref b12)] [(.int ((3 : Int32) + (4 : Int32))), (.ref b12)])) _
      refine castTop (congrArg (fun z : Int32 => mkF m 187 #[.val (.long q0), .second, .val (.int p1), .val (.long q2), .second, .val (.int p3), .val (.int (3 : Int32)), .val (.ref b12)] [(.int z), (.ref b12)]) (by decide : ((3 : Int32) + (4 : Int32)) = (7 : Int32))) ?_
      show Steps p.tables e below (T309.setTop (mkF m 187 #[.val (.long q0), .second, .val (.int p1), .val (.long q2), .second, .val (.int p3), .val (.int (3 : Int32)), .val (.ref b12)] [(.int (7 : Int32)), (.ref b12)])) _
      refine XS.lloadN X309.here hx rfl (hb hby at_187) rfl ?_
      show Steps p.tables e below (T309.setTop (mkF m 188 #[.val (.long q0), .second, .val (.int p1), .val (.long q2), .second, .val (.int p3), .val (.int (3 : Int32)), .val (.ref b12)] [(.long q0), (.int (7 : Int32)), (.ref b12)])) _
      refine XS.bipush X309.here hx rfl (hb hby at_188) ?_
      show Steps p.tables e below (T309.setTop (mkF m 190 #[.val (.long q0), .second, .val (.int p1), .val (.long q2), .second, .val (.int p3), .val (.int (3 : Int32)), .val (.ref b12)] [(.int (24 : Int32)), (.long q0), (.int (7 : Int32)), (.ref b12)])) _
      refine XS.lushr X309.here hx rfl (hb hby at_190) rfl ?_
      show Steps p.tables e below (T309.setTop (mkF m 191 #[.val (.long q0), .second, .val (.int p1), .val (.long q2), .second, .val (.int p3), .val (.int (3 : Int32)), .val (.ref b12)] [(.long ((q0.toUInt64 >>> ((24 : Int32) &&& 0x3f).toInt64.toUInt64).toInt64)), (.int (7 : Int32)), (.ref b12)])) _
      refine XS.l2i X309.here hx rfl (hb hby at_191) rfl ?_
      show Steps p.tables e below (T309.setTop (mkF m 192 #[.val (.long q0), .second, .val (.int p1), .val (.long q2), .second, .val (.int p3), .val (.int (3 : Int32)), .val (.ref b12)] [(.int (((q0.toUInt64 >>> ((24 : Int32) &&& 0x3f).toInt64.toUInt64).toInt64).toInt32)), (.int (7 : Int32)), (.ref b12)])) _
      refine XS.i2b X309.here hx rfl (hb hby at_192) rfl ?_
      show Steps p.tables e below (T309.setTop (mkF m 193 #[.val (.long q0), .second, .val (.int p1), .val (.long q2), .second, .val (.int p3), .val (.int (3 : Int32)), .val (.ref b12)] [(.int ((((q0.toUInt64 >>> ((24 : Int32) &&& 0x3f).toInt64.toUInt64).toInt64).toInt32).toInt8.toInt32)), (.int (7 : Int32)), (.ref b12)])) _
      show Steps p.tables e below (T309.setTop (mkF m 193 #[.val (.long q0), .second, .val (.int p1), .val (.long q2), .second, .val (.int p3), .val (.int (3 : Int32)), .val (.ref b12)] [(.int ((((q0.toUInt64 >>> ((24 : Int32) &&& 0x3f).toInt64.toUInt64).toInt64).toInt32).toInt8.toInt32)), (.int (7 : Int32)), (.ref b12)])) _
      refine castTop (congrArg (fun z : Int32 => mkF m 193 #[.val (.long q0), .second, .val (.int p1), .val (.long q2), .second, .val (.int p3), .val (.int (3 : Int32)), .val (.ref b12)] [(.int z), (.int (7 : Int32)), (.ref b12)]) hv314.symm) ?_
      refine st316 _ ?_
      show Steps p.tables e below (T316.setTop (mkF m 194 #[.val (.long q0), .second, .val (.int p1), .val (.long q2), .second, .val (.int p3), .val (.int (3 : Int32)), .val (.ref b12)] [])) _
      refine XS.aload X316.here hx rfl (hb hby at_194) rfl rfl ?_
      show Steps p.tables e below (T316.setTop (mkF m 196 #[.val (.long q0), .second, .val (.int p1), .val (.long q2), .second, .val (.int p3), .val (.int (3 : Int32)), .val (.ref b12)] [(.ref b12)])) _
      refine XS.iload X316.here hx rfl (hb hby at_196) rfl ?_
      show Steps p.tables e below (T316.setTop (mkF m 198 #[.val (.long q0), .second, .val (.int p1), .val (.long q2), .second, .val (.int p3), .val (.int (3 : Int32)), .val (.ref b12)] [(.int (3 : Int32)), (.ref b12)])) _
      refine XS.iconst X316.here hx rfl (hb hby at_198) ?_
      show Steps p.tables e below (T316.setTop (mkF m 199 #[.val (.long q0), .second, .val (.int p1), .val (.long q2), .second, .val (.int p3), .val (.int (3 : Int32)), .val (.ref b12)] [(.int (5 : Int32)), (.int (3 : Int32)), (.ref b12)])) _
      refine XS.iadd X316.here hx rfl (hb hby at_199) rfl ?_
      show Steps p.tables e below (T316.setTop (mkF m 200 #[.val (.long q0), .second, .val (.int p1), .val (.long q2), .second, .val (.int p3), .val (.int (3 : Int32)), .val (.ref b12)] [(.int ((3 : Int32) + (5 : Int32))), (.ref b12)])) _
      refine castTop (congrArg (fun z : Int32 => mkF m 200 #[.val (.long q0), .second, .val (.int p1), .val (.long q2), .second, .val (.int p3), .val (.int (3 : Int32)), .val (.ref b12)] [(.int z), (.ref b12)]) (by decide : ((3 : Int32) + (5 : Int32)) = (8 : Int32))) ?_
      show Steps p.tables e below (T316.setTop (mkF m 200 #[.val (.long q0), .second, .val (.int p1), .val (.long q2), .second, .val (.int p3), .val (.int (3 : Int32)), .val (.ref b12)] [(.int (8 : Int32)), (.ref b12)])) _
      refine XS.lloadN X316.here hx rfl (hb hby at_200) rfl ?_
      show Steps p.tables e below (T316.setTop (mkF m 201 #[.val (.long q0), .second, .val (.int p1), .val (.long q2), .second, .val (.int p3), .val (.int (3 : Int32)), .val (.ref b12)] [(.long q0), (.int (8 : Int32)), (.ref b12)])) _
      refine XS.bipush X316.here hx rfl (hb hby at_201) ?_
      show Steps p.tables e below (T316.setTop (mkF m 203 #[.val (.long q0), .second, .val (.int p1), .val (.long q2), .second, .val (.int p3), .val (.int (3 : Int32)), .val (.ref b12)] [(.int (16 : Int32)), (.long q0), (.int (8 : Int32)), (.ref b12)])) _
      refine XS.lushr X316.here hx rfl (hb hby at_203) rfl ?_
      show Steps p.tables e below (T316.setTop (mkF m 204 #[.val (.long q0), .second, .val (.int p1), .val (.long q2), .second, .val (.int p3), .val (.int (3 : Int32)), .val (.ref b12)] [(.long ((q0.toUInt64 >>> ((16 : Int32) &&& 0x3f).toInt64.toUInt64).toInt64)), (.int (8 : Int32)), (.ref b12)])) _
      refine XS.l2i X316.here hx rfl (hb hby at_204) rfl ?_
      show Steps p.tables e below (T316.setTop (mkF m 205 #[.val (.long q0), .second, .val (.int p1), .val (.long q2), .second, .val (.int p3), .val (.int (3 : Int32)), .val (.ref b12)] [(.int (((q0.toUInt64 >>> ((16 : Int32) &&& 0x3f).toInt64.toUInt64).toInt64).toInt32)), (.int (8 : Int32)), (.ref b12)])) _
      refine XS.i2b X316.here hx rfl (hb hby at_205) rfl ?_
      show Steps p.tables e below (T316.setTop (mkF m 206 #[.val (.long q0), .second, .val (.int p1), .val (.long q2), .second, .val (.int p3), .val (.int (3 : Int32)), .val (.ref b12)] [(.int ((((q0.toUInt64 >>> ((16 : Int32) &&& 0x3f).toInt64.toUInt64).toInt64).toInt32).toInt8.toInt32)), (.int (8 : Int32)), (.ref b12)])) _
      show Steps p.tables e below (T316.setTop (mkF m 206 #[.val (.long q0), .second, .val (.int p1), .val (.long q2), .second, .val (.int p3), .val (.int (3 : Int32)), .val (.ref b12)] [(.int ((((q0.toUInt64 >>> ((16 : Int32) &&& 0x3f).toInt64.toUInt64).toInt64).toInt32).toInt8.toInt32)), (.int (8 : Int32)), (.ref b12)])) _
      refine castTop (congrArg (fun z : Int32 => mkF m 206 #[.val (.long q0), .second, .val (.int p1), .val (.long q2), .second, .val (.int p3), .val (.int (3 : Int32)), .val (.ref b12)] [(.int z), (.int (8 : Int32)), (.ref b12)]) hv321.symm) ?_
      refine st323 _ ?_
      show Steps p.tables e below (T323.setTop (mkF m 207 #[.val (.long q0), .second, .val (.int p1), .val (.long q2), .second, .val (.int p3), .val (.int (3 : Int32)), .val (.ref b12)] [])) _
      refine XS.aload X323.here hx rfl (hb hby at_207) rfl rfl ?_
      show Steps p.tables e below (T323.setTop (mkF m 209 #[.val (.long q0), .second, .val (.int p1), .val (.long q2), .second, .val (.int p3), .val (.int (3 : Int32)), .val (.ref b12)] [(.ref b12)])) _
      refine XS.iload X323.here hx rfl (hb hby at_209) rfl ?_
      show Steps p.tables e below (T323.setTop (mkF m 211 #[.val (.long q0), .second, .val (.int p1), .val (.long q2), .second, .val (.int p3), .val (.int (3 : Int32)), .val (.ref b12)] [(.int (3 : Int32)), (.ref b12)])) _
      refine XS.bipush X323.here hx rfl (hb hby at_211) ?_
      show Steps p.tables e below (T323.setTop (mkF m 213 #[.val (.long q0), .second, .val (.int p1), .val (.long q2), .second, .val (.int p3), .val (.int (3 : Int32)), .val (.ref b12)] [(.int (6 : Int32)), (.int (3 : Int32)), (.ref b12)])) _
      refine XS.iadd X323.here hx rfl (hb hby at_213) rfl ?_
      show Steps p.tables e below (T323.setTop (mkF m 214 #[.val (.long q0), .second, .val (.int p1), .val (.long q2), .second, .val (.int p3), .val (.int (3 : Int32)), .val (.ref b12)] [(.int ((3 : Int32) + (6 : Int32))), (.ref b12)])) _
      refine castTop (congrArg (fun z : Int32 => mkF m 214 #[.val (.long q0), .second, .val (.int p1), .val (.long q2), .second, .val (.int p3), .val (.int (3 : Int32)), .val (.ref b12)] [(.int z), (.ref b12)]) (by decide : ((3 : Int32) + (6 : Int32)) = (9 : Int32))) ?_
      show Steps p.tables e below (T323.setTop (mkF m 214 #[.val (.long q0), .second, .val (.int p1), .val (.long q2), .second, .val (.int p3), .val (.int (3 : Int32)), .val (.ref b12)] [(.int (9 : Int32)), (.ref b12)])) _
      refine XS.lloadN X323.here hx rfl (hb hby at_214) rfl ?_
      show Steps p.tables e below (T323.setTop (mkF m 215 #[.val (.long q0), .second, .val (.int p1), .val (.long q2), .second, .val (.int p3), .val (.int (3 : Int32)), .val (.ref b12)] [(.long q0), (.int (9 : Int32)), (.ref b12)])) _
      refine XS.bipush X323.here hx rfl (hb hby at_215) ?_
      show Steps p.tables e below (T323.setTop (mkF m 217 #[.val (.long q0), .second, .val (.int p1), .val (.long q2), .second, .val (.int p3), .val (.int (3 : Int32)), .val (.ref b12)] [(.int (8 : Int32)), (.long q0), (.int (9 : Int32)), (.ref b12)])) _
      refine XS.lushr X323.here hx rfl (hb hby at_217) rfl ?_
      show Steps p.tables e below (T323.setTop (mkF m 218 #[.val (.long q0), .second, .val (.int p1), .val (.long q2), .second, .val (.int p3), .val (.int (3 : Int32)), .val (.ref b12)] [(.long ((q0.toUInt64 >>> ((8 : Int32) &&& 0x3f).toInt64.toUInt64).toInt64)), (.int (9 : Int32)), (.ref b12)])) _
      refine XS.l2i X323.here hx rfl (hb hby at_218) rfl ?_
      show Steps p.tables e below (T323.setTop (mkF m 219 #[.val (.long q0), .second, .val (.int p1), .val (.long q2), .second, .val (.int p3), .val (.int (3 : Int32)), .val (.ref b12)] [(.int (((q0.toUInt64 >>> ((8 : Int32) &&& 0x3f).toInt64.toUInt64).toInt64).toInt32)), (.int (9 : Int32)), (.ref b12)])) _
      refine XS.i2b X323.here hx rfl (hb hby at_219) rfl ?_
      show Steps p.tables e below (T323.setTop (mkF m 220 #[.val (.long q0), .second, .val (.int p1), .val (.long q2), .second, .val (.int p3), .val (.int (3 : Int32)), .val (.ref b12)] [(.int ((((q0.toUInt64 >>> ((8 : Int32) &&& 0x3f).toInt64.toUInt64).toInt64).toInt32).toInt8.toInt32)), (.int (9 : Int32)), (.ref b12)])) _
      show Steps p.tables e below (T323.setTop (mkF m 220 #[.val (.long q0), .second, .val (.int p1), .val (.long q2), .second, .val (.int p3), .val (.int (3 : Int32)), .val (.ref b12)] [(.int ((((q0.toUInt64 >>> ((8 : Int32) &&& 0x3f).toInt64.toUInt64).toInt64).toInt32).toInt8.toInt32)), (.int (9 : Int32)), (.ref b12)])) _
      refine castTop (congrArg (fun z : Int32 => mkF m 220 #[.val (.long q0), .second, .val (.int p1), .val (.long q2), .second, .val (.int p3), .val (.int (3 : Int32)), .val (.ref b12)] [(.int z), (.int (9 : Int32)), (.ref b12)]) hv328.symm) ?_
      refine st330 _ ?_
      show Steps p.tables e below (T330.setTop (mkF m 221 #[.val (.long q0), .second, .val (.int p1), .val (.long q2), .second, .val (.int p3), .val (.int (3 : Int32)), .val (.ref b12)] [])) _
      refine XS.aload X330.here hx rfl (hb hby at_221) rfl rfl ?_
      show Steps p.tables e below (T330.setTop (mkF m 223 #[.val (.long q0), .second, .val (.int p1), .val (.long q2), .second, .val (.int p3), .val (.int (3 : Int32)), .val (.ref b12)] [(.ref b12)])) _
      refine XS.iload X330.here hx rfl (hb hby at_223) rfl ?_
      show Steps p.tables e below (T330.setTop (mkF m 225 #[.val (.long q0), .second, .val (.int p1), .val (.long q2), .second, .val (.int p3), .val (.int (3 : Int32)), .val (.ref b12)] [(.int (3 : Int32)), (.ref b12)])) _
      refine XS.bipush X330.here hx rfl (hb hby at_225) ?_
      show Steps p.tables e below (T330.setTop (mkF m 227 #[.val (.long q0), .second, .val (.int p1), .val (.long q2), .second, .val (.int p3), .val (.int (3 : Int32)), .val (.ref b12)] [(.int (7 : Int32)), (.int (3 : Int32)), (.ref b12)])) _
      refine XS.iadd X330.here hx rfl (hb hby at_227) rfl ?_
      show Steps p.tables e below (T330.setTop (mkF m 228 #[.val (.long q0), .second, .val (.int p1), .val (.long q2), .second, .val (.int p3), .val (.int (3 : Int32)), .val (.ref b12)] [(.int ((3 : Int32) + (7 : Int32))), (.ref b12)])) _
      refine castTop (congrArg (fun z : Int32 => mkF m 228 #[.val (.long q0), .second, .val (.int p1), .val (.long q2), .second, .val (.int p3), .val (.int (3 : Int32)), .val (.ref b12)] [(.int z), (.ref b12)]) (by decide : ((3 : Int32) + (7 : Int32)) = (10 : Int32))) ?_
      show Steps p.tables e below (T330.setTop (mkF m 228 #[.val (.long q0), .second, .val (.int p1), .val (.long q2), .second, .val (.int p3), .val (.int (3 : Int32)), .val (.ref b12)] [(.int (10 : Int32)), (.ref b12)])) _
      refine XS.lloadN X330.here hx rfl (hb hby at_228) rfl ?_
      show Steps p.tables e below (T330.setTop (mkF m 229 #[.val (.long q0), .second, .val (.int p1), .val (.long q2), .second, .val (.int p3), .val (.int (3 : Int32)), .val (.ref b12)] [(.long q0), (.int (10 : Int32)), (.ref b12)])) _
      refine XS.l2i X330.here hx rfl (hb hby at_229) rfl ?_
      show Steps p.tables e below (T330.setTop (mkF m 230 #[.val (.long q0), .second, .val (.int p1), .val (.long q2), .second, .val (.int p3), .val (.int (3 : Int32)), .val (.ref b12)] [(.int (q0.toInt32)), (.int (10 : Int32)), (.ref b12)])) _
      refine XS.i2b X330.here hx rfl (hb hby at_230) rfl ?_
      show Steps p.tables e below (T330.setTop (mkF m 231 #[.val (.long q0), .second, .val (.int p1), .val (.long q2), .second, .val (.int p3), .val (.int (3 : Int32)), .val (.ref b12)] [(.int ((q0.toInt32).toInt8.toInt32)), (.int (10 : Int32)), (.ref b12)])) _
      show Steps p.tables e below (T330.setTop (mkF m 231 #[.val (.long q0), .second, .val (.int p1), .val (.long q2), .second, .val (.int p3), .val (.int (3 : Int32)), .val (.ref b12)] [(.int ((q0.toInt32).toInt8.toInt32)), (.int (10 : Int32)), (.ref b12)])) _
      refine castTop (congrArg (fun z : Int32 => mkF m 231 #[.val (.long q0), .second, .val (.int p1), .val (.long q2), .second, .val (.int p3), .val (.int (3 : Int32)), .val (.ref b12)] [(.int z), (.int (10 : Int32)), (.ref b12)]) hv335.symm) ?_
      refine st337 _ ?_
      show Steps p.tables e below (T337.setTop (mkF m 232 #[.val (.long q0), .second, .val (.int p1), .val (.long q2), .second, .val (.int p3), .val (.int (3 : Int32)), .val (.ref b12)] [])) _
      refine XS.aload X337.here hx rfl (hb hby at_232) rfl rfl ?_
      show Steps p.tables e below (T337.setTop (mkF m 234 #[.val (.long q0), .second, .val (.int p1), .val (.long q2), .second, .val (.int p3), .val (.int (3 : Int32)), .val (.ref b12)] [(.ref b12)])) _
      refine XS.iload X337.here hx rfl (hb hby at_234) rfl ?_
      show Steps p.tables e below (T337.setTop (mkF m 236 #[.val (.long q0), .second, .val (.int p1), .val (.long q2), .second, .val (.int p3), .val (.int (3 : Int32)), .val (.ref b12)] [(.int (3 : Int32)), (.ref b12)])) _
      refine st342 _ ?_
      show Steps p.tables e below (T342.setTop (mkF m 239 #[.val (.long q0), .second, .val (.int p1), .val (.long q2), .second, .val (.int p3), .val (.int (3 : Int32)), .val (.ref b12)] [(.long (own_rdl (own_rd (nar .byte v286) (nar .byte v293) (nar .byte v300) (nar .byte v307)) (own_rd (nar .byte v314) (nar .byte v321) (nar .byte v328) (nar .byte v335))))])) _
      refine XS.lloadN X342.here hx rfl (hb hby at_239) rfl ?_
      show Steps p.tables e below (T342.setTop (mkF m 240 #[.val (.long q0), .second, .val (.int p1), .val (.long q2), .second, .val (.int p3), .val (.int (3 : Int32)), .val (.ref b12)] [(.long q0), (.long (own_rdl (own_rd (nar .byte v286) (nar .byte v293) (nar .byte v300) (nar .byte v307)) (own_rd (nar .byte v314) (nar .byte v321) (nar .byte v328) (nar .byte v335))))])) _
      refine XS.lcmp X342.here hx rfl (hb hby at_240) rfl ?_
      show Steps p.tables e below (T342.setTop (mkF m 241 #[.val (.long q0), .second, .val (.int p1), .val (.long q2), .second, .val (.int p3), .val (.int (3 : Int32)), .val (.ref b12)] [(.int (lcmpW (own_rdl (own_rd (nar .byte v286) (nar .byte v293) (nar .byte v300) (nar .byte v307)) (own_rd (nar .byte v314) (nar .byte v321) (nar .byte v328) (nar .byte v335))) q0))])) _
      exact kk)
    by_cases hc346 : (own_rdl (own_rd (nar .byte v286) (nar .byte v293) (nar .byte v300) (nar .byte v307)) (own_rd (nar .byte v314) (nar .byte v321) (nar .byte v328) (nar .byte v335))) = q0
    · obtain ⟨fs, hr, hrun, hended, hW, hsame⟩ := X342.leave (v := some (.int (1 : Int32))) (fun h => by rw [Bd.returns] at h; cases h)
      refine ⟨_, _, pre345 _ ?_, hrun, hended, _, _, rfl, ?_, ⟨_, rfl⟩, hW, hsame.mono (by decide) (by decide)⟩
      · show Steps p.tables e below (T342.setTop (mkF m 241 #[.val (.long q0), .second, .val (.int p1), .val (.long q2), .second, .val (.int p3), .val (.int (3 : Int32)), .val (.ref b12)] [(.int (lcmpW (own_rdl (own_rd (nar .byte v286) (nar .byte v293) (nar .byte v300) (nar .byte v307)) (own_rd (nar .byte v314) (nar .byte v321) (nar .byte v328) (nar .byte v335))) q0))])) _
        refine XS.ifNo X342.here hx rfl (hb hby at_241) rfl ((if0 _ _).trans (teq ((lw_eq (own_rdl (own_rd (nar .byte v286) (nar .byte v293) (nar .byte v300) (nar .byte v307)) (own_rd (nar .byte v314) (nar .byte v321) (nar .byte v328) (nar .byte v335))) q0).mpr hc346)).2) ?_
        show Steps p.tables e below (T342.setTop (mkF m 244 #[.val (.long q0), .second, .val (.int p1), .val (.long q2), .second, .val (.int p3), .val (.int (3 : Int32)), .val (.ref b12)] [])) _
        refine XS.iconst X342.here hx rfl (hb hby at_244) ?_
        show Steps p.tables e below (T342.setTop (mkF m 245 #[.val (.long q0), .second, .val (.int p1), .val (.long q2), .second, .val (.int p3), .val (.int (3 : Int32)), .val (.ref b12)] [(.int (1 : Int32))])) _
        refine XS.goto X342.here hx rfl (pc0 := 245) (pc' := 249) rfl (hb hby at_245) (by decide) (by decide) ?_
        show Steps p.tables e below (T342.setTop (mkF m 249 #[.val (.long q0), .second, .val (.int p1), .val (.long q2), .second, .val (.int p3), .val (.int (3 : Int32)), .val (.ref b12)] [(.int (1 : Int32))])) _
        exact retN X342 hx (t := .boolean) Bd.returns (by simp) (hb hby at_249) hr
      · show own_Q0 Z q0 p1 q2 p3 h0 n0 _ T342.heap _
        rw [e344]
        exact ⟨rfl, N343⟩
    · exact (own_leaf0_8 q0 v286 hv286 v293 hv293 v300 hv300 v307 hv307 v314 hv314 v321 hv321 v328 hv328 v335 hv335 hc346).elim
set_option maxRecDepth 65536 in
set_option maxHeartbeats 40000000 in
theorem comes_1 {Post : Tables → Env → Array Value → State → Outcome → State → Prop} (hpost : ∀ tb e args s v u, (limb_1_1.after args s (.returned v) u = true ∧ limb_1_2.after args s (.returned v) u = true ∧ True) → FrameEnd s (.returned v) u (Jvm.fieldLocs frame_1_writes args s ++ Jvm.arrayLocs frame_1_arrays args s ++ Jvm.staticLocs frame_1_statics s) 16 128 → Post tb e args s (.returned v) u) :
    ArmFor flags0 classFile x code maxLocals ret World_1 tables_1 room_1 Calls_1 rest_1 Pre_1 Post := by
  intro l hfl _ _ p e ha hc hk s m args below hf hA hF happ hP
  obtain ⟨hcalls, hrest, hpre⟩ := hP
  obtain ⟨-, -, -, hnamed, -, -, -, hat⟩ := (Spec.applies_iff hf).mp happ
  obtain ⟨hg, hn⟩ := and_e (Cond.before_iff.mp (show (Jvm.Cond.and given_1 narrow_1).before args s = true from hpre))
  obtain ⟨gg1, gg2⟩ := and_e hg
  obtain ⟨gg3, gg4⟩ := and_e gg2
  obtain ⟨gg5, gg6⟩ := and_e gg4
  obtain ⟨gg7, gg8⟩ := and_e gg6
  obtain ⟨w0, w1, w2, w3, rfl⟩ : ∃ w0 w1 w2 w3 : Value, args = #[w0, w1, w2, w3] := by
    have hs : args.size = 4 := by simpa [Cond.value, given_1] using gg1
    obtain ⟨L⟩ := args
    match L, hs with
    | [w0, w1, w2, w3], _ => exact ⟨w0, w1, w2, w3, rfl⟩
  have hw := fun d (hd : d ∈ tables_1) => atoms_spec (ws := Jvm.Cond.code x code maxLocals ret :: tables_1) hat d (List.mem_cons_of_mem _ hd)
  have hfit : Fit s := fun {y c} hc i hi => by
    obtain ⟨ha, rfl⟩ := Array.getElem?_eq_some_iff.mp hc
    have q := List.all_eq_true.mp ((Array.all_eq_true_iff_forall_mem.mp hF) _ (Array.getElem_mem ha)) i (List.mem_range.mpr hi)
    simpa [Array.getElem?_eq_getElem hi] using q
  obtain ⟨i0, ei0⟩ := isL_v gg3
  obtain rfl : w0 = (.long i0) := Option.some.inj ei0
  obtain ⟨i1, ei1⟩ := is_v gg5
  obtain rfl : w1 = (.int i1) := Option.some.inj ei1
  obtain ⟨i2, ei2⟩ := isL_v gg7
  obtain rfl : w2 = (.long i2) := Option.some.inj ei2
  obtain ⟨i3, ei3⟩ := is_v gg8
  obtain rfl : w3 = (.int i3) := Option.some.inj ei3
  obtain ⟨n, o, h1, h2, h3, _, L, rfl, ⟨rfl, N⟩, hq⟩ := own_rm0 l s _ hw tables_1 i0 i1 i2 i3 s.heap s.heap.size (Nat.le_refl _)  p e ha hc hk s m _ below hf ((Spec.applies_iff_loose hf).mp happ).1 ⟨rfl, State.Warmed39.refl s, rfl⟩ trivial
  refine ⟨n, _, h1, h2, h3, hpost _ _ _ _ _ _ ⟨Cond.after_iff.mpr rfl, Cond.after_iff.mpr (eq_i res_at (Term.int_eval (1)) rfl), trivial⟩ ⟨hq.1, hq.2.1, (hq.2.2.sift fun y hy => Or.inr (N y hy)).mono (by decide) (by decide)⟩⟩
theorem main_1_1 : Claimed_1_1 := comes_1 fun _ _ _ _ _ _ h hF => ⟨h.1, hF⟩
theorem main_1_2 : Claimed_1_2 := comes_1 fun _ _ _ _ _ _ h hF => ⟨h.2.1, hF⟩
end Jvm.Pilot.@@N@@
namespace Jvm.Pilot.@@N@@
open Jvm Jvm.ClassFile Sem Op Lib Jvm.Free Jvm.Stand Jvm.Pilot.@@N@@.Jvm.D
/-! MADE BY PROGRAM (witnessworld.py) out of the Statement's table words and the real class files: 9 classes; the members and pool entries that the words name. The judged class is class 1, her method 1. -/
namespace start1
open Jvm.ClassFile
def u (s : String) : CpInfo := .utf8 (stringToUtf16 s)
/-- a pool by its gaps: so many unusable entries, then the entry; so many at the end -/
def gap : Nat → List CpInfo → List CpInfo
  | 0, r => r
  | n + 1, r => .unusable :: gap n r
def poolList (es : List (Nat × CpInfo)) (last : Nat) : List CpInfo := es.foldr (fun e r => gap e.1 (e.2 :: r)) (gap last [])
def pool (es : List (Nat × CpInfo)) (last : Nat) : Array CpInfo := ⟨poolList es last⟩
def fileOf (pool : Array CpInfo) (this : Nat) (attrs : Array Attribute := #[]) (ms : Array MethodInfo := #[]) (fl : Nat := 33) (sup : Nat := 0) (ifs : Array Nat := #[]) (fds : Array FieldInfo := #[]) : ClassFile where
  minorVersion := 0
  majorVersion := 65
  constantPool := pool
  accessFlags := fl
  thisClass := this
  superClass := sup
  interfaces := ifs
  fields := fds
  methods := ms
  attributes := attrs
def plain (name : String) (sup : Option ClassId) : Class where
  name := name
  kind := .ordinary
  loader := none
  accessFlags := 33
  super := sup
  interfaces := #[]
  cf := none
  fields := #[]
  methods := #[]
  instanceTypes := #[]
  staticTypes := #[]
  resolved := #[]
  callSites := []
  init := .initialized
  statics := none
  mirror := none

def pool0 : Array CpInfo := pool [(5, u "<init>"), (0, u "()V"), (1, .class_ 10), (1, u "java/lang/Object")] 113

def k0m0 : Method := { name := "<init>", desc := "()V", sig := { parameters := [], returnType := none }, accessFlags := 1, code := none }
/-- java/lang/Object -/
def k0 : Class := { plain "java/lang/Object" none with
  accessFlags := 33
  interfaces := #[]
  cf := some (fileOf pool0 8 #[] #[{ accessFlags := 1, nameIndex := 5, descriptorIndex := 6, attributes := #[] }] 33 0 #[] #[])
  fields := #[]
  methods := #[k0m0]
  instanceTypes := #[]
  staticTypes := #[]
  resolved := Array.replicate 124 none
  statics := none }

def pool1 : Array CpInfo := pool [(2, .class_ 4), (1, u "java/lang/Object"), (0, u "<init>"), (0, u "()V"), (0, .methodref 8 9), (0, .class_ 10), (0, .nameAndType 11 12), (0, u "com/example/all1/all1/Encoding"), (0, u "readLong"), (0, u "([BI)J"), (0, .class_ 14), (0, u "com/example/all1/all1/EncodingReadLongPinLaw"), (2, u "law"), (0, u "(JIJI)Z")] 5

def k1m0 : Method := { name := "<init>", desc := "()V", sig := { parameters := [], returnType := none }, accessFlags := 2, code := none }
def k1c1 : Code := { maxStack := 5, maxLocals := 8, code := code, exceptionTable := #[], attributes := #[] }
def k1m1 : Method := { name := "law", desc := "(JIJI)Z", sig := { parameters := [.long, .int, .long, .int], returnType := some .boolean }, accessFlags := 9, code := some k1c1 }
/-- com/example/all1/all1/EncodingReadLongPinLaw -/
def k1 : Class := { plain "com/example/all1/all1/EncodingReadLongPinLaw" (some 0) with
  accessFlags := 49
  interfaces := #[]
  cf := some (fileOf pool1 13 #[] #[{ accessFlags := 2, nameIndex := 5, descriptorIndex := 6, attributes := #[] }, { accessFlags := 9, nameIndex := 17, descriptorIndex := 18, attributes := #[] }] 49 2 #[] #[])
  fields := #[]
  methods := #[k1m0, k1m1]
  instanceTypes := #[]
  staticTypes := #[]
  resolved := Array.replicate 24 none
  statics := none }

def pool2 : Array CpInfo := pool [(2, .class_ 4), (1, u "java/lang/Object"), (0, u "<init>"), (0, u "()V"), (7, .class_ 16), (1, u "com/example/all1/all1/Encoding"), (99, .class_ 118), (1, u "com/example/all1/all1/Encoding$ElementReader"), (38, .methodref 14 158), (0, .nameAndType 159 160), (0, u "readInt"), (0, u "([BI)I"), (0, .long 4294967295), (16, u "CHECKSUM_BYTES"), (0, u "I"), (26, u "readLong"), (0, u "([BI)J")] 23

def k2m0 : Method := { name := "<init>", desc := "()V", sig := { parameters := [], returnType := none }, accessFlags := 2, code := none }
def k2c1 : Code := { maxStack := 4, maxLocals := 2, code := prog_20_method_15_code, exceptionTable := #[], attributes := #[] }
def k2m1 : Method := { name := "readInt", desc := "([BI)I", sig := { parameters := [(.array .byte), .int], returnType := some .int }, accessFlags := 8, code := some k2c1 }
def k2c2 : Code := { maxStack := 6, maxLocals := 2, code := prog_20_method_16_code, exceptionTable := #[], attributes := #[] }
def k2m2 : Method := { name := "readLong", desc := "([BI)J", sig := { parameters := [(.array .byte), .int], returnType := some .long }, accessFlags := 8, code := some k2c2 }
/-- com/example/all1/all1/Encoding -/
def k2 : Class := { plain "com/example/all1/all1/Encoding" (some 0) with
  accessFlags := 32
  interfaces := #[]
  cf := some (fileOf pool2 14 #[.nestMembers #[116]] #[{ accessFlags := 2, nameIndex := 5, descriptorIndex := 6, attributes := #[] }, { accessFlags := 8, nameIndex := 159, descriptorIndex := 160, attributes := #[] }, { accessFlags := 8, nameIndex := 206, descriptorIndex := 207, attributes := #[] }] 32 2 #[] #[{ accessFlags := 24, nameIndex := 178, descriptorIndex := 179, attributes := #[] }])
  fields := #[{ name := "CHECKSUM_BYTES", type := .int, accessFlags := 24, slot := 0, constantValue := 0 }]
  methods := #[k2m0, k2m1, k2m2]
  instanceTypes := #[]
  staticTypes := #[.int]
  resolved := Array.replicate 231 none
  statics := none }

def pool3 : Array CpInfo := pool [(1, u "java/lang/Cloneable"), (0, .class_ 1), (0, u "java/lang/Object"), (0, .class_ 3)] 3

/-- java/lang/Cloneable -/
def k3 : Class := { plain "java/lang/Cloneable" (some 0) with
  accessFlags := 1537
  interfaces := #[]
  cf := some (fileOf pool3 2 #[] #[] 1537 4 #[] #[])
  fields := #[]
  methods := #[]
  instanceTypes := #[]
  staticTypes := #[]
  resolved := Array.replicate 8 none
  statics := none }

def pool4 : Array CpInfo := pool [(1, u "java/io/Serializable"), (0, .class_ 1), (0, u "java/lang/Object"), (0, .class_ 3)] 3

/-- java/io/Serializable -/
def k4 : Class := { plain "java/io/Serializable" (some 0) with
  accessFlags := 1537
  interfaces := #[]
  cf := some (fileOf pool4 2 #[] #[] 1537 4 #[] #[])
  fields := #[]
  methods := #[]
  instanceTypes := #[]
  staticTypes := #[]
  resolved := Array.replicate 8 none
  statics := none }

/-- the primitive byte -/
def k5 : Class := { plain "byte" none with kind := .primitive 'B', accessFlags := 0x411 }
/-- [B -/
def k6 : Class := { plain "[B" (some 0) with kind := .array 5 .byte, interfaces := #[3, 4], accessFlags := 1041 }

/-- the primitive int -/
def k7 : Class := { plain "int" none with kind := .primitive 'I', accessFlags := 0x411 }
/-- [I -/
def k8 : Class := { plain "[I" (some 0) with kind := .array 7 .int, interfaces := #[3, 4], accessFlags := 1041 }

def heap : Heap := #[]
def classes : Array Class := #[k0, k1, k2, k3, k4, k5, k6, k7, k8]
def interned : List (Array UInt16 × Addr) := []
def slotsUsed : Nat := 0
def theMethod : MethodId := ⟨1, 1⟩
def args0 : Array Value := #[.long 5, .int 7, .long 1, .int 3]
def aboutOver (below : List Frame) : State where
  vm := { classes := classes, interned := interned.toArray }
  heap := heap
  slotsUsed := slotsUsed
  threads := #[{ frames := .invoking theMethod args0 :: below }]
def below0 : List Frame := [.native { method := ⟨0, 0⟩, args := #[] }]
def about1 : State := aboutOver below0
def p0 : Program := .bare "" "" ""
def e0 : Env := launch0.env 0 0 0
theorem w_frames : about1.frames = Frame.invoking theMethod args0 :: below0 := rfl
set_option maxRecDepth 65536 in
theorem w_args : argsFit about1.vm theMethod args0 = true := by decide +kernel
set_option maxRecDepth 65536 in
theorem w_heap : heapFits about1 = true := by decide +kernel
set_option maxRecDepth 65536 in
theorem w_runnable : about1.curStatus? = some .runnable := by decide +kernel
set_option maxRecDepth 65536 in
theorem w_alone : about1.alone = true := by decide +kernel
set_option maxRecDepth 65536 in
theorem w_named : about1.methodNamed? x = some theMethod := by decide +kernel
set_option maxRecDepth 65536 in
theorem w_hears : about1.hears theMethod below0 = true := by decide +kernel
set_option maxRecDepth 65536 in
theorem w_ripe : about1.ripe theMethod args0 below0 = true := by decide +kernel
theorem w_running : about1.status = .running := rfl
set_option maxRecDepth 65536 in
theorem w_room : about1.hasRoom e0.platform room_1 = true :=
  launch0.hasRoom_least _ room_1 (by decide +kernel) (by decide +kernel) (by decide +kernel) (by decide +kernel) (by decide +kernel) (by decide +kernel)
theorem allAtoms_all (ts : List Jvm.Cond) (a : Array Jvm.Value) (st : Jvm.State) : (allAtoms ts).before a st = ts.all (fun c => c.before a st) := by
  induction ts with
  | nil => rfl
  | cons c t ih =>
    show (Jvm.Cond.and c (allAtoms t)).before a st = _
    rw [Jvm.Cond.before_and, ih, List.all_cons]
def words1 : List Jvm.Cond := Jvm.Cond.code x code maxLocals ret :: tables_1
/-- a 'code' word, met by the world's own term for the bytes: nothing is compared byte by byte -/
theorem code_word {y : MethodName} {bytes : ByteArray} {mx : Nat} {rt : Option FieldType} {a : Array Value} {s : State} {m : MethodId} {meth : Method} {c : Code} (h1 : s.methodNamed? y = some m) (h2 : s.vm.method? m = some meth) (h3 : meth.code = some c) (h4 : c.code = bytes)
    (h5 : (c.maxLocals == mx && c.exceptionTable.isEmpty && decide (c.maxStack ≤ mostOperands) && decide (meth.sig.returnType = rt) && !meth.locks && decide (parseMethodDescriptor y.desc = some meth.sig)) = true) : (Jvm.Cond.code y bytes mx rt).before a s = true := by
  simp only [Bool.and_eq_true, beq_iff_eq, Bool.not_eq_true', decide_eq_true_eq] at h5
  obtain ⟨⟨⟨⟨⟨g1, g2⟩, g3⟩, g4⟩, g5⟩, g6⟩ := h5
  simp [Cond.before, Cond.holds, Cond.value, h1, h2, h3, h4, g1, g2, g3, g4, g5, g6]
def isCode : Jvm.Cond → Bool
  | .code _ _ _ _ => true
  | _ => false
theorem all_split {L : List Jvm.Cond} {P : Jvm.Cond → Bool} (h1 : L.all (fun c => isCode c || P c) = true) (h2 : ∀ c ∈ L.filter isCode, P c = true) : L.all P = true := by
  refine List.all_eq_true.mpr fun c hc => ?_
  have h := List.all_eq_true.mp h1 c hc
  rcases Bool.eq_false_or_eq_true (isCode c) with hi | hi
  · exact h2 c (List.mem_filter.mpr ⟨hc, hi⟩)
  · simpa [hi] using h
set_option maxRecDepth 65536 in
theorem w_c0 : (Jvm.Cond.code x code maxLocals ret).before args0 about1 = true := code_word (m := ⟨1, 1⟩) (meth := k1m1) (c := k1c1) (by decide +kernel) rfl rfl rfl (by decide +kernel)
set_option maxRecDepth 65536 in
theorem w_c1 : (Jvm.Cond.code ({ cls := "com/example/all1/all1/Encoding", name := "readLong", desc := "([BI)J" } : Jvm.MethodName) prog_20_method_16_code (2 : Nat) (Option.some Jvm.ClassFile.FieldType.long)).before args0 about1 = true := code_word (m := ⟨2, 2⟩) (meth := k2m2) (c := k2c2) (by decide +kernel) rfl rfl rfl (by decide +kernel)
set_option maxRecDepth 65536 in
theorem w_c2 : (Jvm.Cond.code ({ cls := "com/example/all1/all1/Encoding", name := "readInt", desc := "([BI)I" } : Jvm.MethodName) prog_20_method_15_code (2 : Nat) (Option.some Jvm.ClassFile.FieldType.int)).before args0 about1 = true := code_word (m := ⟨2, 1⟩) (meth := k2m1) (c := k2c1) (by decide +kernel) rfl rfl rfl (by decide +kernel)
def codes1 : List Jvm.Cond := [Jvm.Cond.code x code maxLocals ret, Jvm.Cond.code ({ cls := "com/example/all1/all1/Encoding", name := "readLong", desc := "([BI)J" } : Jvm.MethodName) prog_20_method_16_code (2 : Nat) (Option.some Jvm.ClassFile.FieldType.long), Jvm.Cond.code ({ cls := "com/example/all1/all1/Encoding", name := "readInt", desc := "([BI)I" } : Jvm.MethodName) prog_20_method_15_code (2 : Nat) (Option.some Jvm.ClassFile.FieldType.int)]
set_option maxRecDepth 65536 in
theorem codes_eq : words1.filter isCode = codes1 := rfl
theorem w_codes : ∀ c ∈ words1.filter isCode, c.before args0 about1 = true := by
  rw [codes_eq]
  intro c hc
  simp only [codes1, List.mem_cons, List.not_mem_nil, or_false] at hc
  rcases hc with rfl | rfl | rfl
  · exact w_c0
  · exact w_c1
  · exact w_c2
set_option maxRecDepth 65536 in
theorem w_t1 : words1.all (fun c => isCode c || c.before args0 about1) = true := by decide +kernel
theorem w_tables : (allAtoms (Jvm.Cond.code x code maxLocals ret :: tables_1)).before args0 about1 = true := by
  rw [allAtoms_all]
  show words1.all (fun c => c.before args0 about1) = true
  refine all_split ?_ w_codes
  rw [w_t1]
set_option maxRecDepth 65536 in
theorem w_case : (Jvm.Cond.and given_1 narrow_1).before args0 about1 = true := by decide +kernel
theorem w_applies : (headSpec (Jvm.Cond.code x code maxLocals ret :: tables_1) room_1).applies x e0.platform about1 = true :=
  (Spec.applies_iff w_frames).mpr ⟨w_running, w_runnable, w_alone, w_named, w_hears, w_ripe, w_room, w_tables⟩
theorem atStart : AtStart classFile x code maxLocals ret World_1 tables_1 room_1 Calls_1 rest_1 Pre_1 launch0 p0 e0 about1 theMethod args0 below0 :=
  ⟨lists_1, trivial, launch0.admits_env _ _ _, launch0.least_env, fairChoices_fair.cas, fairChoices_fair.clock, w_frames, w_args, w_heap, w_applies, trivial, trivial, w_case⟩
end start1
theorem witness_1 : WitnessClaimed_1 := ⟨start1.p0, start1.e0, start1.about1, start1.theMethod, start1.args0, start1.below0, start1.atStart⟩
end Jvm.Pilot.@@N@@
