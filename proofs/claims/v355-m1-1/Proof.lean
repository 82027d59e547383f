import JvmDerived
import JvmDerived.Pilot.@@N@@Statement
import JvmDerived.Pilot.@@N@@Code
set_option linter.unusedVariables false
set_option linter.unusedSimpArgs false
namespace Jvm.RoadKit
open Sem ClassFile Op Lib Jvm.Stand Jvm.Free Jvm.LawKit
section New
variable {p : Program} {l : Launch} {e : Env} {R : Room} {s : State} {m : MethodId} {args : Array Value} {below : List Frame} {meth : Method} {c : Code} {T : State} {locs : List Loc} {cells slots : Nat}
theorem retI (X : Stand p l e R s m args below meth c T locs cells slots) (hx : p.tables.exec = Jvm.exec) {pc : Nat} {Ls : Array Slot} {z : Int32} {rest : List Value} (hret : meth.sig.returnType = some .int) (hd : decode c.code pc = .ok (.ireturn, 1)) {fs : List Frame}
    (hl : ∀ (f : JFrame) (acts : List Action), f.method = m → f.locked = none → f.entered = [] → (doReturn e (T.setTop f) acts (some (.int z))).1 = T.setFrames fs) : Steps p.tables e below (T.setTop (mkF m pc Ls (.int z :: rest))) (T.setFrames fs) := by
  have hm' : T.vm.method? m = some meth := X.method'
  have hn : narrow .int (.int z) = .int z := rfl
  show Steps p.tables e below (T.setTop { method := m, pc := pc, locals := Ls, stack := _ :: rest, locked := none }) _
  jvm_step X.here [X.here.top, hx, hd, hm', hret, hn]
  first | (intro acts; rw [hl _ acts rfl rfl rfl]) | rw [hl _ _ rfl rfl rfl]
  exact Steps.refl _
end New
end Jvm.RoadKit
namespace Jvm.Pilot.@@N@@
open Jvm Jvm.ClassFile Sem Op Lib Jvm.Free Jvm.Stand Jvm.LawKit Jvm.RoadKit Bundle Jvm.Pilot.@@N@@.Jvm.D
def own_L (g : Nat → Int64) : List Value := [(.long (g 0)), (.long (g 1)), (.long (g 2)), (.long (g 3))]
def own_upd (g : Nat → Int64) (s : Int32) (w : Int64) : Nat → Int64 := fun j => if j = s.toNatClampNeg then w else g j
def own_g4 (a b c d : Int64) : Nat → Int64
  | 0 => a
  | 1 => b
  | 2 => c
  | _ => d
theorem own_lt4 {s : Int32} (h : ¬ s < 0 ∧ s < (4 : Int32)) : s.toNatClampNeg < 4 := by
  obtain ⟨h1, h2⟩ := h
  rw [Int32.lt_iff_toInt_lt] at h1 h2
  have e0 : (0 : Int32).toInt = 0 := rfl
  have e4 : (4 : Int32).toInt = 4 := rfl
  simp only [Int32.toNatClampNeg]; omega
theorem own_Lset (g : Nat → Int64) (s : Int32) (w : Int64) (h : s.toNatClampNeg < 4) : (own_L g).set s.toNatClampNeg (.long w) = own_L (own_upd g s w) := by
  simp only [own_L, own_upd]
  generalize s.toNatClampNeg = n at h
  match n, h with
  | 0, _ => rfl
  | 1, _ => rfl
  | 2, _ => rfl
  | 3, _ => rfl
theorem own_m3 (x : Int32) : (x &&& (3 : Int32)) = (0 : Int32) ∨ (x &&& (3 : Int32)) = (1 : Int32) ∨ (x &&& (3 : Int32)) = (2 : Int32) ∨ (x &&& (3 : Int32)) = (3 : Int32) := by
  have := c_mask x (3 : Int32) 2 (by decide) (by decide)
  simp only [← Int32.toInt_inj, Int32.reduceToInt]
  omega
theorem own_d2_0 : decode jdk_30_method_1_code 0 = .ok (.aload_n 0, 1) := by decide +kernel
theorem own_d2_1 : decode jdk_30_method_1_code 1 = .ok (.invokespecial 1, 3) := by decide +kernel
theorem own_d2_4 : decode jdk_30_method_1_code 4 = .ok (.return_, 1) := by decide +kernel
theorem own_pn3 : plainName "java/lang/Record" = true := by first | (simp [plainName, overriddenIn]; done) | decide +kernel
theorem own_ef2 (m : MethodId) (a0 : Addr) : entryFrame m #[(.ref a0)] 1 = mkF m 0 #[.val (.ref a0)] [] := by first | (simp [entryFrame, mkF, argsToLocals, Value.category]; done) | rfl
def own_Q2 (Z : State) (a0 : Addr) (h0 : Heap) (n0 : Nat) (v : Option Value) (h : Heap) (L : List Loc) : Prop := v = none ∧ Fr n0 L ∧ h = h0
set_option maxRecDepth 65536 in
set_option maxHeartbeats 40000000 in
theorem own_rm2 (l : Launch) (Z : State) (av : Array Value) (hw : ∀ d ∈ tables_1, d.before av Z = true) (ws : List Jvm.Cond) (a0 : Addr) (h0 : Heap) (n0 : Nat) (Z0 : n0 ≤ h0.size) :
    MetFree l (⟨"java/lang/Record", "<init>", "()V"⟩ : MethodName) (head1 (Jvm.Cond.code (⟨"java/lang/Record", "<init>", "()V"⟩ : MethodName) jdk_30_method_1_code 1 none :: ws) ({ frames := 1, cells := 0, slots := 0, locals := 12 } : Room)) (fun a U => a = #[(.ref a0)] ∧ Z.Warmed39 U.vm ∧ U.heap = h0) (fun _ _ _ _ _ => True) (fun _ U o U' => ∃ v L, o = .returned v ∧ own_Q2 Z a0 h0 n0 v U'.heap L ∧ FrameEnd U o U' L ({ frames := 1, cells := 0, slots := 0, locals := 12 } : Room).cells ({ frames := 1, cells := 0, slots := 0, locals := 12 } : Room).slots) := by
  refine MetFree.of_bodySF (plainFor_of_name own_pn3) hisR ?_
  intro p e s m args below meth c s₁ Bd hml0 hP hK
  obtain ⟨rfl, hZ, hh⟩ := hP
  have hx := Bd.exec
  have hby := Bd.bytes
  have hml : c.maxLocals = 1 := hml0
  have hown : s.vm.findClass "java/lang/Record" = some m.cls := findClass_of_methodNamed Bd.named
  have hnm := (name_of_methodNamed Bd.named Bd.method).1
  have X0 : Stand p l e ({ frames := 1, cells := 0, slots := 0, locals := 12 } : Room) s m #[(.ref a0)] below meth c s₁ [] 0 0 := Stand.of_body Bd
  have e0 : s₁.heap = h0 := by rw [← hh, Bd.state]; rfl
  have N0 := Fr.nil n0
  have pre0 : ∀ t, Steps p.tables e below (s₁.setTop (mkF m 0 #[.val (.ref a0)] [])) t → Steps p.tables e below (s₁.setTop (entryFrame m #[(.ref a0)] 1)) t := fun t k => castTop (own_ef2 m a0) k
  obtain ⟨T1, X1, e1, st1⟩ := initO X0 hx hZ hown (hw _ (List.mem_of_getElem? (i := 14) rfl)) (hw _ (List.mem_of_getElem? (i := 15) rfl)) (hw _ (List.mem_of_getElem? (i := 16) rfl)) e0 (g := (mkF m 1 #[.val (.ref a0)] [(.ref a0)])) rfl (by rw [hml]; rfl) rfl (hb hby own_d2_1) (by decide) (W := 0) (by show 2 * 0 + _ ≤ _; exact Nat.le_of_eq rfl) (by decide)
  obtain ⟨fs, hr, hrun, hended, hW, hsame⟩ := X1.leave (v := none) (fun _ => rfl)
  refine ⟨_, _, pre0 _ ?_, hrun, hended, _, _, rfl, ?_, ⟨_, rfl⟩, hW, hsame.mono (by decide) (by decide)⟩
  · show Steps p.tables e below (s₁.setTop (mkF m 0 #[.val (.ref a0)] [])) _
    refine XS.aloadN X0.here hx rfl (hb hby own_d2_0) rfl rfl ?_
    show Steps p.tables e below (s₁.setTop (mkF m 1 #[.val (.ref a0)] [(.ref a0)])) _
    refine st1 _ ?_
    show Steps p.tables e below (T1.setTop (mkF m 4 #[.val (.ref a0)] [])) _
    exact X1.returnOut hx Bd.returns (hb hby own_d2_4) hr
  · show own_Q2 Z a0 h0 n0 _ T1.heap _
    rw [e1]
    exact ⟨rfl, N0, rfl⟩
theorem own_d1_0 : decode prog_17_method_1_code 0 = .ok (.aload_n 0, 1) := by decide +kernel
theorem own_pd0 : parseMethodDescriptor "()V" = some ⟨[], none⟩ := by decide +kernel
theorem own_d1_1 : decode prog_17_method_1_code 1 = .ok (.invokespecial 1, 3) := by decide +kernel
theorem own_d1_4 : decode prog_17_method_1_code 4 = .ok (.aload_n 0, 1) := by decide +kernel
theorem own_d1_5 : decode prog_17_method_1_code 5 = .ok (.aload_n 1, 1) := by decide +kernel
theorem own_d1_6 : decode prog_17_method_1_code 6 = .ok (.putfield 7, 3) := by decide +kernel
theorem own_d1_9 : decode prog_17_method_1_code 9 = .ok (.aload_n 0, 1) := by decide +kernel
theorem own_d1_10 : decode prog_17_method_1_code 10 = .ok (.aload_n 2, 1) := by decide +kernel
theorem own_d1_11 : decode prog_17_method_1_code 11 = .ok (.putfield 13, 3) := by decide +kernel
theorem own_d1_14 : decode prog_17_method_1_code 14 = .ok (.aload_n 0, 1) := by decide +kernel
theorem own_d1_15 : decode prog_17_method_1_code 15 = .ok (.aload_n 3, 1) := by decide +kernel
theorem own_d1_16 : decode prog_17_method_1_code 16 = .ok (.putfield 17, 3) := by decide +kernel
theorem own_d1_19 : decode prog_17_method_1_code 19 = .ok (.return_, 1) := by decide +kernel
theorem own_pn16 : plainName "com/example/thyme/thyme/engine/Hierarchy$Restart" = true := by first | (simp [plainName, overriddenIn]; done) | decide +kernel
theorem own_ef1 (m : MethodId) (a0 : Addr) (a1 : Addr) (a2 : Addr) (a3 : Addr) : entryFrame m #[(.ref a0), (.ref a1), (.ref a2), (.ref a3)] 4 = mkF m 0 #[.val (.ref a0), .val (.ref a1), .val (.ref a2), .val (.ref a3)] [] := by first | (simp [entryFrame, mkF, argsToLocals, Value.category]; done) | rfl
def own_Q1 (Z : State) (a0 : Addr) (a1 : Addr) (a2 : Addr) (a3 : Addr) (h0 : Heap) (n0 : Nat) (v : Option Value) (h : Heap) (L : List Loc) : Prop := v = none ∧ Fr n0 L ∧ Keep h0 h [a0] ∧ (Exa Z h a0 "com/example/thyme/thyme/engine/Hierarchy$Restart") ∧ (Fld Z h a0 "com/example/thyme/thyme/engine/Hierarchy$Restart" "slots" "[I" (.ref a1)) ∧ (Fld Z h a0 "com/example/thyme/thyme/engine/Hierarchy$Restart" "values" "[J" (.ref a2)) ∧ (Fld Z h a0 "com/example/thyme/thyme/engine/Hierarchy$Restart" "clocks" "[I" (.ref a3))
set_option maxRecDepth 65536 in
set_option maxHeartbeats 40000000 in
theorem own_rm1 (l : Launch) (Z : State) (av : Array Value) (hw : ∀ d ∈ tables_1, d.before av Z = true) (ws : List Jvm.Cond) (a0 : Addr) (a1 : Addr) (a2 : Addr) (a3 : Addr) (h0 : Heap) (n0 : Nat) (Z0 : n0 ≤ h0.size) (pr0 : Exa Z h0 a0 "com/example/thyme/thyme/engine/Hierarchy$Restart") (pr1 : Fld Z h0 a0 "com/example/thyme/thyme/engine/Hierarchy$Restart" "slots" "[I" .null) (pr2 : Fld Z h0 a0 "com/example/thyme/thyme/engine/Hierarchy$Restart" "values" "[J" .null) (pr3 : Fld Z h0 a0 "com/example/thyme/thyme/engine/Hierarchy$Restart" "clocks" "[I" .null) (g_a0 : n0 ≤ a0) :
    MetFree l (⟨"com/example/thyme/thyme/engine/Hierarchy$Restart", "<init>", "([I[J[I)V"⟩ : MethodName) (head1 (Jvm.Cond.code (⟨"com/example/thyme/thyme/engine/Hierarchy$Restart", "<init>", "([I[J[I)V"⟩ : MethodName) prog_17_method_1_code 4 none :: ws) ({ frames := 2, cells := 0, slots := 0, locals := 24 } : Room)) (fun a U => a = #[(.ref a0), (.ref a1), (.ref a2), (.ref a3)] ∧ Z.Warmed39 U.vm ∧ U.heap = h0) (fun _ _ _ _ _ => True) (fun _ U o U' => ∃ v L, o = .returned v ∧ own_Q1 Z a0 a1 a2 a3 h0 n0 v U'.heap L ∧ FrameEnd U o U' L ({ frames := 2, cells := 0, slots := 0, locals := 24 } : Room).cells ({ frames := 2, cells := 0, slots := 0, locals := 24 } : Room).slots) := by
  refine MetFree.of_bodySF (plainFor_of_name own_pn16) hisR ?_
  intro p e s m args below meth c s₁ Bd hml0 hP hK
  obtain ⟨rfl, hZ, hh⟩ := hP
  have hx := Bd.exec
  have hby := Bd.bytes
  have hml : c.maxLocals = 4 := hml0
  have hown : s.vm.findClass "com/example/thyme/thyme/engine/Hierarchy$Restart" = some m.cls := findClass_of_methodNamed Bd.named
  have hnm := (name_of_methodNamed Bd.named Bd.method).1
  have X0 : Stand p l e ({ frames := 2, cells := 0, slots := 0, locals := 24 } : Room) s m #[(.ref a0), (.ref a1), (.ref a2), (.ref a3)] below meth c s₁ [] 0 0 := Stand.of_body Bd
  have e0 : s₁.heap = h0 := by rw [← hh, Bd.state]; rfl
  have N0 := Fr.nil n0
  have pre0 : ∀ t, Steps p.tables e below (s₁.setTop (mkF m 0 #[.val (.ref a0), .val (.ref a1), .val (.ref a2), .val (.ref a3)] [])) t → Steps p.tables e below (s₁.setTop (entryFrame m #[(.ref a0), (.ref a1), (.ref a2), (.ref a3)] 4)) t := fun t k => castTop (own_ef1 m a0 a1 a2 a3) k
  obtain ⟨_, _, ⟨T2, L2, k2, n2⟩, -, X2, ⟨Lc2, hQ2, l2, y2, z2⟩, st2⟩ := X0.specialBack hx (y := (⟨"java/lang/Record", "<init>", "()V"⟩ : MethodName)) rfl hown (mvT hZ (hw _ (List.mem_of_getElem? (i := 9) rfl))) (mvT hZ (hw _ (List.mem_of_getElem? (i := 10) rfl))) (mvT hZ (hw _ (List.mem_of_getElem? (i := 13) rfl))) (by decide) (backOf (W := 0) (own_rm2 l Z av hw [] a0 h0 n0 Z0 ) hZ (hw _ (List.mem_of_getElem? (i := 13) rfl)) (hw _ (List.mem_of_getElem? (i := 12) rfl)) (by decide) (by decide)) (g := (mkF m 1 #[.val (.ref a0), .val (.ref a1), .val (.ref a2), .val (.ref a3)] [(.ref a0)])) rfl (by rw [hml]; rfl) (Steps.refl _) (a := a0) (argsL := []) (rest := []) (lenOf own_pd0 rfl) rfl (by show 2 * 0 + _ ≤ _; exact Nat.le_of_eq rfl) (hb hby own_d1_1) (fun _ _ => ⟨rfl, e0, (by decide : 0 + 0 ≤ _), (by decide : 0 + 0 ≤ _)⟩)
  dsimp only [Pt.U, Pt.locs, Pt.cells, Pt.slots] at X2 l2 y2 z2 st2 hQ2
  subst l2 y2 z2
  obtain ⟨rfl, N2q, e4⟩ := hQ2
  have N3 := Fr.app N0 N2q
  obtain ⟨T5, h5, X5, e5, W5, st5⟩ := putF X2 hx hZ hown (host := "") (Or.inl (hw _ (List.mem_of_getElem? (i := 17) rfl))) Via.refl e4 pr1 pr0 (Or.inr ⟨(hw _ (List.mem_of_getElem? (i := 18) rfl)), rfl, hnm⟩) (hw _ (List.mem_of_getElem? (i := 4) rfl)) (ty := (.array .int)) (by decide) rfl rfl (g := (mkF m 6 #[.val (.ref a0), .val (.ref a1), .val (.ref a2), .val (.ref a3)] [(.ref a1), (.ref a0)])) rfl rfl (hb hby own_d1_6)
  have f6 := pr0.wr W5
  have f7 := pr2.other W5 (Or.inr (slot_ne (Or.inr (hw _ (List.mem_of_getElem? (i := 20) rfl))) (Or.inr (hw _ (List.mem_of_getElem? (i := 18) rfl))) (by decide) (t := (.array .long)) (t' := (.array .int)) (by decide) (by decide)))
  have f8 := pr3.other W5 (Or.inr (slot_ne (Or.inr (hw _ (List.mem_of_getElem? (i := 22) rfl))) (Or.inr (hw _ (List.mem_of_getElem? (i := 18) rfl))) (by decide) (t := (.array .int)) (t' := (.array .int)) (by decide) (by decide)))
  have K9 : Keep h0 h5 [a0] := (Keep.refl h0 [a0]).wr W5 (Or.inl (List.mem_of_getElem? (i := 0) rfl))
  have z10 : n0 ≤ h5.size := Nat.le_trans Z0 (Keep.of_wr W5).1
  have N11 := Fr.snoc X5 N3 g_a0
  have f12 : Fld Z h5 a0 "com/example/thyme/thyme/engine/Hierarchy$Restart" "slots" "[I" (.ref a1) := pr1.same W5
  obtain ⟨T13, h13, X13, e13, W13, st13⟩ := putF X5 hx hZ hown (host := "") (Or.inl (hw _ (List.mem_of_getElem? (i := 19) rfl))) Via.refl e5 f7 f6 (Or.inr ⟨(hw _ (List.mem_of_getElem? (i := 20) rfl)), rfl, hnm⟩) (hw _ (List.mem_of_getElem? (i := 4) rfl)) (ty := (.array .long)) (by decide) rfl rfl (g := (mkF m 11 #[.val (.ref a0), .val (.ref a1), .val (.ref a2), .val (.ref a3)] [(.ref a2), (.ref a0)])) rfl rfl (hb hby own_d1_11)
  have f14 := f6.wr W13
  have f15 := f12.other W13 (Or.inr (slot_ne (Or.inr (hw _ (List.mem_of_getElem? (i := 18) rfl))) (Or.inr (hw _ (List.mem_of_getElem? (i := 20) rfl))) (by decide) (t := (.array .int)) (t' := (.array .long)) (by decide) (by decide)))
  have f16 := f8.other W13 (Or.inr (slot_ne (Or.inr (hw _ (List.mem_of_getElem? (i := 22) rfl))) (Or.inr (hw _ (List.mem_of_getElem? (i := 20) rfl))) (by decide) (t := (.array .int)) (t' := (.array .long)) (by decide) (by decide)))
  have K17 : Keep h0 h13 [a0] := K9.wr W13 (Or.inl (List.mem_of_getElem? (i := 0) rfl))
  have z18 : n0 ≤ h13.size := Nat.le_trans z10 (Keep.of_wr W13).1
  have N19 := Fr.snoc X13 N11 g_a0
  have f20 : Fld Z h13 a0 "com/example/thyme/thyme/engine/Hierarchy$Restart" "values" "[J" (.ref a2) := f7.same W13
  obtain ⟨T21, h21, X21, e21, W21, st21⟩ := putF X13 hx hZ hown (host := "") (Or.inl (hw _ (List.mem_of_getElem? (i := 21) rfl))) Via.refl e13 f16 f14 (Or.inr ⟨(hw _ (List.mem_of_getElem? (i := 22) rfl)), rfl, hnm⟩) (hw _ (List.mem_of_getElem? (i := 4) rfl)) (ty := (.array .int)) (by decide) rfl rfl (g := (mkF m 16 #[.val (.ref a0), .val (.ref a1), .val (.ref a2), .val (.ref a3)] [(.ref a3), (.ref a0)])) rfl rfl (hb hby own_d1_16)
  have f22 := f14.wr W21
  have f23 := f15.other W21 (Or.inr (slot_ne (Or.inr (hw _ (List.mem_of_getElem? (i := 18) rfl))) (Or.inr (hw _ (List.mem_of_getElem? (i := 22) rfl))) (by decide) (t := (.array .int)) (t' := (.array .int)) (by decide) (by decide)))
  have f24 := f20.other W21 (Or.inr (slot_ne (Or.inr (hw _ (List.mem_of_getElem? (i := 20) rfl))) (Or.inr (hw _ (List.mem_of_getElem? (i := 22) rfl))) (by decide) (t := (.array .long)) (t' := (.array .int)) (by decide) (by decide)))
  have K25 : Keep h0 h21 [a0] := K17.wr W21 (Or.inl (List.mem_of_getElem? (i := 0) rfl))
  have z26 : n0 ≤ h21.size := Nat.le_trans z18 (Keep.of_wr W21).1
  have N27 := Fr.snoc X21 N19 g_a0
  have f28 : Fld Z h21 a0 "com/example/thyme/thyme/engine/Hierarchy$Restart" "clocks" "[I" (.ref a3) := f16.same W21
  obtain ⟨fs, hr, hrun, hended, hW, hsame⟩ := X21.leave (v := none) (fun _ => rfl)
  refine ⟨_, _, pre0 _ ?_, hrun, hended, _, _, rfl, ?_, ⟨_, rfl⟩, hW, hsame.mono (by decide) (by decide)⟩
  · show Steps p.tables e below (s₁.setTop (mkF m 0 #[.val (.ref a0), .val (.ref a1), .val (.ref a2), .val (.ref a3)] [])) _
    refine XS.aloadN X0.here hx rfl (hb hby own_d1_0) rfl rfl ?_
    show Steps p.tables e below (s₁.setTop (mkF m 1 #[.val (.ref a0), .val (.ref a1), .val (.ref a2), .val (.ref a3)] [(.ref a0)])) _
    refine st2.trans ?_
    show Steps p.tables e below (T2.setTop (mkF m 4 #[.val (.ref a0), .val (.ref a1), .val (.ref a2), .val (.ref a3)] [])) _
    refine XS.aloadN X2.here hx rfl (hb hby own_d1_4) rfl rfl ?_
    show Steps p.tables e below (T2.setTop (mkF m 5 #[.val (.ref a0), .val (.ref a1), .val (.ref a2), .val (.ref a3)] [(.ref a0)])) _
    refine XS.aloadN X2.here hx rfl (hb hby own_d1_5) rfl rfl ?_
    show Steps p.tables e below (T2.setTop (mkF m 6 #[.val (.ref a0), .val (.ref a1), .val (.ref a2), .val (.ref a3)] [(.ref a1), (.ref a0)])) _
    refine st5 _ ?_
    show Steps p.tables e below (T5.setTop (mkF m 9 #[.val (.ref a0), .val (.ref a1), .val (.ref a2), .val (.ref a3)] [])) _
    refine XS.aloadN X5.here hx rfl (hb hby own_d1_9) rfl rfl ?_
    show Steps p.tables e below (T5.setTop (mkF m 10 #[.val (.ref a0), .val (.ref a1), .val (.ref a2), .val (.ref a3)] [(.ref a0)])) _
    refine XS.aloadN X5.here hx rfl (hb hby own_d1_10) rfl rfl ?_
    show Steps p.tables e below (T5.setTop (mkF m 11 #[.val (.ref a0), .val (.ref a1), .val (.ref a2), .val (.ref a3)] [(.ref a2), (.ref a0)])) _
    refine st13 _ ?_
    show Steps p.tables e below (T13.setTop (mkF m 14 #[.val (.ref a0), .val (.ref a1), .val (.ref a2), .val (.ref a3)] [])) _
    refine XS.aloadN X13.here hx rfl (hb hby own_d1_14) rfl rfl ?_
    show Steps p.tables e below (T13.setTop (mkF m 15 #[.val (.ref a0), .val (.ref a1), .val (.ref a2), .val (.ref a3)] [(.ref a0)])) _
    refine XS.aloadN X13.here hx rfl (hb hby own_d1_15) rfl rfl ?_
    show Steps p.tables e below (T13.setTop (mkF m 16 #[.val (.ref a0), .val (.ref a1), .val (.ref a2), .val (.ref a3)] [(.ref a3), (.ref a0)])) _
    refine st21 _ ?_
    show Steps p.tables e below (T21.setTop (mkF m 19 #[.val (.ref a0), .val (.ref a1), .val (.ref a2), .val (.ref a3)] [])) _
    exact X21.returnOut hx Bd.returns (hb hby own_d1_19) hr
  · show own_Q1 Z a0 a1 a2 a3 h0 n0 _ T21.heap _
    rw [e21]
    exact ⟨rfl, N27, K25, f22, f23, f24, f28⟩
theorem own_d4_0 : decode prog_17_method_2_code 0 = .ok (.iconst 0, 1) := by decide +kernel
theorem own_d4_1 : decode prog_17_method_2_code 1 = .ok (.istore_n 2, 1) := by decide +kernel
theorem own_d4_2 : decode prog_17_method_2_code 2 = .ok (.iload_n 2, 1) := by decide +kernel
theorem own_d4_3 : decode prog_17_method_2_code 3 = .ok (.aload_n 0, 1) := by decide +kernel
theorem own_d4_4 : decode prog_17_method_2_code 4 = .ok (.getfield 7, 3) := by decide +kernel
theorem own_d4_7 : decode prog_17_method_2_code 7 = .ok (.arraylength, 1) := by decide +kernel
theorem own_d4_8 : decode prog_17_method_2_code 8 = .ok (.if_icmp .ge 23, 3) := by decide +kernel
theorem own_d4_31 : decode prog_17_method_2_code 31 = .ok (.return_, 1) := by decide +kernel
theorem own_efW0 (m : MethodId) (a0 : Addr) (a1 : Addr) : entryFrame m #[(.ref a0), (.ref a1)] 3 = mkF m 0 #[.val (.ref a0), .val (.ref a1), .unset] [] := by first | (simp [entryFrame, mkF, argsToLocals, Value.category]; done) | rfl
def own_QW0 (Z : State) (a0 : Addr) (a1 : Addr) (sa : Addr) (va : Addr) (k1 : ClassId) (d1 : Value) (k2 : ClassId) (d2 : Value) (h0 : Heap) (n0 : Nat) (v : Option Value) (h : Heap) (L : List Loc) : Prop := v = none ∧ Fr n0 L ∧ h = h0
set_option maxRecDepth 65536 in
set_option maxHeartbeats 40000000 in
theorem own_rmW0 (l : Launch) (Z : State) (av : Array Value) (hw : ∀ d ∈ tables_1, d.before av Z = true) (ws : List Jvm.Cond) (a0 : Addr) (a1 : Addr) (sa : Addr) (va : Addr) (k1 : ClassId) (d1 : Value) (k2 : ClassId) (d2 : Value) (h0 : Heap) (n0 : Nat) (Z0 : n0 ≤ h0.size) (pr0 : Fld Z h0 a0 "com/example/thyme/thyme/engine/Hierarchy$Restart" "slots" "[I" (.ref sa)) (pr1 : Fld Z h0 a0 "com/example/thyme/thyme/engine/Hierarchy$Restart" "values" "[J" (.ref va)) (pr2 : Arv Z h0 sa k1 .int (0 : Int32) [] d1) (pr3 : Arv Z h0 va k2 .long (0 : Int32) [] d2) :
    MetFree l (⟨"com/example/thyme/thyme/engine/Hierarchy$Restart", "write", "([J)V"⟩ : MethodName) (head1 (Jvm.Cond.code (⟨"com/example/thyme/thyme/engine/Hierarchy$Restart", "write", "([J)V"⟩ : MethodName) prog_17_method_2_code 3 none :: ws) ({ frames := 0, cells := 0, slots := 0, locals := 0 } : Room)) (fun a U => a = #[(.ref a0), (.ref a1)] ∧ Z.Warmed39 U.vm ∧ U.heap = h0) (fun _ _ _ _ _ => True) (fun _ U o U' => ∃ v L, o = .returned v ∧ own_QW0 Z a0 a1 sa va k1 d1 k2 d2 h0 n0 v U'.heap L ∧ FrameEnd U o U' L ({ frames := 0, cells := 0, slots := 0, locals := 0 } : Room).cells ({ frames := 0, cells := 0, slots := 0, locals := 0 } : Room).slots) := by
  refine MetFree.of_bodySF (plainFor_of_name own_pn16) hisR ?_
  intro p e s m args below meth c s₁ Bd hml0 hP hK
  obtain ⟨rfl, hZ, hh⟩ := hP
  have hx := Bd.exec
  have hby := Bd.bytes
  have hml : c.maxLocals = 3 := hml0
  have hown : s.vm.findClass "com/example/thyme/thyme/engine/Hierarchy$Restart" = some m.cls := findClass_of_methodNamed Bd.named
  have hnm := (name_of_methodNamed Bd.named Bd.method).1
  have X0 : Stand p l e ({ frames := 0, cells := 0, slots := 0, locals := 0 } : Room) s m #[(.ref a0), (.ref a1)] below meth c s₁ [] 0 0 := Stand.of_body Bd
  have e0 : s₁.heap = h0 := by rw [← hh, Bd.state]; rfl
  have N0 := Fr.nil n0
  have pre0 : ∀ t, Steps p.tables e below (s₁.setTop (mkF m 0 #[.val (.ref a0), .val (.ref a1), .unset] [])) t → Steps p.tables e below (s₁.setTop (entryFrame m #[(.ref a0), (.ref a1)] 3)) t := fun t k => castTop (own_efW0 m a0 a1) k
  obtain ⟨T29, X29, e29, st29⟩ := getF X0 hx hZ hown (host := "") (Or.inl (hw _ (List.mem_of_getElem? (i := 17) rfl))) Via.refl e0 pr0 (g := (mkF m 4 #[.val (.ref a0), .val (.ref a1), .val (.int (0 : Int32))] [(.ref a0), (.int (0 : Int32))])) rfl rfl (hb hby own_d4_4)
  obtain ⟨cl30, Ar30, q30, S30, M30, H30, G30⟩ := id pr2
  obtain ⟨fs, hr, hrun, hended, hW, hsame⟩ := X29.leave (v := none) (fun _ => rfl)
  refine ⟨_, _, pre0 _ ?_, hrun, hended, _, _, rfl, ?_, ⟨_, rfl⟩, hW, hsame.mono (by decide) (by decide)⟩
  · show Steps p.tables e below (s₁.setTop (mkF m 0 #[.val (.ref a0), .val (.ref a1), .unset] [])) _
    refine XS.iconst X0.here hx rfl (hb hby own_d4_0) ?_
    show Steps p.tables e below (s₁.setTop (mkF m 1 #[.val (.ref a0), .val (.ref a1), .unset] [(.int (0 : Int32))])) _
    refine XS.istoreN X0.here hx rfl (hb hby own_d4_1) rfl (l' := #[.val (.ref a0), .val (.ref a1), .val (.int (0 : Int32))]) rfl ?_
    show Steps p.tables e below (s₁.setTop (mkF m 2 #[.val (.ref a0), .val (.ref a1), .val (.int (0 : Int32))] [])) _
    refine XS.iloadN X0.here hx rfl (hb hby own_d4_2) rfl ?_
    show Steps p.tables e below (s₁.setTop (mkF m 3 #[.val (.ref a0), .val (.ref a1), .val (.int (0 : Int32))] [(.int (0 : Int32))])) _
    refine XS.aloadN X0.here hx rfl (hb hby own_d4_3) rfl rfl ?_
    show Steps p.tables e below (s₁.setTop (mkF m 4 #[.val (.ref a0), .val (.ref a1), .val (.int (0 : Int32))] [(.ref a0), (.int (0 : Int32))])) _
    refine st29 _ ?_
    show Steps p.tables e below (T29.setTop (mkF m 7 #[.val (.ref a0), .val (.ref a1), .val (.int (0 : Int32))] [(.ref sa), (.int (0 : Int32))])) _
    refine X29.arraylength hx (by rw [e29]; exact Ar30.1) (State.isArrayOf_alike hZ.alike Ar30.2.1) (g := (mkF m 7 #[.val (.ref a0), .val (.ref a1), .val (.int (0 : Int32))] [(.ref sa), (.int (0 : Int32))])) rfl rfl (hb hby own_d4_7) _ ?_
    rw [len_of S30 M30]
    show Steps p.tables e below (T29.setTop (mkF m 8 #[.val (.ref a0), .val (.ref a1), .val (.int (0 : Int32))] [(.int (0 : Int32)), (.int (0 : Int32))])) _
    refine XS.icmpYes X29.here hx rfl (pc0 := 8) (pc' := 31) rfl (hb hby own_d4_8) rfl (flt (by decide : ¬ ((0 : Int32) < (0 : Int32)))).2.1 (by decide) (by decide) ?_
    show Steps p.tables e below (T29.setTop (mkF m 31 #[.val (.ref a0), .val (.ref a1), .val (.int (0 : Int32))] [])) _
    exact X29.returnOut hx Bd.returns (hb hby own_d4_31) hr
  · show own_QW0 Z a0 a1 sa va k1 d1 k2 d2 h0 n0 _ T29.heap _
    rw [e29]
    exact ⟨rfl, N0, rfl⟩
theorem own_d4_11 : decode prog_17_method_2_code 11 = .ok (.aload_n 1, 1) := by decide +kernel
theorem own_d4_12 : decode prog_17_method_2_code 12 = .ok (.aload_n 0, 1) := by decide +kernel
theorem own_d4_13 : decode prog_17_method_2_code 13 = .ok (.getfield 7, 3) := by decide +kernel
theorem own_d4_16 : decode prog_17_method_2_code 16 = .ok (.iload_n 2, 1) := by decide +kernel
theorem own_d4_17 : decode prog_17_method_2_code 17 = .ok (.iaload, 1) := by decide +kernel
theorem own_d4_18 : decode prog_17_method_2_code 18 = .ok (.aload_n 0, 1) := by decide +kernel
theorem own_d4_19 : decode prog_17_method_2_code 19 = .ok (.getfield 13, 3) := by decide +kernel
theorem own_d4_22 : decode prog_17_method_2_code 22 = .ok (.iload_n 2, 1) := by decide +kernel
theorem own_d4_23 : decode prog_17_method_2_code 23 = .ok (.laload, 1) := by decide +kernel
theorem own_d4_24 : decode prog_17_method_2_code 24 = .ok (.lastore, 1) := by decide +kernel
theorem own_d4_25 : decode prog_17_method_2_code 25 = .ok (.iinc 2 1, 3) := by decide +kernel
theorem own_d4_28 : decode prog_17_method_2_code 28 = .ok (.goto (-26), 3) := by decide +kernel
theorem own_efW1 (m : MethodId) (a0 : Addr) (a1 : Addr) : entryFrame m #[(.ref a0), (.ref a1)] 3 = mkF m 0 #[.val (.ref a0), .val (.ref a1), .unset] [] := by first | (simp [entryFrame, mkF, argsToLocals, Value.category]; done) | rfl
def own_QW1 (Z : State) (a0 : Addr) (a1 : Addr) (sa : Addr) (va : Addr) (k1 : ClassId) (d1 : Value) (k2 : ClassId) (d2 : Value) (k3 : ClassId) (d3 : Value) (g : Nat → Int64) (s0 : Int32) (w0 : Int64) (h0 : Heap) (n0 : Nat) (v : Option Value) (h : Heap) (L : List Loc) : Prop := v = none ∧ Fr n0 L ∧ Keep h0 h [a1] ∧ (Arv Z h a1 k3 .long (4 : Int32) (own_L (own_upd g s0 w0)) d3)
set_option maxRecDepth 65536 in
set_option maxHeartbeats 40000000 in
theorem own_rmW1 (l : Launch) (Z : State) (av : Array Value) (hw : ∀ d ∈ tables_1, d.before av Z = true) (ws : List Jvm.Cond) (a0 : Addr) (a1 : Addr) (sa : Addr) (va : Addr) (k1 : ClassId) (d1 : Value) (k2 : ClassId) (d2 : Value) (k3 : ClassId) (d3 : Value) (g : Nat → Int64) (s0 : Int32) (w0 : Int64) (h0 : Heap) (n0 : Nat) (Z0 : n0 ≤ h0.size) (pr0 : Fld Z h0 a0 "com/example/thyme/thyme/engine/Hierarchy$Restart" "slots" "[I" (.ref sa)) (pr1 : Fld Z h0 a0 "com/example/thyme/thyme/engine/Hierarchy$Restart" "values" "[J" (.ref va)) (pr2 : Arv Z h0 sa k1 .int (1 : Int32) [(.int s0)] d1) (pr3 : Arv Z h0 va k2 .long (1 : Int32) [(.long w0)] d2) (pr4 : Arv Z h0 a1 k3 .long (4 : Int32) (own_L g) d3) (g_a1 : n0 ≤ a1) (ne_a0_a1 : a0 ≠ a1) (ne_sa_a1 : sa ≠ a1) (ne_va_a1 : va ≠ a1) (hs0 : ¬ s0 < 0 ∧ s0 < (4 : Int32)) :
    MetFree l (⟨"com/example/thyme/thyme/engine/Hierarchy$Restart", "write", "([J)V"⟩ : MethodName) (head1 (Jvm.Cond.code (⟨"com/example/thyme/thyme/engine/Hierarchy$Restart", "write", "([J)V"⟩ : MethodName) prog_17_method_2_code 3 none :: ws) ({ frames := 0, cells := 0, slots := 0, locals := 0 } : Room)) (fun a U => a = #[(.ref a0), (.ref a1)] ∧ Z.Warmed39 U.vm ∧ U.heap = h0) (fun _ _ _ _ _ => True) (fun _ U o U' => ∃ v L, o = .returned v ∧ own_QW1 Z a0 a1 sa va k1 d1 k2 d2 k3 d3 g s0 w0 h0 n0 v U'.heap L ∧ FrameEnd U o U' L ({ frames := 0, cells := 0, slots := 0, locals := 0 } : Room).cells ({ frames := 0, cells := 0, slots := 0, locals := 0 } : Room).slots) := by
  refine MetFree.of_bodySF (plainFor_of_name own_pn16) hisR ?_
  intro p e s m args below meth c s₁ Bd hml0 hP hK
  obtain ⟨rfl, hZ, hh⟩ := hP
  have hx := Bd.exec
  have hby := Bd.bytes
  have hml : c.maxLocals = 3 := hml0
  have hown : s.vm.findClass "com/example/thyme/thyme/engine/Hierarchy$Restart" = some m.cls := findClass_of_methodNamed Bd.named
  have hnm := (name_of_methodNamed Bd.named Bd.method).1
  have X0 : Stand p l e ({ frames := 0, cells := 0, slots := 0, locals := 0 } : Room) s m #[(.ref a0), (.ref a1)] below meth c s₁ [] 0 0 := Stand.of_body Bd
  have e0 : s₁.heap = h0 := by rw [← hh, Bd.state]; rfl
  have N0 := Fr.nil n0
  have pre0 : ∀ t, Steps p.tables e below (s₁.setTop (mkF m 0 #[.val (.ref a0), .val (.ref a1), .unset] [])) t → Steps p.tables e below (s₁.setTop (entryFrame m #[(.ref a0), (.ref a1)] 3)) t := fun t k => castTop (own_efW1 m a0 a1) k
  obtain ⟨T31, X31, e31, st31⟩ := getF X0 hx hZ hown (host := "") (Or.inl (hw _ (List.mem_of_getElem? (i := 17) rfl))) Via.refl e0 pr0 (g := (mkF m 4 #[.val (.ref a0), .val (.ref a1), .val (.int (0 : Int32))] [(.ref a0), (.int (0 : Int32))])) rfl rfl (hb hby own_d4_4)
  obtain ⟨cl32, Ar32, q32, S32, M32, H32, G32⟩ := id pr2
  obtain ⟨T33, X33, e33, st33⟩ := getF X31 hx hZ hown (host := "") (Or.inl (hw _ (List.mem_of_getElem? (i := 17) rfl))) Via.refl e31 pr0 (g := (mkF m 13 #[.val (.ref a0), .val (.ref a1), .val (.int (0 : Int32))] [(.ref a0), (.ref a1)])) rfl rfl (hb hby own_d4_13)
  obtain ⟨cl34, Ar34, q34, S34, M34, H34, G34⟩ := id pr2
  have hin34 : ¬ ((0 : Int32) < 0 ∨ cl34.slots.size ≤ ((0 : Int32)).toNatClampNeg) := inb_of S34 ⟨by decide, by decide⟩
  have hat34 : cl34.slots[((0 : Int32)).toNatClampNeg]? = some (.int s0) := H34.at hin34 rfl
  obtain ⟨T35, X35, e35, st35⟩ := getF X33 hx hZ hown (host := "") (Or.inl (hw _ (List.mem_of_getElem? (i := 19) rfl))) Via.refl e33 pr1 (g := (mkF m 19 #[.val (.ref a0), .val (.ref a1), .val (.int (0 : Int32))] [(.ref a0), (.int s0), (.ref a1)])) rfl rfl (hb hby own_d4_19)
  obtain ⟨cl36, Ar36, q36, S36, M36, H36, G36⟩ := id pr3
  have hin36 : ¬ ((0 : Int32) < 0 ∨ cl36.slots.size ≤ ((0 : Int32)).toNatClampNeg) := inb_of S36 ⟨by decide, by decide⟩
  have hat36 : cl36.slots[((0 : Int32)).toNatClampNeg]? = some (.long w0) := H36.at hin36 rfl
  obtain ⟨cl37, Ar37, q37, S37, M37, H37, G37⟩ := id pr4
  have hin37 : ¬ (s0 < 0 ∨ cl37.slots.size ≤ (s0).toNatClampNeg) := inb_of S37 hs0
  obtain ⟨T38, h38, X38, e38, W38, st38⟩ := stJ X35 hx hZ e35 Ar37 (j := s0) hin37 (g := (mkF m 24 #[.val (.ref a0), .val (.ref a1), .val (.int (0 : Int32))] [(.long w0), (.int s0), (.ref a1)])) rfl rfl (hb hby own_d4_24)
  have f39 := pr0.other W38 (Or.inl ne_a0_a1)
  have f40 := pr1.other W38 (Or.inl ne_a0_a1)
  have f41 := pr2.other W38 ne_sa_a1
  have f42 := pr3.other W38 ne_va_a1
  have K43 : Keep h0 h38 [a1] := (Keep.refl h0 [a1]).wr W38 (Or.inl (List.mem_of_getElem? (i := 0) rfl))
  have z44 : n0 ≤ h38.size := Nat.le_trans Z0 (Keep.of_wr W38).1
  have N45 := Fr.snoc X38 N0 g_a1
  have f46 : Arv Z h38 a1 k3 .long (4 : Int32) (own_L (own_upd g s0 w0)) d3 := by rw [← own_Lset g s0 w0 (own_lt4 hs0)]; exact Arv.set Ar37 q37 S37 M37 H37 G37 rfl W38 s0.toNatClampNeg rfl (own_lt4 hs0)
  obtain ⟨T47, X47, e47, st47⟩ := getF X38 hx hZ hown (host := "") (Or.inl (hw _ (List.mem_of_getElem? (i := 17) rfl))) Via.refl e38 f39 (g := (mkF m 4 #[.val (.ref a0), .val (.ref a1), .val (.int (1 : Int32))] [(.ref a0), (.int (1 : Int32))])) rfl rfl (hb hby own_d4_4)
  obtain ⟨cl48, Ar48, q48, S48, M48, H48, G48⟩ := id f41
  obtain ⟨fs, hr, hrun, hended, hW, hsame⟩ := X47.leave (v := none) (fun _ => rfl)
  refine ⟨_, _, pre0 _ ?_, hrun, hended, _, _, rfl, ?_, ⟨_, rfl⟩, hW, hsame.mono (by decide) (by decide)⟩
  · show Steps p.tables e below (s₁.setTop (mkF m 0 #[.val (.ref a0), .val (.ref a1), .unset] [])) _
    refine XS.iconst X0.here hx rfl (hb hby own_d4_0) ?_
    show Steps p.tables e below (s₁.setTop (mkF m 1 #[.val (.ref a0), .val (.ref a1), .unset] [(.int (0 : Int32))])) _
    refine XS.istoreN X0.here hx rfl (hb hby own_d4_1) rfl (l' := #[.val (.ref a0), .val (.ref a1), .val (.int (0 : Int32))]) rfl ?_
    show Steps p.tables e below (s₁.setTop (mkF m 2 #[.val (.ref a0), .val (.ref a1), .val (.int (0 : Int32))] [])) _
    refine XS.iloadN X0.here hx rfl (hb hby own_d4_2) rfl ?_
    show Steps p.tables e below (s₁.setTop (mkF m 3 #[.val (.ref a0), .val (.ref a1), .val (.int (0 : Int32))] [(.int (0 : Int32))])) _
    refine XS.aloadN X0.here hx rfl (hb hby own_d4_3) rfl rfl ?_
    show Steps p.tables e below (s₁.setTop (mkF m 4 #[.val (.ref a0), .val (.ref a1), .val (.int (0 : Int32))] [(.ref a0), (.int (0 : Int32))])) _
    refine st31 _ ?_
    show Steps p.tables e below (T31.setTop (mkF m 7 #[.val (.ref a0), .val (.ref a1), .val (.int (0 : Int32))] [(.ref sa), (.int (0 : Int32))])) _
    refine X31.arraylength hx (by rw [e31]; exact Ar32.1) (State.isArrayOf_alike hZ.alike Ar32.2.1) (g := (mkF m 7 #[.val (.ref a0), .val (.ref a1), .val (.int (0 : Int32))] [(.ref sa), (.int (0 : Int32))])) rfl rfl (hb hby own_d4_7) _ ?_
    rw [len_of S32 M32]
    show Steps p.tables e below (T31.setTop (mkF m 8 #[.val (.ref a0), .val (.ref a1), .val (.int (0 : Int32))] [(.int (1 : Int32)), (.int (0 : Int32))])) _
    refine XS.icmpNo X31.here hx rfl (hb hby own_d4_8) rfl (tlt (by decide : (0 : Int32) < (1 : Int32))).2.1 ?_
    show Steps p.tables e below (T31.setTop (mkF m 11 #[.val (.ref a0), .val (.ref a1), .val (.int (0 : Int32))] [])) _
    refine XS.aloadN X31.here hx rfl (hb hby own_d4_11) rfl rfl ?_
    show Steps p.tables e below (T31.setTop (mkF m 12 #[.val (.ref a0), .val (.ref a1), .val (.int (0 : Int32))] [(.ref a1)])) _
    refine XS.aloadN X31.here hx rfl (hb hby own_d4_12) rfl rfl ?_
    show Steps p.tables e below (T31.setTop (mkF m 13 #[.val (.ref a0), .val (.ref a1), .val (.int (0 : Int32))] [(.ref a0), (.ref a1)])) _
    refine st33 _ ?_
    show Steps p.tables e below (T33.setTop (mkF m 16 #[.val (.ref a0), .val (.ref a1), .val (.int (0 : Int32))] [(.ref sa), (.ref a1)])) _
    refine XS.iloadN X33.here hx rfl (hb hby own_d4_16) rfl ?_
    show Steps p.tables e below (T33.setTop (mkF m 17 #[.val (.ref a0), .val (.ref a1), .val (.int (0 : Int32))] [(.int (0 : Int32)), (.ref sa), (.ref a1)])) _
    refine X33.iaload hx (j := (0 : Int32)) (v := (.int s0)) (by rw [e33]; exact Ar34.1) (State.isArrayOf_alike hZ.alike Ar34.2.1) Ar34.2.2 hin34 hat34 (g := (mkF m 17 #[.val (.ref a0), .val (.ref a1), .val (.int (0 : Int32))] [(.int (0 : Int32)), (.ref sa), (.ref a1)])) rfl rfl (hb hby own_d4_17) _ ?_
    show Steps p.tables e below (T33.setTop (mkF m 18 #[.val (.ref a0), .val (.ref a1), .val (.int (0 : Int32))] [(.int s0), (.ref a1)])) _
    refine XS.aloadN X33.here hx rfl (hb hby own_d4_18) rfl rfl ?_
    show Steps p.tables e below (T33.setTop (mkF m 19 #[.val (.ref a0), .val (.ref a1), .val (.int (0 : Int32))] [(.ref a0), (.int s0), (.ref a1)])) _
    refine st35 _ ?_
    show Steps p.tables e below (T35.setTop (mkF m 22 #[.val (.ref a0), .val (.ref a1), .val (.int (0 : Int32))] [(.ref va), (.int s0), (.ref a1)])) _
    refine XS.iloadN X35.here hx rfl (hb hby own_d4_22) rfl ?_
    show Steps p.tables e below (T35.setTop (mkF m 23 #[.val (.ref a0), .val (.ref a1), .val (.int (0 : Int32))] [(.int (0 : Int32)), (.ref va), (.int s0), (.ref a1)])) _
    refine X35.laload hx (j := (0 : Int32)) (v := (.long w0)) (by rw [e35]; exact Ar36.1) (State.isArrayOf_alike hZ.alike Ar36.2.1) Ar36.2.2 hin36 hat36 (g := (mkF m 23 #[.val (.ref a0), .val (.ref a1), .val (.int (0 : Int32))] [(.int (0 : Int32)), (.ref va), (.int s0), (.ref a1)])) rfl rfl (hb hby own_d4_23) _ ?_
    show Steps p.tables e below (T35.setTop (mkF m 24 #[.val (.ref a0), .val (.ref a1), .val (.int (0 : Int32))] [(.long w0), (.int s0), (.ref a1)])) _
    refine st38 _ ?_
    show Steps p.tables e below (T38.setTop (mkF m 25 #[.val (.ref a0), .val (.ref a1), .val (.int (0 : Int32))] [])) _
    refine XS.iinc X38.here hx rfl (hb hby own_d4_25) rfl (l' := #[.val (.ref a0), .val (.ref a1), .val (.int ((0 : Int32) + (1 : Int32)))]) rfl ?_
    show Steps p.tables e below (T38.setTop (mkF m 28 #[.val (.ref a0), .val (.ref a1), .val (.int ((0 : Int32) + (1 : Int32)))] [])) _
    refine castTop (congrArg (fun z : Int32 => mkF m 28 #[.val (.ref a0), .val (.ref a1), .val (.int z)] []) (by decide : ((0 : Int32) + (1 : Int32)) = (1 : Int32))) ?_
    show Steps p.tables e below (T38.setTop (mkF m 28 #[.val (.ref a0), .val (.ref a1), .val (.int (1 : Int32))] [])) _
    refine XS.goto X38.here hx rfl (pc0 := 28) (pc' := 2) rfl (hb hby own_d4_28) (by decide) (by decide) ?_
    show Steps p.tables e below (T38.setTop (mkF m 2 #[.val (.ref a0), .val (.ref a1), .val (.int (1 : Int32))] [])) _
    refine XS.iloadN X38.here hx rfl (hb hby own_d4_2) rfl ?_
    show Steps p.tables e below (T38.setTop (mkF m 3 #[.val (.ref a0), .val (.ref a1), .val (.int (1 : Int32))] [(.int (1 : Int32))])) _
    refine XS.aloadN X38.here hx rfl (hb hby own_d4_3) rfl rfl ?_
    show Steps p.tables e below (T38.setTop (mkF m 4 #[.val (.ref a0), .val (.ref a1), .val (.int (1 : Int32))] [(.ref a0), (.int (1 : Int32))])) _
    refine st47 _ ?_
    show Steps p.tables e below (T47.setTop (mkF m 7 #[.val (.ref a0), .val (.ref a1), .val (.int (1 : Int32))] [(.ref sa), (.int (1 : Int32))])) _
    refine X47.arraylength hx (by rw [e47]; exact Ar48.1) (State.isArrayOf_alike hZ.alike Ar48.2.1) (g := (mkF m 7 #[.val (.ref a0), .val (.ref a1), .val (.int (1 : Int32))] [(.ref sa), (.int (1 : Int32))])) rfl rfl (hb hby own_d4_7) _ ?_
    rw [len_of S48 M48]
    show Steps p.tables e below (T47.setTop (mkF m 8 #[.val (.ref a0), .val (.ref a1), .val (.int (1 : Int32))] [(.int (1 : Int32)), (.int (1 : Int32))])) _
    refine XS.icmpYes X47.here hx rfl (pc0 := 8) (pc' := 31) rfl (hb hby own_d4_8) rfl (flt (by decide : ¬ ((1 : Int32) < (1 : Int32)))).2.1 (by decide) (by decide) ?_
    show Steps p.tables e below (T47.setTop (mkF m 31 #[.val (.ref a0), .val (.ref a1), .val (.int (1 : Int32))] [])) _
    exact X47.returnOut hx Bd.returns (hb hby own_d4_31) hr
  · show own_QW1 Z a0 a1 sa va k1 d1 k2 d2 k3 d3 g s0 w0 h0 n0 _ T47.heap _
    rw [e47]
    exact ⟨rfl, N45, K43, f46⟩
theorem own_efW2 (m : MethodId) (a0 : Addr) (a1 : Addr) : entryFrame m #[(.ref a0), (.ref a1)] 3 = mkF m 0 #[.val (.ref a0), .val (.ref a1), .unset] [] := by first | (simp [entryFrame, mkF, argsToLocals, Value.category]; done) | rfl
def own_QW2 (Z : State) (a0 : Addr) (a1 : Addr) (sa : Addr) (va : Addr) (k1 : ClassId) (d1 : Value) (k2 : ClassId) (d2 : Value) (k3 : ClassId) (d3 : Value) (g : Nat → Int64) (s0 : Int32) (s1 : Int32) (w0 : Int64) (w1 : Int64) (h0 : Heap) (n0 : Nat) (v : Option Value) (h : Heap) (L : List Loc) : Prop := v = none ∧ Fr n0 L ∧ Keep h0 h [a1] ∧ (Arv Z h a1 k3 .long (4 : Int32) (own_L (own_upd (own_upd g s0 w0) s1 w1)) d3)
set_option maxRecDepth 65536 in
set_option maxHeartbeats 40000000 in
theorem own_rmW2 (l : Launch) (Z : State) (av : Array Value) (hw : ∀ d ∈ tables_1, d.before av Z = true) (ws : List Jvm.Cond) (a0 : Addr) (a1 : Addr) (sa : Addr) (va : Addr) (k1 : ClassId) (d1 : Value) (k2 : ClassId) (d2 : Value) (k3 : ClassId) (d3 : Value) (g : Nat → Int64) (s0 : Int32) (s1 : Int32) (w0 : Int64) (w1 : Int64) (h0 : Heap) (n0 : Nat) (Z0 : n0 ≤ h0.size) (pr0 : Fld Z h0 a0 "com/example/thyme/thyme/engine/Hierarchy$Restart" "slots" "[I" (.ref sa)) (pr1 : Fld Z h0 a0 "com/example/thyme/thyme/engine/Hierarchy$Restart" "values" "[J" (.ref va)) (pr2 : Arv Z h0 sa k1 .int (2 : Int32) [(.int s0), (.int s1)] d1) (pr3 : Arv Z h0 va k2 .long (2 : Int32) [(.long w0), (.long w1)] d2) (pr4 : Arv Z h0 a1 k3 .long (4 : Int32) (own_L g) d3) (g_a1 : n0 ≤ a1) (ne_a0_a1 : a0 ≠ a1) (ne_sa_a1 : sa ≠ a1) (ne_va_a1 : va ≠ a1) (hs0 : ¬ s0 < 0 ∧ s0 < (4 : Int32)) (hs1 : ¬ s1 < 0 ∧ s1 < (4 : Int32)) :
    MetFree l (⟨"com/example/thyme/thyme/engine/Hierarchy$Restart", "write", "([J)V"⟩ : MethodName) (head1 (Jvm.Cond.code (⟨"com/example/thyme/thyme/engine/Hierarchy$Restart", "write", "([J)V"⟩ : MethodName) prog_17_method_2_code 3 none :: ws) ({ frames := 0, cells := 0, slots := 0, locals := 0 } : Room)) (fun a U => a = #[(.ref a0), (.ref a1)] ∧ Z.Warmed39 U.vm ∧ U.heap = h0) (fun _ _ _ _ _ => True) (fun _ U o U' => ∃ v L, o = .returned v ∧ own_QW2 Z a0 a1 sa va k1 d1 k2 d2 k3 d3 g s0 s1 w0 w1 h0 n0 v U'.heap L ∧ FrameEnd U o U' L ({ frames := 0, cells := 0, slots := 0, locals := 0 } : Room).cells ({ frames := 0, cells := 0, slots := 0, locals := 0 } : Room).slots) := by
  refine MetFree.of_bodySF (plainFor_of_name own_pn16) hisR ?_
  intro p e s m args below meth c s₁ Bd hml0 hP hK
  obtain ⟨rfl, hZ, hh⟩ := hP
  have hx := Bd.exec
  have hby := Bd.bytes
  have hml : c.maxLocals = 3 := hml0
  have hown : s.vm.findClass "com/example/thyme/thyme/engine/Hierarchy$Restart" = some m.cls := findClass_of_methodNamed Bd.named
  have hnm := (name_of_methodNamed Bd.named Bd.method).1
  have X0 : Stand p l e ({ frames := 0, cells := 0, slots := 0, locals := 0 } : Room) s m #[(.ref a0), (.ref a1)] below meth c s₁ [] 0 0 := Stand.of_body Bd
  have e0 : s₁.heap = h0 := by rw [← hh, Bd.state]; rfl
  have N0 := Fr.nil n0
  have pre0 : ∀ t, Steps p.tables e below (s₁.setTop (mkF m 0 #[.val (.ref a0), .val (.ref a1), .unset] [])) t → Steps p.tables e below (s₁.setTop (entryFrame m #[(.ref a0), (.ref a1)] 3)) t := fun t k => castTop (own_efW2 m a0 a1) k
  obtain ⟨T49, X49, e49, st49⟩ := getF X0 hx hZ hown (host := "") (Or.inl (hw _ (List.mem_of_getElem? (i := 17) rfl))) Via.refl e0 pr0 (g := (mkF m 4 #[.val (.ref a0), .val (.ref a1), .val (.int (0 : Int32))] [(.ref a0), (.int (0 : Int32))])) rfl rfl (hb hby own_d4_4)
  obtain ⟨cl50, Ar50, q50, S50, M50, H50, G50⟩ := id pr2
  obtain ⟨T51, X51, e51, st51⟩ := getF X49 hx hZ hown (host := "") (Or.inl (hw _ (List.mem_of_getElem? (i := 17) rfl))) Via.refl e49 pr0 (g := (mkF m 13 #[.val (.ref a0), .val (.ref a1), .val (.int (0 : Int32))] [(.ref a0), (.ref a1)])) rfl rfl (hb hby own_d4_13)
  obtain ⟨cl52, Ar52, q52, S52, M52, H52, G52⟩ := id pr2
  have hin52 : ¬ ((0 : Int32) < 0 ∨ cl52.slots.size ≤ ((0 : Int32)).toNatClampNeg) := inb_of S52 ⟨by decide, by decide⟩
  have hat52 : cl52.slots[((0 : Int32)).toNatClampNeg]? = some (.int s0) := H52.at hin52 rfl
  obtain ⟨T53, X53, e53, st53⟩ := getF X51 hx hZ hown (host := "") (Or.inl (hw _ (List.mem_of_getElem? (i := 19) rfl))) Via.refl e51 pr1 (g := (mkF m 19 #[.val (.ref a0), .val (.ref a1), .val (.int (0 : Int32))] [(.ref a0), (.int s0), (.ref a1)])) rfl rfl (hb hby own_d4_19)
  obtain ⟨cl54, Ar54, q54, S54, M54, H54, G54⟩ := id pr3
  have hin54 : ¬ ((0 : Int32) < 0 ∨ cl54.slots.size ≤ ((0 : Int32)).toNatClampNeg) := inb_of S54 ⟨by decide, by decide⟩
  have hat54 : cl54.slots[((0 : Int32)).toNatClampNeg]? = some (.long w0) := H54.at hin54 rfl
  obtain ⟨cl55, Ar55, q55, S55, M55, H55, G55⟩ := id pr4
  have hin55 : ¬ (s0 < 0 ∨ cl55.slots.size ≤ (s0).toNatClampNeg) := inb_of S55 hs0
  obtain ⟨T56, h56, X56, e56, W56, st56⟩ := stJ X53 hx hZ e53 Ar55 (j := s0) hin55 (g := (mkF m 24 #[.val (.ref a0), .val (.ref a1), .val (.int (0 : Int32))] [(.long w0), (.int s0), (.ref a1)])) rfl rfl (hb hby own_d4_24)
  have f57 := pr0.other W56 (Or.inl ne_a0_a1)
  have f58 := pr1.other W56 (Or.inl ne_a0_a1)
  have f59 := pr2.other W56 ne_sa_a1
  have f60 := pr3.other W56 ne_va_a1
  have K61 : Keep h0 h56 [a1] := (Keep.refl h0 [a1]).wr W56 (Or.inl (List.mem_of_getElem? (i := 0) rfl))
  have z62 : n0 ≤ h56.size := Nat.le_trans Z0 (Keep.of_wr W56).1
  have N63 := Fr.snoc X56 N0 g_a1
  have f64 : Arv Z h56 a1 k3 .long (4 : Int32) (own_L (own_upd g s0 w0)) d3 := by rw [← own_Lset g s0 w0 (own_lt4 hs0)]; exact Arv.set Ar55 q55 S55 M55 H55 G55 rfl W56 s0.toNatClampNeg rfl (own_lt4 hs0)
  obtain ⟨T65, X65, e65, st65⟩ := getF X56 hx hZ hown (host := "") (Or.inl (hw _ (List.mem_of_getElem? (i := 17) rfl))) Via.refl e56 f57 (g := (mkF m 4 #[.val (.ref a0), .val (.ref a1), .val (.int (1 : Int32))] [(.ref a0), (.int (1 : Int32))])) rfl rfl (hb hby own_d4_4)
  obtain ⟨cl66, Ar66, q66, S66, M66, H66, G66⟩ := id f59
  obtain ⟨T67, X67, e67, st67⟩ := getF X65 hx hZ hown (host := "") (Or.inl (hw _ (List.mem_of_getElem? (i := 17) rfl))) Via.refl e65 f57 (g := (mkF m 13 #[.val (.ref a0), .val (.ref a1), .val (.int (1 : Int32))] [(.ref a0), (.ref a1)])) rfl rfl (hb hby own_d4_13)
  obtain ⟨cl68, Ar68, q68, S68, M68, H68, G68⟩ := id f59
  have hin68 : ¬ ((1 : Int32) < 0 ∨ cl68.slots.size ≤ ((1 : Int32)).toNatClampNeg) := inb_of S68 ⟨by decide, by decide⟩
  have hat68 : cl68.slots[((1 : Int32)).toNatClampNeg]? = some (.int s1) := H68.at hin68 rfl
  obtain ⟨T69, X69, e69, st69⟩ := getF X67 hx hZ hown (host := "") (Or.inl (hw _ (List.mem_of_getElem? (i := 19) rfl))) Via.refl e67 f58 (g := (mkF m 19 #[.val (.ref a0), .val (.ref a1), .val (.int (1 : Int32))] [(.ref a0), (.int s1), (.ref a1)])) rfl rfl (hb hby own_d4_19)
  obtain ⟨cl70, Ar70, q70, S70, M70, H70, G70⟩ := id f60
  have hin70 : ¬ ((1 : Int32) < 0 ∨ cl70.slots.size ≤ ((1 : Int32)).toNatClampNeg) := inb_of S70 ⟨by decide, by decide⟩
  have hat70 : cl70.slots[((1 : Int32)).toNatClampNeg]? = some (.long w1) := H70.at hin70 rfl
  obtain ⟨cl71, Ar71, q71, S71, M71, H71, G71⟩ := id f64
  have hin71 : ¬ (s1 < 0 ∨ cl71.slots.size ≤ (s1).toNatClampNeg) := inb_of S71 hs1
  obtain ⟨T72, h72, X72, e72, W72, st72⟩ := stJ X69 hx hZ e69 Ar71 (j := s1) hin71 (g := (mkF m 24 #[.val (.ref a0), .val (.ref a1), .val (.int (1 : Int32))] [(.long w1), (.int s1), (.ref a1)])) rfl rfl (hb hby own_d4_24)
  have f73 := f57.other W72 (Or.inl ne_a0_a1)
  have f74 := f58.other W72 (Or.inl ne_a0_a1)
  have f75 := f59.other W72 ne_sa_a1
  have f76 := f60.other W72 ne_va_a1
  have K77 : Keep h0 h72 [a1] := K61.wr W72 (Or.inl (List.mem_of_getElem? (i := 0) rfl))
  have z78 : n0 ≤ h72.size := Nat.le_trans z62 (Keep.of_wr W72).1
  have N79 := Fr.snoc X72 N63 g_a1
  have f80 : Arv Z h72 a1 k3 .long (4 : Int32) (own_L (own_upd (own_upd g s0 w0) s1 w1)) d3 := by rw [← own_Lset (own_upd g s0 w0) s1 w1 (own_lt4 hs1)]; exact Arv.set Ar71 q71 S71 M71 H71 G71 rfl W72 s1.toNatClampNeg rfl (own_lt4 hs1)
  obtain ⟨T81, X81, e81, st81⟩ := getF X72 hx hZ hown (host := "") (Or.inl (hw _ (List.mem_of_getElem? (i := 17) rfl))) Via.refl e72 f73 (g := (mkF m 4 #[.val (.ref a0), .val (.ref a1), .val (.int (2 : Int32))] [(.ref a0), (.int (2 : Int32))])) rfl rfl (hb hby own_d4_4)
  obtain ⟨cl82, Ar82, q82, S82, M82, H82, G82⟩ := id f75
  obtain ⟨fs, hr, hrun, hended, hW, hsame⟩ := X81.leave (v := none) (fun _ => rfl)
  refine ⟨_, _, pre0 _ ?_, hrun, hended, _, _, rfl, ?_, ⟨_, rfl⟩, hW, hsame.mono (by decide) (by decide)⟩
  · show Steps p.tables e below (s₁.setTop (mkF m 0 #[.val (.ref a0), .val (.ref a1), .unset] [])) _
    refine XS.iconst X0.here hx rfl (hb hby own_d4_0) ?_
    show Steps p.tables e below (s₁.setTop (mkF m 1 #[.val (.ref a0), .val (.ref a1), .unset] [(.int (0 : Int32))])) _
    refine XS.istoreN X0.here hx rfl (hb hby own_d4_1) rfl (l' := #[.val (.ref a0), .val (.ref a1), .val (.int (0 : Int32))]) rfl ?_
    show Steps p.tables e below (s₁.setTop (mkF m 2 #[.val (.ref a0), .val (.ref a1), .val (.int (0 : Int32))] [])) _
    refine XS.iloadN X0.here hx rfl (hb hby own_d4_2) rfl ?_
    show Steps p.tables e below (s₁.setTop (mkF m 3 #[.val (.ref a0), .val (.ref a1), .val (.int (0 : Int32))] [(.int (0 : Int32))])) _
    refine XS.aloadN X0.here hx rfl (hb hby own_d4_3) rfl rfl ?_
    show Steps p.tables e below (s₁.setTop (mkF m 4 #[.val (.ref a0), .val (.ref a1), .val (.int (0 : Int32))] [(.ref a0), (.int (0 : Int32))])) _
    refine st49 _ ?_
    show Steps p.tables e below (T49.setTop (mkF m 7 #[.val (.ref a0), .val (.ref a1), .val (.int (0 : Int32))] [(.ref sa), (.int (0 : Int32))])) _
    refine X49.arraylength hx (by rw [e49]; exact Ar50.1) (State.isArrayOf_alike hZ.alike Ar50.2.1) (g := (mkF m 7 #[.val (.ref a0), .val (.ref a1), .val (.int (0 : Int32))] [(.ref sa), (.int (0 : Int32))])) rfl rfl (hb hby own_d4_7) _ ?_
    rw [len_of S50 M50]
    show Steps p.tables e below (T49.setTop (mkF m 8 #[.val (.ref a0), .val (.ref a1), .val (.int (0 : Int32))] [(.int (2 : Int32)), (.int (0 : Int32))])) _
    refine XS.icmpNo X49.here hx rfl (hb hby own_d4_8) rfl (tlt (by decide : (0 : Int32) < (2 : Int32))).2.1 ?_
    show Steps p.tables e below (T49.setTop (mkF m 11 #[.val (.ref a0), .val (.ref a1), .val (.int (0 : Int32))] [])) _
    refine XS.aloadN X49.here hx rfl (hb hby own_d4_11) rfl rfl ?_
    show Steps p.tables e below (T49.setTop (mkF m 12 #[.val (.ref a0), .val (.ref a1), .val (.int (0 : Int32))] [(.ref a1)])) _
    refine XS.aloadN X49.here hx rfl (hb hby own_d4_12) rfl rfl ?_
    show Steps p.tables e below (T49.setTop (mkF m 13 #[.val (.ref a0), .val (.ref a1), .val (.int (0 : Int32))] [(.ref a0), (.ref a1)])) _
    refine st51 _ ?_
    show Steps p.tables e below (T51.setTop (mkF m 16 #[.val (.ref a0), .val (.ref a1), .val (.int (0 : Int32))] [(.ref sa), (.ref a1)])) _
    refine XS.iloadN X51.here hx rfl (hb hby own_d4_16) rfl ?_
    show Steps p.tables e below (T51.setTop (mkF m 17 #[.val (.ref a0), .val (.ref a1), .val (.int (0 : Int32))] [(.int (0 : Int32)), (.ref sa), (.ref a1)])) _
    refine X51.iaload hx (j := (0 : Int32)) (v := (.int s0)) (by rw [e51]; exact Ar52.1) (State.isArrayOf_alike hZ.alike Ar52.2.1) Ar52.2.2 hin52 hat52 (g := (mkF m 17 #[.val (.ref a0), .val (.ref a1), .val (.int (0 : Int32))] [(.int (0 : Int32)), (.ref sa), (.ref a1)])) rfl rfl (hb hby own_d4_17) _ ?_
    show Steps p.tables e below (T51.setTop (mkF m 18 #[.val (.ref a0), .val (.ref a1), .val (.int (0 : Int32))] [(.int s0), (.ref a1)])) _
    refine XS.aloadN X51.here hx rfl (hb hby own_d4_18) rfl rfl ?_
    show Steps p.tables e below (T51.setTop (mkF m 19 #[.val (.ref a0), .val (.ref a1), .val (.int (0 : Int32))] [(.ref a0), (.int s0), (.ref a1)])) _
    refine st53 _ ?_
    show Steps p.tables e below (T53.setTop (mkF m 22 #[.val (.ref a0), .val (.ref a1), .val (.int (0 : Int32))] [(.ref va), (.int s0), (.ref a1)])) _
    refine XS.iloadN X53.here hx rfl (hb hby own_d4_22) rfl ?_
    show Steps p.tables e below (T53.setTop (mkF m 23 #[.val (.ref a0), .val (.ref a1), .val (.int (0 : Int32))] [(.int (0 : Int32)), (.ref va), (.int s0), (.ref a1)])) _
    refine X53.laload hx (j := (0 : Int32)) (v := (.long w0)) (by rw [e53]; exact Ar54.1) (State.isArrayOf_alike hZ.alike Ar54.2.1) Ar54.2.2 hin54 hat54 (g := (mkF m 23 #[.val (.ref a0), .val (.ref a1), .val (.int (0 : Int32))] [(.int (0 : Int32)), (.ref va), (.int s0), (.ref a1)])) rfl rfl (hb hby own_d4_23) _ ?_
    show Steps p.tables e below (T53.setTop (mkF m 24 #[.val (.ref a0), .val (.ref a1), .val (.int (0 : Int32))] [(.long w0), (.int s0), (.ref a1)])) _
    refine st56 _ ?_
    show Steps p.tables e below (T56.setTop (mkF m 25 #[.val (.ref a0), .val (.ref a1), .val (.int (0 : Int32))] [])) _
    refine XS.iinc X56.here hx rfl (hb hby own_d4_25) rfl (l' := #[.val (.ref a0), .val (.ref a1), .val (.int ((0 : Int32) + (1 : Int32)))]) rfl ?_
    show Steps p.tables e below (T56.setTop (mkF m 28 #[.val (.ref a0), .val (.ref a1), .val (.int ((0 : Int32) + (1 : Int32)))] [])) _
    refine castTop (congrArg (fun z : Int32 => mkF m 28 #[.val (.ref a0), .val (.ref a1), .val (.int z)] []) (by decide : ((0 : Int32) + (1 : Int32)) = (1 : Int32))) ?_
    show Steps p.tables e below (T56.setTop (mkF m 28 #[.val (.ref a0), .val (.ref a1), .val (.int (1 : Int32))] [])) _
    refine XS.goto X56.here hx rfl (pc0 := 28) (pc' := 2) rfl (hb hby own_d4_28) (by decide) (by decide) ?_
    show Steps p.tables e below (T56.setTop (mkF m 2 #[.val (.ref a0), .val (.ref a1), .val (.int (1 : Int32))] [])) _
    refine XS.iloadN X56.here hx rfl (hb hby own_d4_2) rfl ?_
    show Steps p.tables e below (T56.setTop (mkF m 3 #[.val (.ref a0), .val (.ref a1), .val (.int (1 : Int32))] [(.int (1 : Int32))])) _
    refine XS.aloadN X56.here hx rfl (hb hby own_d4_3) rfl rfl ?_
    show Steps p.tables e below (T56.setTop (mkF m 4 #[.val (.ref a0), .val (.ref a1), .val (.int (1 : Int32))] [(.ref a0), (.int (1 : Int32))])) _
    refine st65 _ ?_
    show Steps p.tables e below (T65.setTop (mkF m 7 #[.val (.ref a0), .val (.ref a1), .val (.int (1 : Int32))] [(.ref sa), (.int (1 : Int32))])) _
    refine X65.arraylength hx (by rw [e65]; exact Ar66.1) (State.isArrayOf_alike hZ.alike Ar66.2.1) (g := (mkF m 7 #[.val (.ref a0), .val (.ref a1), .val (.int (1 : Int32))] [(.ref sa), (.int (1 : Int32))])) rfl rfl (hb hby own_d4_7) _ ?_
    rw [len_of S66 M66]
    show Steps p.tables e below (T65.setTop (mkF m 8 #[.val (.ref a0), .val (.ref a1), .val (.int (1 : Int32))] [(.int (2 : Int32)), (.int (1 : Int32))])) _
    refine XS.icmpNo X65.here hx rfl (hb hby own_d4_8) rfl (tlt (by decide : (1 : Int32) < (2 : Int32))).2.1 ?_
    show Steps p.tables e below (T65.setTop (mkF m 11 #[.val (.ref a0), .val (.ref a1), .val (.int (1 : Int32))] [])) _
    refine XS.aloadN X65.here hx rfl (hb hby own_d4_11) rfl rfl ?_
    show Steps p.tables e below (T65.setTop (mkF m 12 #[.val (.ref a0), .val (.ref a1), .val (.int (1 : Int32))] [(.ref a1)])) _
    refine XS.aloadN X65.here hx rfl (hb hby own_d4_12) rfl rfl ?_
    show Steps p.tables e below (T65.setTop (mkF m 13 #[.val (.ref a0), .val (.ref a1), .val (.int (1 : Int32))] [(.ref a0), (.ref a1)])) _
    refine st67 _ ?_
    show Steps p.tables e below (T67.setTop (mkF m 16 #[.val (.ref a0), .val (.ref a1), .val (.int (1 : Int32))] [(.ref sa), (.ref a1)])) _
    refine XS.iloadN X67.here hx rfl (hb hby own_d4_16) rfl ?_
    show Steps p.tables e below (T67.setTop (mkF m 17 #[.val (.ref a0), .val (.ref a1), .val (.int (1 : Int32))] [(.int (1 : Int32)), (.ref sa), (.ref a1)])) _
    refine X67.iaload hx (j := (1 : Int32)) (v := (.int s1)) (by rw [e67]; exact Ar68.1) (State.isArrayOf_alike hZ.alike Ar68.2.1) Ar68.2.2 hin68 hat68 (g := (mkF m 17 #[.val (.ref a0), .val (.ref a1), .val (.int (1 : Int32))] [(.int (1 : Int32)), (.ref sa), (.ref a1)])) rfl rfl (hb hby own_d4_17) _ ?_
    show Steps p.tables e below (T67.setTop (mkF m 18 #[.val (.ref a0), .val (.ref a1), .val (.int (1 : Int32))] [(.int s1), (.ref a1)])) _
    refine XS.aloadN X67.here hx rfl (hb hby own_d4_18) rfl rfl ?_
    show Steps p.tables e below (T67.setTop (mkF m 19 #[.val (.ref a0), .val (.ref a1), .val (.int (1 : Int32))] [(.ref a0), (.int s1), (.ref a1)])) _
    refine st69 _ ?_
    show Steps p.tables e below (T69.setTop (mkF m 22 #[.val (.ref a0), .val (.ref a1), .val (.int (1 : Int32))] [(.ref va), (.int s1), (.ref a1)])) _
    refine XS.iloadN X69.here hx rfl (hb hby own_d4_22) rfl ?_
    show Steps p.tables e below (T69.setTop (mkF m 23 #[.val (.ref a0), .val (.ref a1), .val (.int (1 : Int32))] [(.int (1 : Int32)), (.ref va), (.int s1), (.ref a1)])) _
    refine X69.laload hx (j := (1 : Int32)) (v := (.long w1)) (by rw [e69]; exact Ar70.1) (State.isArrayOf_alike hZ.alike Ar70.2.1) Ar70.2.2 hin70 hat70 (g := (mkF m 23 #[.val (.ref a0), .val (.ref a1), .val (.int (1 : Int32))] [(.int (1 : Int32)), (.ref va), (.int s1), (.ref a1)])) rfl rfl (hb hby own_d4_23) _ ?_
    show Steps p.tables e below (T69.setTop (mkF m 24 #[.val (.ref a0), .val (.ref a1), .val (.int (1 : Int32))] [(.long w1), (.int s1), (.ref a1)])) _
    refine st72 _ ?_
    show Steps p.tables e below (T72.setTop (mkF m 25 #[.val (.ref a0), .val (.ref a1), .val (.int (1 : Int32))] [])) _
    refine XS.iinc X72.here hx rfl (hb hby own_d4_25) rfl (l' := #[.val (.ref a0), .val (.ref a1), .val (.int ((1 : Int32) + (1 : Int32)))]) rfl ?_
    show Steps p.tables e below (T72.setTop (mkF m 28 #[.val (.ref a0), .val (.ref a1), .val (.int ((1 : Int32) + (1 : Int32)))] [])) _
    refine castTop (congrArg (fun z : Int32 => mkF m 28 #[.val (.ref a0), .val (.ref a1), .val (.int z)] []) (by decide : ((1 : Int32) + (1 : Int32)) = (2 : Int32))) ?_
    show Steps p.tables e below (T72.setTop (mkF m 28 #[.val (.ref a0), .val (.ref a1), .val (.int (2 : Int32))] [])) _
    refine XS.goto X72.here hx rfl (pc0 := 28) (pc' := 2) rfl (hb hby own_d4_28) (by decide) (by decide) ?_
    show Steps p.tables e below (T72.setTop (mkF m 2 #[.val (.ref a0), .val (.ref a1), .val (.int (2 : Int32))] [])) _
    refine XS.iloadN X72.here hx rfl (hb hby own_d4_2) rfl ?_
    show Steps p.tables e below (T72.setTop (mkF m 3 #[.val (.ref a0), .val (.ref a1), .val (.int (2 : Int32))] [(.int (2 : Int32))])) _
    refine XS.aloadN X72.here hx rfl (hb hby own_d4_3) rfl rfl ?_
    show Steps p.tables e below (T72.setTop (mkF m 4 #[.val (.ref a0), .val (.ref a1), .val (.int (2 : Int32))] [(.ref a0), (.int (2 : Int32))])) _
    refine st81 _ ?_
    show Steps p.tables e below (T81.setTop (mkF m 7 #[.val (.ref a0), .val (.ref a1), .val (.int (2 : Int32))] [(.ref sa), (.int (2 : Int32))])) _
    refine X81.arraylength hx (by rw [e81]; exact Ar82.1) (State.isArrayOf_alike hZ.alike Ar82.2.1) (g := (mkF m 7 #[.val (.ref a0), .val (.ref a1), .val (.int (2 : Int32))] [(.ref sa), (.int (2 : Int32))])) rfl rfl (hb hby own_d4_7) _ ?_
    rw [len_of S82 M82]
    show Steps p.tables e below (T81.setTop (mkF m 8 #[.val (.ref a0), .val (.ref a1), .val (.int (2 : Int32))] [(.int (2 : Int32)), (.int (2 : Int32))])) _
    refine XS.icmpYes X81.here hx rfl (pc0 := 8) (pc' := 31) rfl (hb hby own_d4_8) rfl (flt (by decide : ¬ ((2 : Int32) < (2 : Int32)))).2.1 (by decide) (by decide) ?_
    show Steps p.tables e below (T81.setTop (mkF m 31 #[.val (.ref a0), .val (.ref a1), .val (.int (2 : Int32))] [])) _
    exact X81.returnOut hx Bd.returns (hb hby own_d4_31) hr
  · show own_QW2 Z a0 a1 sa va k1 d1 k2 d2 k3 d3 g s0 s1 w0 w1 h0 n0 _ T81.heap _
    rw [e81]
    exact ⟨rfl, N79, K77, f80⟩
theorem own_efW3 (m : MethodId) (a0 : Addr) (a1 : Addr) : entryFrame m #[(.ref a0), (.ref a1)] 3 = mkF m 0 #[.val (.ref a0), .val (.ref a1), .unset] [] := by first | (simp [entryFrame, mkF, argsToLocals, Value.category]; done) | rfl
def own_QW3 (Z : State) (a0 : Addr) (a1 : Addr) (sa : Addr) (va : Addr) (k1 : ClassId) (d1 : Value) (k2 : ClassId) (d2 : Value) (k3 : ClassId) (d3 : Value) (g : Nat → Int64) (s0 : Int32) (s1 : Int32) (s2 : Int32) (w0 : Int64) (w1 : Int64) (w2 : Int64) (h0 : Heap) (n0 : Nat) (v : Option Value) (h : Heap) (L : List Loc) : Prop := v = none ∧ Fr n0 L ∧ Keep h0 h [a1] ∧ (Arv Z h a1 k3 .long (4 : Int32) (own_L (own_upd (own_upd (own_upd g s0 w0) s1 w1) s2 w2)) d3)
set_option maxRecDepth 65536 in
set_option maxHeartbeats 40000000 in
theorem own_rmW3 (l : Launch) (Z : State) (av : Array Value) (hw : ∀ d ∈ tables_1, d.before av Z = true) (ws : List Jvm.Cond) (a0 : Addr) (a1 : Addr) (sa : Addr) (va : Addr) (k1 : ClassId) (d1 : Value) (k2 : ClassId) (d2 : Value) (k3 : ClassId) (d3 : Value) (g : Nat → Int64) (s0 : Int32) (s1 : Int32) (s2 : Int32) (w0 : Int64) (w1 : Int64) (w2 : Int64) (h0 : Heap) (n0 : Nat) (Z0 : n0 ≤ h0.size) (pr0 : Fld Z h0 a0 "com/example/thyme/thyme/engine/Hierarchy$Restart" "slots" "[I" (.ref sa)) (pr1 : Fld Z h0 a0 "com/example/thyme/thyme/engine/Hierarchy$Restart" "values" "[J" (.ref va)) (pr2 : Arv Z h0 sa k1 .int (3 : Int32) [(.int s0), (.int s1), (.int s2)] d1) (pr3 : Arv Z h0 va k2 .long (3 : Int32) [(.long w0), (.long w1), (.long w2)] d2) (pr4 : Arv Z h0 a1 k3 .long (4 : Int32) (own_L g) d3) (g_a1 : n0 ≤ a1) (ne_a0_a1 : a0 ≠ a1) (ne_sa_a1 : sa ≠ a1) (ne_va_a1 : va ≠ a1) (hs0 : ¬ s0 < 0 ∧ s0 < (4 : Int32)) (hs1 : ¬ s1 < 0 ∧ s1 < (4 : Int32)) (hs2 : ¬ s2 < 0 ∧ s2 < (4 : Int32)) :
    MetFree l (⟨"com/example/thyme/thyme/engine/Hierarchy$Restart", "write", "([J)V"⟩ : MethodName) (head1 (Jvm.Cond.code (⟨"com/example/thyme/thyme/engine/Hierarchy$Restart", "write", "([J)V"⟩ : MethodName) prog_17_method_2_code 3 none :: ws) ({ frames := 0, cells := 0, slots := 0, locals := 0 } : Room)) (fun a U => a = #[(.ref a0), (.ref a1)] ∧ Z.Warmed39 U.vm ∧ U.heap = h0) (fun _ _ _ _ _ => True) (fun _ U o U' => ∃ v L, o = .returned v ∧ own_QW3 Z a0 a1 sa va k1 d1 k2 d2 k3 d3 g s0 s1 s2 w0 w1 w2 h0 n0 v U'.heap L ∧ FrameEnd U o U' L ({ frames := 0, cells := 0, slots := 0, locals := 0 } : Room).cells ({ frames := 0, cells := 0, slots := 0, locals := 0 } : Room).slots) := by
  refine MetFree.of_bodySF (plainFor_of_name own_pn16) hisR ?_
  intro p e s m args below meth c s₁ Bd hml0 hP hK
  obtain ⟨rfl, hZ, hh⟩ := hP
  have hx := Bd.exec
  have hby := Bd.bytes
  have hml : c.maxLocals = 3 := hml0
  have hown : s.vm.findClass "com/example/thyme/thyme/engine/Hierarchy$Restart" = some m.cls := findClass_of_methodNamed Bd.named
  have hnm := (name_of_methodNamed Bd.named Bd.method).1
  have X0 : Stand p l e ({ frames := 0, cells := 0, slots := 0, locals := 0 } : Room) s m #[(.ref a0), (.ref a1)] below meth c s₁ [] 0 0 := Stand.of_body Bd
  have e0 : s₁.heap = h0 := by rw [← hh, Bd.state]; rfl
  have N0 := Fr.nil n0
  have pre0 : ∀ t, Steps p.tables e below (s₁.setTop (mkF m 0 #[.val (.ref a0), .val (.ref a1), .unset] [])) t → Steps p.tables e below (s₁.setTop (entryFrame m #[(.ref a0), (.ref a1)] 3)) t := fun t k => castTop (own_efW3 m a0 a1) k
  obtain ⟨T83, X83, e83, st83⟩ := getF X0 hx hZ hown (host := "") (Or.inl (hw _ (List.mem_of_getElem? (i := 17) rfl))) Via.refl e0 pr0 (g := (mkF m 4 #[.val (.ref a0), .val (.ref a1), .val (.int (0 : Int32))] [(.ref a0), (.int (0 : Int32))])) rfl rfl (hb hby own_d4_4)
  obtain ⟨cl84, Ar84, q84, S84, M84, H84, G84⟩ := id pr2
  obtain ⟨T85, X85, e85, st85⟩ := getF X83 hx hZ hown (host := "") (Or.inl (hw _ (List.mem_of_getElem? (i := 17) rfl))) Via.refl e83 pr0 (g := (mkF m 13 #[.val (.ref a0), .val (.ref a1), .val (.int (0 : Int32))] [(.ref a0), (.ref a1)])) rfl rfl (hb hby own_d4_13)
  obtain ⟨cl86, Ar86, q86, S86, M86, H86, G86⟩ := id pr2
  have hin86 : ¬ ((0 : Int32) < 0 ∨ cl86.slots.size ≤ ((0 : Int32)).toNatClampNeg) := inb_of S86 ⟨by decide, by decide⟩
  have hat86 : cl86.slots[((0 : Int32)).toNatClampNeg]? = some (.int s0) := H86.at hin86 rfl
  obtain ⟨T87, X87, e87, st87⟩ := getF X85 hx hZ hown (host := "") (Or.inl (hw _ (List.mem_of_getElem? (i := 19) rfl))) Via.refl e85 pr1 (g := (mkF m 19 #[.val (.ref a0), .val (.ref a1), .val (.int (0 : Int32))] [(.ref a0), (.int s0), (.ref a1)])) rfl rfl (hb hby own_d4_19)
  obtain ⟨cl88, Ar88, q88, S88, M88, H88, G88⟩ := id pr3
  have hin88 : ¬ ((0 : Int32) < 0 ∨ cl88.slots.size ≤ ((0 : Int32)).toNatClampNeg) := inb_of S88 ⟨by decide, by decide⟩
  have hat88 : cl88.slots[((0 : Int32)).toNatClampNeg]? = some (.long w0) := H88.at hin88 rfl
  obtain ⟨cl89, Ar89, q89, S89, M89, H89, G89⟩ := id pr4
  have hin89 : ¬ (s0 < 0 ∨ cl89.slots.size ≤ (s0).toNatClampNeg) := inb_of S89 hs0
  obtain ⟨T90, h90, X90, e90, W90, st90⟩ := stJ X87 hx hZ e87 Ar89 (j := s0) hin89 (g := (mkF m 24 #[.val (.ref a0), .val (.ref a1), .val (.int (0 : Int32))] [(.long w0), (.int s0), (.ref a1)])) rfl rfl (hb hby own_d4_24)
  have f91 := pr0.other W90 (Or.inl ne_a0_a1)
  have f92 := pr1.other W90 (Or.inl ne_a0_a1)
  have f93 := pr2.other W90 ne_sa_a1
  have f94 := pr3.other W90 ne_va_a1
  have K95 : Keep h0 h90 [a1] := (Keep.refl h0 [a1]).wr W90 (Or.inl (List.mem_of_getElem? (i := 0) rfl))
  have z96 : n0 ≤ h90.size := Nat.le_trans Z0 (Keep.of_wr W90).1
  have N97 := Fr.snoc X90 N0 g_a1
  have f98 : Arv Z h90 a1 k3 .long (4 : Int32) (own_L (own_upd g s0 w0)) d3 := by rw [← own_Lset g s0 w0 (own_lt4 hs0)]; exact Arv.set Ar89 q89 S89 M89 H89 G89 rfl W90 s0.toNatClampNeg rfl (own_lt4 hs0)
  obtain ⟨T99, X99, e99, st99⟩ := getF X90 hx hZ hown (host := "") (Or.inl (hw _ (List.mem_of_getElem? (i := 17) rfl))) Via.refl e90 f91 (g := (mkF m 4 #[.val (.ref a0), .val (.ref a1), .val (.int (1 : Int32))] [(.ref a0), (.int (1 : Int32))])) rfl rfl (hb hby own_d4_4)
  obtain ⟨cl100, Ar100, q100, S100, M100, H100, G100⟩ := id f93
  obtain ⟨T101, X101, e101, st101⟩ := getF X99 hx hZ hown (host := "") (Or.inl (hw _ (List.mem_of_getElem? (i := 17) rfl))) Via.refl e99 f91 (g := (mkF m 13 #[.val (.ref a0), .val (.ref a1), .val (.int (1 : Int32))] [(.ref a0), (.ref a1)])) rfl rfl (hb hby own_d4_13)
  obtain ⟨cl102, Ar102, q102, S102, M102, H102, G102⟩ := id f93
  have hin102 : ¬ ((1 : Int32) < 0 ∨ cl102.slots.size ≤ ((1 : Int32)).toNatClampNeg) := inb_of S102 ⟨by decide, by decide⟩
  have hat102 : cl102.slots[((1 : Int32)).toNatClampNeg]? = some (.int s1) := H102.at hin102 rfl
  obtain ⟨T103, X103, e103, st103⟩ := getF X101 hx hZ hown (host := "") (Or.inl (hw _ (List.mem_of_getElem? (i := 19) rfl))) Via.refl e101 f92 (g := (mkF m 19 #[.val (.ref a0), .val (.ref a1), .val (.int (1 : Int32))] [(.ref a0), (.int s1), (.ref a1)])) rfl rfl (hb hby own_d4_19)
  obtain ⟨cl104, Ar104, q104, S104, M104, H104, G104⟩ := id f94
  have hin104 : ¬ ((1 : Int32) < 0 ∨ cl104.slots.size ≤ ((1 : Int32)).toNatClampNeg) := inb_of S104 ⟨by decide, by decide⟩
  have hat104 : cl104.slots[((1 : Int32)).toNatClampNeg]? = some (.long w1) := H104.at hin104 rfl
  obtain ⟨cl105, Ar105, q105, S105, M105, H105, G105⟩ := id f98
  have hin105 : ¬ (s1 < 0 ∨ cl105.slots.size ≤ (s1).toNatClampNeg) := inb_of S105 hs1
  obtain ⟨T106, h106, X106, e106, W106, st106⟩ := stJ X103 hx hZ e103 Ar105 (j := s1) hin105 (g := (mkF m 24 #[.val (.ref a0), .val (.ref a1), .val (.int (1 : Int32))] [(.long w1), (.int s1), (.ref a1)])) rfl rfl (hb hby own_d4_24)
  have f107 := f91.other W106 (Or.inl ne_a0_a1)
  have f108 := f92.other W106 (Or.inl ne_a0_a1)
  have f109 := f93.other W106 ne_sa_a1
  have f110 := f94.other W106 ne_va_a1
  have K111 : Keep h0 h106 [a1] := K95.wr W106 (Or.inl (List.mem_of_getElem? (i := 0) rfl))
  have z112 : n0 ≤ h106.size := Nat.le_trans z96 (Keep.of_wr W106).1
  have N113 := Fr.snoc X106 N97 g_a1
  have f114 : Arv Z h106 a1 k3 .long (4 : Int32) (own_L (own_upd (own_upd g s0 w0) s1 w1)) d3 := by rw [← own_Lset (own_upd g s0 w0) s1 w1 (own_lt4 hs1)]; exact Arv.set Ar105 q105 S105 M105 H105 G105 rfl W106 s1.toNatClampNeg rfl (own_lt4 hs1)
  obtain ⟨T115, X115, e115, st115⟩ := getF X106 hx hZ hown (host := "") (Or.inl (hw _ (List.mem_of_getElem? (i := 17) rfl))) Via.refl e106 f107 (g := (mkF m 4 #[.val (.ref a0), .val (.ref a1), .val (.int (2 : Int32))] [(.ref a0), (.int (2 : Int32))])) rfl rfl (hb hby own_d4_4)
  obtain ⟨cl116, Ar116, q116, S116, M116, H116, G116⟩ := id f109
  obtain ⟨T117, X117, e117, st117⟩ := getF X115 hx hZ hown (host := "") (Or.inl (hw _ (List.mem_of_getElem? (i := 17) rfl))) Via.refl e115 f107 (g := (mkF m 13 #[.val (.ref a0), .val (.ref a1), .val (.int (2 : Int32))] [(.ref a0), (.ref a1)])) rfl rfl (hb hby own_d4_13)
  obtain ⟨cl118, Ar118, q118, S118, M118, H118, G118⟩ := id f109
  have hin118 : ¬ ((2 : Int32) < 0 ∨ cl118.slots.size ≤ ((2 : Int32)).toNatClampNeg) := inb_of S118 ⟨by decide, by decide⟩
  have hat118 : cl118.slots[((2 : Int32)).toNatClampNeg]? = some (.int s2) := H118.at hin118 rfl
  obtain ⟨T119, X119, e119, st119⟩ := getF X117 hx hZ hown (host := "") (Or.inl (hw _ (List.mem_of_getElem? (i := 19) rfl))) Via.refl e117 f108 (g := (mkF m 19 #[.val (.ref a0), .val (.ref a1), .val (.int (2 : Int32))] [(.ref a0), (.int s2), (.ref a1)])) rfl rfl (hb hby own_d4_19)
  obtain ⟨cl120, Ar120, q120, S120, M120, H120, G120⟩ := id f110
  have hin120 : ¬ ((2 : Int32) < 0 ∨ cl120.slots.size ≤ ((2 : Int32)).toNatClampNeg) := inb_of S120 ⟨by decide, by decide⟩
  have hat120 : cl120.slots[((2 : Int32)).toNatClampNeg]? = some (.long w2) := H120.at hin120 rfl
  obtain ⟨cl121, Ar121, q121, S121, M121, H121, G121⟩ := id f114
  have hin121 : ¬ (s2 < 0 ∨ cl121.slots.size ≤ (s2).toNatClampNeg) := inb_of S121 hs2
  obtain ⟨T122, h122, X122, e122, W122, st122⟩ := stJ X119 hx hZ e119 Ar121 (j := s2) hin121 (g := (mkF m 24 #[.val (.ref a0), .val (.ref a1), .val (.int (2 : Int32))] [(.long w2), (.int s2), (.ref a1)])) rfl rfl (hb hby own_d4_24)
  have f123 := f107.other W122 (Or.inl ne_a0_a1)
  have f124 := f108.other W122 (Or.inl ne_a0_a1)
  have f125 := f109.other W122 ne_sa_a1
  have f126 := f110.other W122 ne_va_a1
  have K127 : Keep h0 h122 [a1] := K111.wr W122 (Or.inl (List.mem_of_getElem? (i := 0) rfl))
  have z128 : n0 ≤ h122.size := Nat.le_trans z112 (Keep.of_wr W122).1
  have N129 := Fr.snoc X122 N113 g_a1
  have f130 : Arv Z h122 a1 k3 .long (4 : Int32) (own_L (own_upd (own_upd (own_upd g s0 w0) s1 w1) s2 w2)) d3 := by rw [← own_Lset (own_upd (own_upd g s0 w0) s1 w1) s2 w2 (own_lt4 hs2)]; exact Arv.set Ar121 q121 S121 M121 H121 G121 rfl W122 s2.toNatClampNeg rfl (own_lt4 hs2)
  obtain ⟨T131, X131, e131, st131⟩ := getF X122 hx hZ hown (host := "") (Or.inl (hw _ (List.mem_of_getElem? (i := 17) rfl))) Via.refl e122 f123 (g := (mkF m 4 #[.val (.ref a0), .val (.ref a1), .val (.int (3 : Int32))] [(.ref a0), (.int (3 : Int32))])) rfl rfl (hb hby own_d4_4)
  obtain ⟨cl132, Ar132, q132, S132, M132, H132, G132⟩ := id f125
  obtain ⟨fs, hr, hrun, hended, hW, hsame⟩ := X131.leave (v := none) (fun _ => rfl)
  refine ⟨_, _, pre0 _ ?_, hrun, hended, _, _, rfl, ?_, ⟨_, rfl⟩, hW, hsame.mono (by decide) (by decide)⟩
  · show Steps p.tables e below (s₁.setTop (mkF m 0 #[.val (.ref a0), .val (.ref a1), .unset] [])) _
    refine XS.iconst X0.here hx rfl (hb hby own_d4_0) ?_
    show Steps p.tables e below (s₁.setTop (mkF m 1 #[.val (.ref a0), .val (.ref a1), .unset] [(.int (0 : Int32))])) _
    refine XS.istoreN X0.here hx rfl (hb hby own_d4_1) rfl (l' := #[.val (.ref a0), .val (.ref a1), .val (.int (0 : Int32))]) rfl ?_
    show Steps p.tables e below (s₁.setTop (mkF m 2 #[.val (.ref a0), .val (.ref a1), .val (.int (0 : Int32))] [])) _
    refine XS.iloadN X0.here hx rfl (hb hby own_d4_2) rfl ?_
    show Steps p.tables e below (s₁.setTop (mkF m 3 #[.val (.ref a0), .val (.ref a1), .val (.int (0 : Int32))] [(.int (0 : Int32))])) _
    refine XS.aloadN X0.here hx rfl (hb hby own_d4_3) rfl rfl ?_
    show Steps p.tables e below (s₁.setTop (mkF m 4 #[.val (.ref a0), .val (.ref a1), .val (.int (0 : Int32))] [(.ref a0), (.int (0 : Int32))])) _
    refine st83 _ ?_
    show Steps p.tables e below (T83.setTop (mkF m 7 #[.val (.ref a0), .val (.ref a1), .val (.int (0 : Int32))] [(.ref sa), (.int (0 : Int32))])) _
    refine X83.arraylength hx (by rw [e83]; exact Ar84.1) (State.isArrayOf_alike hZ.alike Ar84.2.1) (g := (mkF m 7 #[.val (.ref a0), .val (.ref a1), .val (.int (0 : Int32))] [(.ref sa), (.int (0 : Int32))])) rfl rfl (hb hby own_d4_7) _ ?_
    rw [len_of S84 M84]
    show Steps p.tables e below (T83.setTop (mkF m 8 #[.val (.ref a0), .val (.ref a1), .val (.int (0 : Int32))] [(.int (3 : Int32)), (.int (0 : Int32))])) _
    refine XS.icmpNo X83.here hx rfl (hb hby own_d4_8) rfl (tlt (by decide : (0 : Int32) < (3 : Int32))).2.1 ?_
    show Steps p.tables e below (T83.setTop (mkF m 11 #[.val (.ref a0), .val (.ref a1), .val (.int (0 : Int32))] [])) _
    refine XS.aloadN X83.here hx rfl (hb hby own_d4_11) rfl rfl ?_
    show Steps p.tables e below (T83.setTop (mkF m 12 #[.val (.ref a0), .val (.ref a1), .val (.int (0 : Int32))] [(.ref a1)])) _
    refine XS.aloadN X83.here hx rfl (hb hby own_d4_12) rfl rfl ?_
    show Steps p.tables e below (T83.setTop (mkF m 13 #[.val (.ref a0), .val (.ref a1), .val (.int (0 : Int32))] [(.ref a0), (.ref a1)])) _
    refine st85 _ ?_
    show Steps p.tables e below (T85.setTop (mkF m 16 #[.val (.ref a0), .val (.ref a1), .val (.int (0 : Int32))] [(.ref sa), (.ref a1)])) _
    refine XS.iloadN X85.here hx rfl (hb hby own_d4_16) rfl ?_
    show Steps p.tables e below (T85.setTop (mkF m 17 #[.val (.ref a0), .val (.ref a1), .val (.int (0 : Int32))] [(.int (0 : Int32)), (.ref sa), (.ref a1)])) _
    refine X85.iaload hx (j := (0 : Int32)) (v := (.int s0)) (by rw [e85]; exact Ar86.1) (State.isArrayOf_alike hZ.alike Ar86.2.1) Ar86.2.2 hin86 hat86 (g := (mkF m 17 #[.val (.ref a0), .val (.ref a1), .val (.int (0 : Int32))] [(.int (0 : Int32)), (.ref sa), (.ref a1)])) rfl rfl (hb hby own_d4_17) _ ?_
    show Steps p.tables e below (T85.setTop (mkF m 18 #[.val (.ref a0), .val (.ref a1), .val (.int (0 : Int32))] [(.int s0), (.ref a1)])) _
    refine XS.aloadN X85.here hx rfl (hb hby own_d4_18) rfl rfl ?_
    show Steps p.tables e below (T85.setTop (mkF m 19 #[.val (.ref a0), .val (.ref a1), .val (.int (0 : Int32))] [(.ref a0), (.int s0), (.ref a1)])) _
    refine st87 _ ?_
    show Steps p.tables e below (T87.setTop (mkF m 22 #[.val (.ref a0), .val (.ref a1), .val (.int (0 : Int32))] [(.ref va), (.int s0), (.ref a1)])) _
    refine XS.iloadN X87.here hx rfl (hb hby own_d4_22) rfl ?_
    show Steps p.tables e below (T87.setTop (mkF m 23 #[.val (.ref a0), .val (.ref a1), .val (.int (0 : Int32))] [(.int (0 : Int32)), (.ref va), (.int s0), (.ref a1)])) _
    refine X87.laload hx (j := (0 : Int32)) (v := (.long w0)) (by rw [e87]; exact Ar88.1) (State.isArrayOf_alike hZ.alike Ar88.2.1) Ar88.2.2 hin88 hat88 (g := (mkF m 23 #[.val (.ref a0), .val (.ref a1), .val (.int (0 : Int32))] [(.int (0 : Int32)), (.ref va), (.int s0), (.ref a1)])) rfl rfl (hb hby own_d4_23) _ ?_
    show Steps p.tables e below (T87.setTop (mkF m 24 #[.val (.ref a0), .val (.ref a1), .val (.int (0 : Int32))] [(.long w0), (.int s0), (.ref a1)])) _
    refine st90 _ ?_
    show Steps p.tables e below (T90.setTop (mkF m 25 #[.val (.ref a0), .val (.ref a1), .val (.int (0 : Int32))] [])) _
    refine XS.iinc X90.here hx rfl (hb hby own_d4_25) rfl (l' := #[.val (.ref a0), .val (.ref a1), .val (.int ((0 : Int32) + (1 : Int32)))]) rfl ?_
    show Steps p.tables e below (T90.setTop (mkF m 28 #[.val (.ref a0), .val (.ref a1), .val (.int ((0 : Int32) + (1 : Int32)))] [])) _
    refine castTop (congrArg (fun z : Int32 => mkF m 28 #[.val (.ref a0), .val (.ref a1), .val (.int z)] []) (by decide : ((0 : Int32) + (1 : Int32)) = (1 : Int32))) ?_
    show Steps p.tables e below (T90.setTop (mkF m 28 #[.val (.ref a0), .val (.ref a1), .val (.int (1 : Int32))] [])) _
    refine XS.goto X90.here hx rfl (pc0 := 28) (pc' := 2) rfl (hb hby own_d4_28) (by decide) (by decide) ?_
    show Steps p.tables e below (T90.setTop (mkF m 2 #[.val (.ref a0), .val (.ref a1), .val (.int (1 : Int32))] [])) _
    refine XS.iloadN X90.here hx rfl (hb hby own_d4_2) rfl ?_
    show Steps p.tables e below (T90.setTop (mkF m 3 #[.val (.ref a0), .val (.ref a1), .val (.int (1 : Int32))] [(.int (1 : Int32))])) _
    refine XS.aloadN X90.here hx rfl (hb hby own_d4_3) rfl rfl ?_
    show Steps p.tables e below (T90.setTop (mkF m 4 #[.val (.ref a0), .val (.ref a1), .val (.int (1 : Int32))] [(.ref a0), (.int (1 : Int32))])) _
    refine st99 _ ?_
    show Steps p.tables e below (T99.setTop (mkF m 7 #[.val (.ref a0), .val (.ref a1), .val (.int (1 : Int32))] [(.ref sa), (.int (1 : Int32))])) _
    refine X99.arraylength hx (by rw [e99]; exact Ar100.1) (State.isArrayOf_alike hZ.alike Ar100.2.1) (g := (mkF m 7 #[.val (.ref a0), .val (.ref a1), .val (.int (1 : Int32))] [(.ref sa), (.int (1 : Int32))])) rfl rfl (hb hby own_d4_7) _ ?_
    rw [len_of S100 M100]
    show Steps p.tables e below (T99.setTop (mkF m 8 #[.val (.ref a0), .val (.ref a1), .val (.int (1 : Int32))] [(.int (3 : Int32)), (.int (1 : Int32))])) _
    refine XS.icmpNo X99.here hx rfl (hb hby own_d4_8) rfl (tlt (by decide : (1 : Int32) < (3 : Int32))).2.1 ?_
    show Steps p.tables e below (T99.setTop (mkF m 11 #[.val (.ref a0), .val (.ref a1), .val (.int (1 : Int32))] [])) _
    refine XS.aloadN X99.here hx rfl (hb hby own_d4_11) rfl rfl ?_
    show Steps p.tables e below (T99.setTop (mkF m 12 #[.val (.ref a0), .val (.ref a1), .val (.int (1 : Int32))] [(.ref a1)])) _
    refine XS.aloadN X99.here hx rfl (hb hby own_d4_12) rfl rfl ?_
    show Steps p.tables e below (T99.setTop (mkF m 13 #[.val (.ref a0), .val (.ref a1), .val (.int (1 : Int32))] [(.ref a0), (.ref a1)])) _
    refine st101 _ ?_
    show Steps p.tables e below (T101.setTop (mkF m 16 #[.val (.ref a0), .val (.ref a1), .val (.int (1 : Int32))] [(.ref sa), (.ref a1)])) _
    refine XS.iloadN X101.here hx rfl (hb hby own_d4_16) rfl ?_
    show Steps p.tables e below (T101.setTop (mkF m 17 #[.val (.ref a0), .val (.ref a1), .val (.int (1 : Int32))] [(.int (1 : Int32)), (.ref sa), (.ref a1)])) _
    refine X101.iaload hx (j := (1 : Int32)) (v := (.int s1)) (by rw [e101]; exact Ar102.1) (State.isArrayOf_alike hZ.alike Ar102.2.1) Ar102.2.2 hin102 hat102 (g := (mkF m 17 #[.val (.ref a0), .val (.ref a1), .val (.int (1 : Int32))] [(.int (1 : Int32)), (.ref sa), (.ref a1)])) rfl rfl (hb hby own_d4_17) _ ?_
    show Steps p.tables e below (T101.setTop (mkF m 18 #[.val (.ref a0), .val (.ref a1), .val (.int (1 : Int32))] [(.int s1), (.ref a1)])) _
    refine XS.aloadN X101.here hx rfl (hb hby own_d4_18) rfl rfl ?_
    show Steps p.tables e below (T101.setTop (mkF m 19 #[.val (.ref a0), .val (.ref a1), .val (.int (1 : Int32))] [(.ref a0), (.int s1), (.ref a1)])) _
    refine st103 _ ?_
    show Steps p.tables e below (T103.setTop (mkF m 22 #[.val (.ref a0), .val (.ref a1), .val (.int (1 : Int32))] [(.ref va), (.int s1), (.ref a1)])) _
    refine XS.iloadN X103.here hx rfl (hb hby own_d4_22) rfl ?_
    show Steps p.tables e below (T103.setTop (mkF m 23 #[.val (.ref a0), .val (.ref a1), .val (.int (1 : Int32))] [(.int (1 : Int32)), (.ref va), (.int s1), (.ref a1)])) _
    refine X103.laload hx (j := (1 : Int32)) (v := (.long w1)) (by rw [e103]; exact Ar104.1) (State.isArrayOf_alike hZ.alike Ar104.2.1) Ar104.2.2 hin104 hat104 (g := (mkF m 23 #[.val (.ref a0), .val (.ref a1), .val (.int (1 : Int32))] [(.int (1 : Int32)), (.ref va), (.int s1), (.ref a1)])) rfl rfl (hb hby own_d4_23) _ ?_
    show Steps p.tables e below (T103.setTop (mkF m 24 #[.val (.ref a0), .val (.ref a1), .val (.int (1 : Int32))] [(.long w1), (.int s1), (.ref a1)])) _
    refine st106 _ ?_
    show Steps p.tables e below (T106.setTop (mkF m 25 #[.val (.ref a0), .val (.ref a1), .val (.int (1 : Int32))] [])) _
    refine XS.iinc X106.here hx rfl (hb hby own_d4_25) rfl (l' := #[.val (.ref a0), .val (.ref a1), .val (.int ((1 : Int32) + (1 : Int32)))]) rfl ?_
    show Steps p.tables e below (T106.setTop (mkF m 28 #[.val (.ref a0), .val (.ref a1), .val (.int ((1 : Int32) + (1 : Int32)))] [])) _
    refine castTop (congrArg (fun z : Int32 => mkF m 28 #[.val (.ref a0), .val (.ref a1), .val (.int z)] []) (by decide : ((1 : Int32) + (1 : Int32)) = (2 : Int32))) ?_
    show Steps p.tables e below (T106.setTop (mkF m 28 #[.val (.ref a0), .val (.ref a1), .val (.int (2 : Int32))] [])) _
    refine XS.goto X106.here hx rfl (pc0 := 28) (pc' := 2) rfl (hb hby own_d4_28) (by decide) (by decide) ?_
    show Steps p.tables e below (T106.setTop (mkF m 2 #[.val (.ref a0), .val (.ref a1), .val (.int (2 : Int32))] [])) _
    refine XS.iloadN X106.here hx rfl (hb hby own_d4_2) rfl ?_
    show Steps p.tables e below (T106.setTop (mkF m 3 #[.val (.ref a0), .val (.ref a1), .val (.int (2 : Int32))] [(.int (2 : Int32))])) _
    refine XS.aloadN X106.here hx rfl (hb hby own_d4_3) rfl rfl ?_
    show Steps p.tables e below (T106.setTop (mkF m 4 #[.val (.ref a0), .val (.ref a1), .val (.int (2 : Int32))] [(.ref a0), (.int (2 : Int32))])) _
    refine st115 _ ?_
    show Steps p.tables e below (T115.setTop (mkF m 7 #[.val (.ref a0), .val (.ref a1), .val (.int (2 : Int32))] [(.ref sa), (.int (2 : Int32))])) _
    refine X115.arraylength hx (by rw [e115]; exact Ar116.1) (State.isArrayOf_alike hZ.alike Ar116.2.1) (g := (mkF m 7 #[.val (.ref a0), .val (.ref a1), .val (.int (2 : Int32))] [(.ref sa), (.int (2 : Int32))])) rfl rfl (hb hby own_d4_7) _ ?_
    rw [len_of S116 M116]
    show Steps p.tables e below (T115.setTop (mkF m 8 #[.val (.ref a0), .val (.ref a1), .val (.int (2 : Int32))] [(.int (3 : Int32)), (.int (2 : Int32))])) _
    refine XS.icmpNo X115.here hx rfl (hb hby own_d4_8) rfl (tlt (by decide : (2 : Int32) < (3 : Int32))).2.1 ?_
    show Steps p.tables e below (T115.setTop (mkF m 11 #[.val (.ref a0), .val (.ref a1), .val (.int (2 : Int32))] [])) _
    refine XS.aloadN X115.here hx rfl (hb hby own_d4_11) rfl rfl ?_
    show Steps p.tables e below (T115.setTop (mkF m 12 #[.val (.ref a0), .val (.ref a1), .val (.int (2 : Int32))] [(.ref a1)])) _
    refine XS.aloadN X115.here hx rfl (hb hby own_d4_12) rfl rfl ?_
    show Steps p.tables e below (T115.setTop (mkF m 13 #[.val (.ref a0), .val (.ref a1), .val (.int (2 : Int32))] [(.ref a0), (.ref a1)])) _
    refine st117 _ ?_
    show Steps p.tables e below (T117.setTop (mkF m 16 #[.val (.ref a0), .val (.ref a1), .val (.int (2 : Int32))] [(.ref sa), (.ref a1)])) _
    refine XS.iloadN X117.here hx rfl (hb hby own_d4_16) rfl ?_
    show Steps p.tables e below (T117.setTop (mkF m 17 #[.val (.ref a0), .val (.ref a1), .val (.int (2 : Int32))] [(.int (2 : Int32)), (.ref sa), (.ref a1)])) _
    refine X117.iaload hx (j := (2 : Int32)) (v := (.int s2)) (by rw [e117]; exact Ar118.1) (State.isArrayOf_alike hZ.alike Ar118.2.1) Ar118.2.2 hin118 hat118 (g := (mkF m 17 #[.val (.ref a0), .val (.ref a1), .val (.int (2 : Int32))] [(.int (2 : Int32)), (.ref sa), (.ref a1)])) rfl rfl (hb hby own_d4_17) _ ?_
    show Steps p.tables e below (T117.setTop (mkF m 18 #[.val (.ref a0), .val (.ref a1), .val (.int (2 : Int32))] [(.int s2), (.ref a1)])) _
    refine XS.aloadN X117.here hx rfl (hb hby own_d4_18) rfl rfl ?_
    show Steps p.tables e below (T117.setTop (mkF m 19 #[.val (.ref a0), .val (.ref a1), .val (.int (2 : Int32))] [(.ref a0), (.int s2), (.ref a1)])) _
    refine st119 _ ?_
    show Steps p.tables e below (T119.setTop (mkF m 22 #[.val (.ref a0), .val (.ref a1), .val (.int (2 : Int32))] [(.ref va), (.int s2), (.ref a1)])) _
    refine XS.iloadN X119.here hx rfl (hb hby own_d4_22) rfl ?_
    show Steps p.tables e below (T119.setTop (mkF m 23 #[.val (.ref a0), .val (.ref a1), .val (.int (2 : Int32))] [(.int (2 : Int32)), (.ref va), (.int s2), (.ref a1)])) _
    refine X119.laload hx (j := (2 : Int32)) (v := (.long w2)) (by rw [e119]; exact Ar120.1) (State.isArrayOf_alike hZ.alike Ar120.2.1) Ar120.2.2 hin120 hat120 (g := (mkF m 23 #[.val (.ref a0), .val (.ref a1), .val (.int (2 : Int32))] [(.int (2 : Int32)), (.ref va), (.int s2), (.ref a1)])) rfl rfl (hb hby own_d4_23) _ ?_
    show Steps p.tables e below (T119.setTop (mkF m 24 #[.val (.ref a0), .val (.ref a1), .val (.int (2 : Int32))] [(.long w2), (.int s2), (.ref a1)])) _
    refine st122 _ ?_
    show Steps p.tables e below (T122.setTop (mkF m 25 #[.val (.ref a0), .val (.ref a1), .val (.int (2 : Int32))] [])) _
    refine XS.iinc X122.here hx rfl (hb hby own_d4_25) rfl (l' := #[.val (.ref a0), .val (.ref a1), .val (.int ((2 : Int32) + (1 : Int32)))]) rfl ?_
    show Steps p.tables e below (T122.setTop (mkF m 28 #[.val (.ref a0), .val (.ref a1), .val (.int ((2 : Int32) + (1 : Int32)))] [])) _
    refine castTop (congrArg (fun z : Int32 => mkF m 28 #[.val (.ref a0), .val (.ref a1), .val (.int z)] []) (by decide : ((2 : Int32) + (1 : Int32)) = (3 : Int32))) ?_
    show Steps p.tables e below (T122.setTop (mkF m 28 #[.val (.ref a0), .val (.ref a1), .val (.int (3 : Int32))] [])) _
    refine XS.goto X122.here hx rfl (pc0 := 28) (pc' := 2) rfl (hb hby own_d4_28) (by decide) (by decide) ?_
    show Steps p.tables e below (T122.setTop (mkF m 2 #[.val (.ref a0), .val (.ref a1), .val (.int (3 : Int32))] [])) _
    refine XS.iloadN X122.here hx rfl (hb hby own_d4_2) rfl ?_
    show Steps p.tables e below (T122.setTop (mkF m 3 #[.val (.ref a0), .val (.ref a1), .val (.int (3 : Int32))] [(.int (3 : Int32))])) _
    refine XS.aloadN X122.here hx rfl (hb hby own_d4_3) rfl rfl ?_
    show Steps p.tables e below (T122.setTop (mkF m 4 #[.val (.ref a0), .val (.ref a1), .val (.int (3 : Int32))] [(.ref a0), (.int (3 : Int32))])) _
    refine st131 _ ?_
    show Steps p.tables e below (T131.setTop (mkF m 7 #[.val (.ref a0), .val (.ref a1), .val (.int (3 : Int32))] [(.ref sa), (.int (3 : Int32))])) _
    refine X131.arraylength hx (by rw [e131]; exact Ar132.1) (State.isArrayOf_alike hZ.alike Ar132.2.1) (g := (mkF m 7 #[.val (.ref a0), .val (.ref a1), .val (.int (3 : Int32))] [(.ref sa), (.int (3 : Int32))])) rfl rfl (hb hby own_d4_7) _ ?_
    rw [len_of S132 M132]
    show Steps p.tables e below (T131.setTop (mkF m 8 #[.val (.ref a0), .val (.ref a1), .val (.int (3 : Int32))] [(.int (3 : Int32)), (.int (3 : Int32))])) _
    refine XS.icmpYes X131.here hx rfl (pc0 := 8) (pc' := 31) rfl (hb hby own_d4_8) rfl (flt (by decide : ¬ ((3 : Int32) < (3 : Int32)))).2.1 (by decide) (by decide) ?_
    show Steps p.tables e below (T131.setTop (mkF m 31 #[.val (.ref a0), .val (.ref a1), .val (.int (3 : Int32))] [])) _
    exact X131.returnOut hx Bd.returns (hb hby own_d4_31) hr
  · show own_QW3 Z a0 a1 sa va k1 d1 k2 d2 k3 d3 g s0 s1 s2 w0 w1 w2 h0 n0 _ T131.heap _
    rw [e131]
    exact ⟨rfl, N129, K127, f130⟩
theorem own_d5_0 : decode method_3_code 0 = .ok (.lload 11, 2) := by decide +kernel
theorem own_d5_2 : decode method_3_code 2 = .ok (.lstore 13, 2) := by decide +kernel
theorem own_d5_4 : decode method_3_code 4 = .ok (.iload_n 1, 1) := by decide +kernel
theorem own_d5_5 : decode method_3_code 5 = .ok (.ifCond .le 12, 3) := by decide +kernel
theorem own_d5_8 : decode method_3_code 8 = .ok (.iload_n 2, 1) := by decide +kernel
theorem own_d5_9 : decode method_3_code 9 = .ok (.iload_n 0, 1) := by decide +kernel
theorem own_d5_10 : decode method_3_code 10 = .ok (.if_icmp .ne 7, 3) := by decide +kernel
theorem own_d5_13 : decode method_3_code 13 = .ok (.lload 5, 2) := by decide +kernel
theorem own_d5_15 : decode method_3_code 15 = .ok (.lstore 13, 2) := by decide +kernel
theorem own_d5_17 : decode method_3_code 17 = .ok (.iload_n 1, 1) := by decide +kernel
theorem own_d5_18 : decode method_3_code 18 = .ok (.iconst 1, 1) := by decide +kernel
theorem own_d5_19 : decode method_3_code 19 = .ok (.if_icmp .le 12, 3) := by decide +kernel
theorem own_d5_22 : decode method_3_code 22 = .ok (.iload_n 3, 1) := by decide +kernel
theorem own_d5_23 : decode method_3_code 23 = .ok (.iload_n 0, 1) := by decide +kernel
theorem own_d5_24 : decode method_3_code 24 = .ok (.if_icmp .ne 7, 3) := by decide +kernel
theorem own_d5_27 : decode method_3_code 27 = .ok (.lload 7, 2) := by decide +kernel
theorem own_d5_29 : decode method_3_code 29 = .ok (.lstore 13, 2) := by decide +kernel
theorem own_d5_31 : decode method_3_code 31 = .ok (.iload_n 1, 1) := by decide +kernel
theorem own_d5_32 : decode method_3_code 32 = .ok (.iconst 2, 1) := by decide +kernel
theorem own_d5_33 : decode method_3_code 33 = .ok (.if_icmp .le 13, 3) := by decide +kernel
theorem own_d5_36 : decode method_3_code 36 = .ok (.iload 4, 2) := by decide +kernel
theorem own_d5_38 : decode method_3_code 38 = .ok (.iload_n 0, 1) := by decide +kernel
theorem own_d5_39 : decode method_3_code 39 = .ok (.if_icmp .ne 7, 3) := by decide +kernel
theorem own_d5_42 : decode method_3_code 42 = .ok (.lload 9, 2) := by decide +kernel
theorem own_d5_44 : decode method_3_code 44 = .ok (.lstore 13, 2) := by decide +kernel
theorem own_d5_46 : decode method_3_code 46 = .ok (.lload 13, 2) := by decide +kernel
theorem own_d5_48 : decode method_3_code 48 = .ok (.lreturn, 1) := by decide +kernel
def own_f5 (p0 : Int32) (p1 : Int32) (p2 : Int32) (p3 : Int32) (p4 : Int32) (q5 : Int64) (q6 : Int64) (q7 : Int64) (q8 : Int64) : Int64 := if (0 : Int32) < p1 then if p2 = p0 then if (1 : Int32) < p1 then if p3 = p0 then if (2 : Int32) < p1 then if p4 = p0 then q7 else q6 else q6 else if (2 : Int32) < p1 then if p4 = p0 then q7 else q5 else q5 else if (2 : Int32) < p1 then if p4 = p0 then q7 else q5 else q5 else if (1 : Int32) < p1 then if p3 = p0 then if (2 : Int32) < p1 then if p4 = p0 then q7 else q6 else q6 else if (2 : Int32) < p1 then if p4 = p0 then q7 else q8 else q8 else if (2 : Int32) < p1 then if p4 = p0 then q7 else q8 else q8 else if (1 : Int32) < p1 then if p3 = p0 then if (2 : Int32) < p1 then if p4 = p0 then q7 else q6 else q6 else if (2 : Int32) < p1 then if p4 = p0 then q7 else q8 else q8 else if (2 : Int32) < p1 then if p4 = p0 then q7 else q8 else q8
theorem own_pn64 : plainName "com/example/thyme/thyme/engine/RestartWritePinLaw" = true := by first | (simp [plainName, overriddenIn]; done) | decide +kernel
theorem own_ef5 (m : MethodId) (p0 : Int32) (p1 : Int32) (p2 : Int32) (p3 : Int32) (p4 : Int32) (q5 : Int64) (q6 : Int64) (q7 : Int64) (q8 : Int64) : entryFrame m #[(.int p0), (.int p1), (.int p2), (.int p3), (.int p4), (.long q5), (.long q6), (.long q7), (.long q8)] 15 = mkF m 0 #[.val (.int p0), .val (.int p1), .val (.int p2), .val (.int p3), .val (.int p4), .val (.long q5), .second, .val (.long q6), .second, .val (.long q7), .second, .val (.long q8), .second, .unset, .unset] [] := by first | (simp [entryFrame, mkF, argsToLocals, Value.category]; done) | rfl
def own_Q5 (Z : State) (p0 : Int32) (p1 : Int32) (p2 : Int32) (p3 : Int32) (p4 : Int32) (q5 : Int64) (q6 : Int64) (q7 : Int64) (q8 : Int64) (h0 : Heap) (n0 : Nat) (v : Option Value) (h : Heap) (L : List Loc) : Prop := v = some (.long (own_f5 p0 p1 p2 p3 p4 q5 q6 q7 q8)) ∧ Fr n0 L ∧ h = h0
set_option maxRecDepth 65536 in
set_option maxHeartbeats 40000000 in
theorem own_rm5 (l : Launch) (Z : State) (av : Array Value) (hw : ∀ d ∈ tables_1, d.before av Z = true) (ws : List Jvm.Cond) (p0 : Int32) (p1 : Int32) (p2 : Int32) (p3 : Int32) (p4 : Int32) (q5 : Int64) (q6 : Int64) (q7 : Int64) (q8 : Int64) (h0 : Heap) (n0 : Nat) (Z0 : n0 ≤ h0.size) :
    MetFree l (⟨"com/example/thyme/thyme/engine/RestartWritePinLaw", "expect", "(IIIIIJJJJ)J"⟩ : MethodName) (head1 (Jvm.Cond.code (⟨"com/example/thyme/thyme/engine/RestartWritePinLaw", "expect", "(IIIIIJJJJ)J"⟩ : MethodName) method_3_code 15 (some .long) :: ws) ({ frames := 0, cells := 0, slots := 0, locals := 0 } : Room)) (fun a U => a = #[(.int p0), (.int p1), (.int p2), (.int p3), (.int p4), (.long q5), (.long q6), (.long q7), (.long q8)] ∧ Z.Warmed39 U.vm ∧ U.heap = h0) (fun _ _ _ _ _ => True) (fun _ U o U' => ∃ v L, o = .returned v ∧ own_Q5 Z p0 p1 p2 p3 p4 q5 q6 q7 q8 h0 n0 v U'.heap L ∧ FrameEnd U o U' L ({ frames := 0, cells := 0, slots := 0, locals := 0 } : Room).cells ({ frames := 0, cells := 0, slots := 0, locals := 0 } : Room).slots) := by
  refine MetFree.of_bodySF (plainFor_of_name own_pn64) hisR ?_
  intro p e s m args below meth c s₁ Bd hml0 hP hK
  obtain ⟨rfl, hZ, hh⟩ := hP
  have hx := Bd.exec
  have hby := Bd.bytes
  have hml : c.maxLocals = 15 := hml0
  have hown : s.vm.findClass "com/example/thyme/thyme/engine/RestartWritePinLaw" = some m.cls := findClass_of_methodNamed Bd.named
  have hnm := (name_of_methodNamed Bd.named Bd.method).1
  have X0 : Stand p l e ({ frames := 0, cells := 0, slots := 0, locals := 0 } : Room) s m #[(.int p0), (.int p1), (.int p2), (.int p3), (.int p4), (.long q5), (.long q6), (.long q7), (.long q8)] below meth c s₁ [] 0 0 := Stand.of_body Bd
  have e0 : s₁.heap = h0 := by rw [← hh, Bd.state]; rfl
  have N0 := Fr.nil n0
  have pre0 : ∀ t, Steps p.tables e below (s₁.setTop (mkF m 0 #[.val (.int p0), .val (.int p1), .val (.int p2), .val (.int p3), .val (.int p4), .val (.long q5), .second, .val (.long q6), .second, .val (.long q7), .second, .val (.long q8), .second, .unset, .unset] [])) t → Steps p.tables e below (s₁.setTop (entryFrame m #[(.int p0), (.int p1), (.int p2), (.int p3), (.int p4), (.long q5), (.long q6), (.long q7), (.long q8)] 15)) t := fun t k => castTop (own_ef5 m p0 p1 p2 p3 p4 q5 q6 q7 q8) k
  have pre133 : ∀ t, Steps p.tables e below (s₁.setTop (mkF m 5 #[.val (.int p0), .val (.int p1), .val (.int p2), .val (.int p3), .val (.int p4), .val (.long q5), .second, .val (.long q6), .second, .val (.long q7), .second, .val (.long q8), .second, .val (.long q8), .second] [(.int p1)])) t → Steps p.tables e below (s₁.setTop (entryFrame m #[(.int p0), (.int p1), (.int p2), (.int p3), (.int p4), (.long q5), (.long q6), (.long q7), (.long q8)] 15)) t := fun t kk => pre0 t (by
    show Steps p.tables e below (s₁.setTop (mkF m 0 #[.val (.int p0), .val (.int p1), .val (.int p2), .val (.int p3), .val (.int p4), .val (.long q5), .second, .val (.long q6), .second, .val (.long q7), .second, .val (.long q8), .second, .unset, .unset] [])) _
    refine XS.lload X0.here hx rfl (hb hby own_d5_0) rfl ?_
    show Steps p.tables e below (s₁.setTop (mkF m 2 #[.val (.int p0), .val (.int p1), .val (.int p2), .val (.int p3), .val (.int p4), .val (.long q5), .second, .val (.long q6), .second, .val (.long q7), .second, .val (.long q8), .second, .unset, .unset] [(.long q8)])) _
    refine XS.lstore X0.here hx rfl (hb hby own_d5_2) rfl (l' := #[.val (.int p0), .val (.int p1), .val (.int p2), .val (.int p3), .val (.int p4), .val (.long q5), .second, .val (.long q6), .second, .val (.long q7), .second, .val (.long q8), .second, .val (.long q8), .second]) rfl ?_
    show Steps p.tables e below (s₁.setTop (mkF m 4 #[.val (.int p0), .val (.int p1), .val (.int p2), .val (.int p3), .val (.int p4), .val (.long q5), .second, .val (.long q6), .second, .val (.long q7), .second, .val (.long q8), .second, .val (.long q8), .second] [])) _
    refine XS.iloadN X0.here hx rfl (hb hby own_d5_4) rfl ?_
    show Steps p.tables e below (s₁.setTop (mkF m 5 #[.val (.int p0), .val (.int p1), .val (.int p2), .val (.int p3), .val (.int p4), .val (.long q5), .second, .val (.long q6), .second, .val (.long q7), .second, .val (.long q8), .second, .val (.long q8), .second] [(.int p1)])) _
    exact kk)
  by_cases hc134 : (0 : Int32) < p1
  · have pre135 : ∀ t, Steps p.tables e below (s₁.setTop (mkF m 10 #[.val (.int p0), .val (.int p1), .val (.int p2), .val (.int p3), .val (.int p4), .val (.long q5), .second, .val (.long q6), .second, .val (.long q7), .second, .val (.long q8), .second, .val (.long q8), .second] [(.int p0), (.int p2)])) t → Steps p.tables e below (s₁.setTop (entryFrame m #[(.int p0), (.int p1), (.int p2), (.int p3), (.int p4), (.long q5), (.long q6), (.long q7), (.long q8)] 15)) t := fun t kk => pre133 t (by
      show Steps p.tables e below (s₁.setTop (mkF m 5 #[.val (.int p0), .val (.int p1), .val (.int p2), .val (.int p3), .val (.int p4), .val (.long q5), .second, .val (.long q6), .second, .val (.long q7), .second, .val (.long q8), .second, .val (.long q8), .second] [(.int p1)])) _
      refine XS.ifNo X0.here hx rfl (hb hby own_d5_5) rfl ((if0 _ _).trans (tlt hc134).2.2.2) ?_
      show Steps p.tables e below (s₁.setTop (mkF m 8 #[.val (.int p0), .val (.int p1), .val (.int p2), .val (.int p3), .val (.int p4), .val (.long q5), .second, .val (.long q6), .second, .val (.long q7), .second, .val (.long q8), .second, .val (.long q8), .second] [])) _
      refine XS.iloadN X0.here hx rfl (hb hby own_d5_8) rfl ?_
      show Steps p.tables e below (s₁.setTop (mkF m 9 #[.val (.int p0), .val (.int p1), .val (.int p2), .val (.int p3), .val (.int p4), .val (.long q5), .second, .val (.long q6), .second, .val (.long q7), .second, .val (.long q8), .second, .val (.long q8), .second] [(.int p2)])) _
      refine XS.iloadN X0.here hx rfl (hb hby own_d5_9) rfl ?_
      show Steps p.tables e below (s₁.setTop (mkF m 10 #[.val (.int p0), .val (.int p1), .val (.int p2), .val (.int p3), .val (.int p4), .val (.long q5), .second, .val (.long q6), .second, .val (.long q7), .second, .val (.long q8), .second, .val (.long q8), .second] [(.int p0), (.int p2)])) _
      exact kk)
    by_cases hc136 : p2 = p0
    · have pre137 : ∀ t, Steps p.tables e below (s₁.setTop (mkF m 19 #[.val (.int p0), .val (.int p1), .val (.int p2), .val (.int p3), .val (.int p4), .val (.long q5), .second, .val (.long q6), .second, .val (.long q7), .second, .val (.long q8), .second, .val (.long q5), .second] [(.int (1 : Int32)), (.int p1)])) t → Steps p.tables e below (s₁.setTop (entryFrame m #[(.int p0), (.int p1), (.int p2), (.int p3), (.int p4), (.long q5), (.long q6), (.long q7), (.long q8)] 15)) t := fun t kk => pre135 t (by
        show Steps p.tables e below (s₁.setTop (mkF m 10 #[.val (.int p0), .val (.int p1), .val (.int p2), .val (.int p3), .val (.int p4), .val (.long q5), .second, .val (.long q6), .second, .val (.long q7), .second, .val (.long q8), .second, .val (.long q8), .second] [(.int p0), (.int p2)])) _
        refine XS.icmpNo X0.here hx rfl (hb hby own_d5_10) rfl (teq hc136).2 ?_
        show Steps p.tables e below (s₁.setTop (mkF m 13 #[.val (.int p0), .val (.int p1), .val (.int p2), .val (.int p3), .val (.int p4), .val (.long q5), .second, .val (.long q6), .second, .val (.long q7), .second, .val (.long q8), .second, .val (.long q8), .second] [])) _
        refine XS.lload X0.here hx rfl (hb hby own_d5_13) rfl ?_
        show Steps p.tables e below (s₁.setTop (mkF m 15 #[.val (.int p0), .val (.int p1), .val (.int p2), .val (.int p3), .val (.int p4), .val (.long q5), .second, .val (.long q6), .second, .val (.long q7), .second, .val (.long q8), .second, .val (.long q8), .second] [(.long q5)])) _
        refine XS.lstore X0.here hx rfl (hb hby own_d5_15) rfl (l' := #[.val (.int p0), .val (.int p1), .val (.int p2), .val (.int p3), .val (.int p4), .val (.long q5), .second, .val (.long q6), .second, .val (.long q7), .second, .val (.long q8), .second, .val (.long q5), .second]) rfl ?_
        show Steps p.tables e below (s₁.setTop (mkF m 17 #[.val (.int p0), .val (.int p1), .val (.int p2), .val (.int p3), .val (.int p4), .val (.long q5), .second, .val (.long q6), .second, .val (.long q7), .second, .val (.long q8), .second, .val (.long q5), .second] [])) _
        refine XS.iloadN X0.here hx rfl (hb hby own_d5_17) rfl ?_
        show Steps p.tables e below (s₁.setTop (mkF m 18 #[.val (.int p0), .val (.int p1), .val (.int p2), .val (.int p3), .val (.int p4), .val (.long q5), .second, .val (.long q6), .second, .val (.long q7), .second, .val (.long q8), .second, .val (.long q5), .second] [(.int p1)])) _
        refine XS.iconst X0.here hx rfl (hb hby own_d5_18) ?_
        show Steps p.tables e below (s₁.setTop (mkF m 19 #[.val (.int p0), .val (.int p1), .val (.int p2), .val (.int p3), .val (.int p4), .val (.long q5), .second, .val (.long q6), .second, .val (.long q7), .second, .val (.long q8), .second, .val (.long q5), .second] [(.int (1 : Int32)), (.int p1)])) _
        exact kk)
      by_cases hc138 : (1 : Int32) < p1
      · have pre139 : ∀ t, Steps p.tables e below (s₁.setTop (mkF m 24 #[.val (.int p0), .val (.int p1), .val (.int p2), .val (.int p3), .val (.int p4), .val (.long q5), .second, .val (.long q6), .second, .val (.long q7), .second, .val (.long q8), .second, .val (.long q5), .second] [(.int p0), (.int p3)])) t → Steps p.tables e below (s₁.setTop (entryFrame m #[(.int p0), (.int p1), (.int p2), (.int p3), (.int p4), (.long q5), (.long q6), (.long q7), (.long q8)] 15)) t := fun t kk => pre137 t (by
          show Steps p.tables e below (s₁.setTop (mkF m 19 #[.val (.int p0), .val (.int p1), .val (.int p2), .val (.int p3), .val (.int p4), .val (.long q5), .second, .val (.long q6), .second, .val (.long q7), .second, .val (.long q8), .second, .val (.long q5), .second] [(.int (1 : Int32)), (.int p1)])) _
          refine XS.icmpNo X0.here hx rfl (hb hby own_d5_19) rfl (tlt hc138).2.2.2 ?_
          show Steps p.tables e below (s₁.setTop (mkF m 22 #[.val (.int p0), .val (.int p1), .val (.int p2), .val (.int p3), .val (.int p4), .val (.long q5), .second, .val (.long q6), .second, .val (.long q7), .second, .val (.long q8), .second, .val (.long q5), .second] [])) _
          refine XS.iloadN X0.here hx rfl (hb hby own_d5_22) rfl ?_
          show Steps p.tables e below (s₁.setTop (mkF m 23 #[.val (.int p0), .val (.int p1), .val (.int p2), .val (.int p3), .val (.int p4), .val (.long q5), .second, .val (.long q6), .second, .val (.long q7), .second, .val (.long q8), .second, .val (.long q5), .second] [(.int p3)])) _
          refine XS.iloadN X0.here hx rfl (hb hby own_d5_23) rfl ?_
          show Steps p.tables e below (s₁.setTop (mkF m 24 #[.val (.int p0), .val (.int p1), .val (.int p2), .val (.int p3), .val (.int p4), .val (.long q5), .second, .val (.long q6), .second, .val (.long q7), .second, .val (.long q8), .second, .val (.long q5), .second] [(.int p0), (.int p3)])) _
          exact kk)
        by_cases hc140 : p3 = p0
        · have pre141 : ∀ t, Steps p.tables e below (s₁.setTop (mkF m 33 #[.val (.int p0), .val (.int p1), .val (.int p2), .val (.int p3), .val (.int p4), .val (.long q5), .second, .val (.long q6), .second, .val (.long q7), .second, .val (.long q8), .second, .val (.long q6), .second] [(.int (2 : Int32)), (.int p1)])) t → Steps p.tables e below (s₁.setTop (entryFrame m #[(.int p0), (.int p1), (.int p2), (.int p3), (.int p4), (.long q5), (.long q6), (.long q7), (.long q8)] 15)) t := fun t kk => pre139 t (by
            show Steps p.tables e below (s₁.setTop (mkF m 24 #[.val (.int p0), .val (.int p1), .val (.int p2), .val (.int p3), .val (.int p4), .val (.long q5), .second, .val (.long q6), .second, .val (.long q7), .second, .val (.long q8), .second, .val (.long q5), .second] [(.int p0), (.int p3)])) _
            refine XS.icmpNo X0.here hx rfl (hb hby own_d5_24) rfl (teq hc140).2 ?_
            show Steps p.tables e below (s₁.setTop (mkF m 27 #[.val (.int p0), .val (.int p1), .val (.int p2), .val (.int p3), .val (.int p4), .val (.long q5), .second, .val (.long q6), .second, .val (.long q7), .second, .val (.long q8), .second, .val (.long q5), .second] [])) _
            refine XS.lload X0.here hx rfl (hb hby own_d5_27) rfl ?_
            show Steps p.tables e below (s₁.setTop (mkF m 29 #[.val (.int p0), .val (.int p1), .val (.int p2), .val (.int p3), .val (.int p4), .val (.long q5), .second, .val (.long q6), .second, .val (.long q7), .second, .val (.long q8), .second, .val (.long q5), .second] [(.long q6)])) _
            refine XS.lstore X0.here hx rfl (hb hby own_d5_29) rfl (l' := #[.val (.int p0), .val (.int p1), .val (.int p2), .val (.int p3), .val (.int p4), .val (.long q5), .second, .val (.long q6), .second, .val (.long q7), .second, .val (.long q8), .second, .val (.long q6), .second]) rfl ?_
            show Steps p.tables e below (s₁.setTop (mkF m 31 #[.val (.int p0), .val (.int p1), .val (.int p2), .val (.int p3), .val (.int p4), .val (.long q5), .second, .val (.long q6), .second, .val (.long q7), .second, .val (.long q8), .second, .val (.long q6), .second] [])) _
            refine XS.iloadN X0.here hx rfl (hb hby own_d5_31) rfl ?_
            show Steps p.tables e below (s₁.setTop (mkF m 32 #[.val (.int p0), .val (.int p1), .val (.int p2), .val (.int p3), .val (.int p4), .val (.long q5), .second, .val (.long q6), .second, .val (.long q7), .second, .val (.long q8), .second, .val (.long q6), .second] [(.int p1)])) _
            refine XS.iconst X0.here hx rfl (hb hby own_d5_32) ?_
            show Steps p.tables e below (s₁.setTop (mkF m 33 #[.val (.int p0), .val (.int p1), .val (.int p2), .val (.int p3), .val (.int p4), .val (.long q5), .second, .val (.long q6), .second, .val (.long q7), .second, .val (.long q8), .second, .val (.long q6), .second] [(.int (2 : Int32)), (.int p1)])) _
            exact kk)
          by_cases hc142 : (2 : Int32) < p1
          · have pre143 : ∀ t, Steps p.tables e below (s₁.setTop (mkF m 39 #[.val (.int p0), .val (.int p1), .val (.int p2), .val (.int p3), .val (.int p4), .val (.long q5), .second, .val (.long q6), .second, .val (.long q7), .second, .val (.long q8), .second, .val (.long q6), .second] [(.int p0), (.int p4)])) t → Steps p.tables e below (s₁.setTop (entryFrame m #[(.int p0), (.int p1), (.int p2), (.int p3), (.int p4), (.long q5), (.long q6), (.long q7), (.long q8)] 15)) t := fun t kk => pre141 t (by
              show Steps p.tables e below (s₁.setTop (mkF m 33 #[.val (.int p0), .val (.int p1), .val (.int p2), .val (.int p3), .val (.int p4), .val (.long q5), .second, .val (.long q6), .second, .val (.long q7), .second, .val (.long q8), .second, .val (.long q6), .second] [(.int (2 : Int32)), (.int p1)])) _
              refine XS.icmpNo X0.here hx rfl (hb hby own_d5_33) rfl (tlt hc142).2.2.2 ?_
              show Steps p.tables e below (s₁.setTop (mkF m 36 #[.val (.int p0), .val (.int p1), .val (.int p2), .val (.int p3), .val (.int p4), .val (.long q5), .second, .val (.long q6), .second, .val (.long q7), .second, .val (.long q8), .second, .val (.long q6), .second] [])) _
              refine XS.iload X0.here hx rfl (hb hby own_d5_36) rfl ?_
              show Steps p.tables e below (s₁.setTop (mkF m 38 #[.val (.int p0), .val (.int p1), .val (.int p2), .val (.int p3), .val (.int p4), .val (.long q5), .second, .val (.long q6), .second, .val (.long q7), .second, .val (.long q8), .second, .val (.long q6), .second] [(.int p4)])) _
              refine XS.iloadN X0.here hx rfl (hb hby own_d5_38) rfl ?_
              show Steps p.tables e below (s₁.setTop (mkF m 39 #[.val (.int p0), .val (.int p1), .val (.int p2), .val (.int p3), .val (.int p4), .val (.long q5), .second, .val (.long q6), .second, .val (.long q7), .second, .val (.long q8), .second, .val (.long q6), .second] [(.int p0), (.int p4)])) _
              exact kk)
            by_cases hc144 : p4 = p0
            · obtain ⟨fs, hr, hrun, hended, hW, hsame⟩ := X0.leave (v := some (.long q7)) (fun h => by rw [Bd.returns] at h; cases h)
              refine ⟨_, _, pre143 _ ?_, hrun, hended, _, _, rfl, ?_, ⟨_, rfl⟩, hW, hsame.mono (by decide) (by decide)⟩
              · show Steps p.tables e below (s₁.setTop (mkF m 39 #[.val (.int p0), .val (.int p1), .val (.int p2), .val (.int p3), .val (.int p4), .val (.long q5), .second, .val (.long q6), .second, .val (.long q7), .second, .val (.long q8), .second, .val (.long q6), .second] [(.int p0), (.int p4)])) _
                refine XS.icmpNo X0.here hx rfl (hb hby own_d5_39) rfl (teq hc144).2 ?_
                show Steps p.tables e below (s₁.setTop (mkF m 42 #[.val (.int p0), .val (.int p1), .val (.int p2), .val (.int p3), .val (.int p4), .val (.long q5), .second, .val (.long q6), .second, .val (.long q7), .second, .val (.long q8), .second, .val (.long q6), .second] [])) _
                refine XS.lload X0.here hx rfl (hb hby own_d5_42) rfl ?_
                show Steps p.tables e below (s₁.setTop (mkF m 44 #[.val (.int p0), .val (.int p1), .val (.int p2), .val (.int p3), .val (.int p4), .val (.long q5), .second, .val (.long q6), .second, .val (.long q7), .second, .val (.long q8), .second, .val (.long q6), .second] [(.long q7)])) _
                refine XS.lstore X0.here hx rfl (hb hby own_d5_44) rfl (l' := #[.val (.int p0), .val (.int p1), .val (.int p2), .val (.int p3), .val (.int p4), .val (.long q5), .second, .val (.long q6), .second, .val (.long q7), .second, .val (.long q8), .second, .val (.long q7), .second]) rfl ?_
                show Steps p.tables e below (s₁.setTop (mkF m 46 #[.val (.int p0), .val (.int p1), .val (.int p2), .val (.int p3), .val (.int p4), .val (.long q5), .second, .val (.long q6), .second, .val (.long q7), .second, .val (.long q8), .second, .val (.long q7), .second] [])) _
                refine XS.lload X0.here hx rfl (hb hby own_d5_46) rfl ?_
                show Steps p.tables e below (s₁.setTop (mkF m 48 #[.val (.int p0), .val (.int p1), .val (.int p2), .val (.int p3), .val (.int p4), .val (.long q5), .second, .val (.long q6), .second, .val (.long q7), .second, .val (.long q8), .second, .val (.long q7), .second] [(.long q7)])) _
                exact retOut X0 hx (t := .long) (i := .lreturn) Bd.returns rfl (Or.inr (Or.inl ⟨rfl, rfl, _, rfl⟩)) (hb hby own_d5_48) hr
              · show own_Q5 Z p0 p1 p2 p3 p4 q5 q6 q7 q8 h0 n0 _ s₁.heap _
                rw [e0]
                have hv : own_f5 p0 p1 p2 p3 p4 q5 q6 q7 q8 = q7 := by unfold own_f5; rw [if_pos hc134, if_pos hc136, if_pos hc138, if_pos hc140, if_pos hc142, if_pos hc144]
                exact ⟨by rw [hv], N0, rfl⟩
            · obtain ⟨fs, hr, hrun, hended, hW, hsame⟩ := X0.leave (v := some (.long q6)) (fun h => by rw [Bd.returns] at h; cases h)
              refine ⟨_, _, pre143 _ ?_, hrun, hended, _, _, rfl, ?_, ⟨_, rfl⟩, hW, hsame.mono (by decide) (by decide)⟩
              · show Steps p.tables e below (s₁.setTop (mkF m 39 #[.val (.int p0), .val (.int p1), .val (.int p2), .val (.int p3), .val (.int p4), .val (.long q5), .second, .val (.long q6), .second, .val (.long q7), .second, .val (.long q8), .second, .val (.long q6), .second] [(.int p0), (.int p4)])) _
                refine XS.icmpYes X0.here hx rfl (pc0 := 39) (pc' := 46) rfl (hb hby own_d5_39) rfl (feq hc144).2 (by decide) (by decide) ?_
                show Steps p.tables e below (s₁.setTop (mkF m 46 #[.val (.int p0), .val (.int p1), .val (.int p2), .val (.int p3), .val (.int p4), .val (.long q5), .second, .val (.long q6), .second, .val (.long q7), .second, .val (.long q8), .second, .val (.long q6), .second] [])) _
                refine XS.lload X0.here hx rfl (hb hby own_d5_46) rfl ?_
                show Steps p.tables e below (s₁.setTop (mkF m 48 #[.val (.int p0), .val (.int p1), .val (.int p2), .val (.int p3), .val (.int p4), .val (.long q5), .second, .val (.long q6), .second, .val (.long q7), .second, .val (.long q8), .second, .val (.long q6), .second] [(.long q6)])) _
                exact retOut X0 hx (t := .long) (i := .lreturn) Bd.returns rfl (Or.inr (Or.inl ⟨rfl, rfl, _, rfl⟩)) (hb hby own_d5_48) hr
              · show own_Q5 Z p0 p1 p2 p3 p4 q5 q6 q7 q8 h0 n0 _ s₁.heap _
                rw [e0]
                have hv : own_f5 p0 p1 p2 p3 p4 q5 q6 q7 q8 = q6 := by unfold own_f5; rw [if_pos hc134, if_pos hc136, if_pos hc138, if_pos hc140, if_pos hc142, if_neg hc144]
                exact ⟨by rw [hv], N0, rfl⟩
          · obtain ⟨fs, hr, hrun, hended, hW, hsame⟩ := X0.leave (v := some (.long q6)) (fun h => by rw [Bd.returns] at h; cases h)
            refine ⟨_, _, pre141 _ ?_, hrun, hended, _, _, rfl, ?_, ⟨_, rfl⟩, hW, hsame.mono (by decide) (by decide)⟩
            · show Steps p.tables e below (s₁.setTop (mkF m 33 #[.val (.int p0), .val (.int p1), .val (.int p2), .val (.int p3), .val (.int p4), .val (.long q5), .second, .val (.long q6), .second, .val (.long q7), .second, .val (.long q8), .second, .val (.long q6), .second] [(.int (2 : Int32)), (.int p1)])) _
              refine XS.icmpYes X0.here hx rfl (pc0 := 33) (pc' := 46) rfl (hb hby own_d5_33) rfl (flt hc142).2.2.2 (by decide) (by decide) ?_
              show Steps p.tables e below (s₁.setTop (mkF m 46 #[.val (.int p0), .val (.int p1), .val (.int p2), .val (.int p3), .val (.int p4), .val (.long q5), .second, .val (.long q6), .second, .val (.long q7), .second, .val (.long q8), .second, .val (.long q6), .second] [])) _
              refine XS.lload X0.here hx rfl (hb hby own_d5_46) rfl ?_
              show Steps p.tables e below (s₁.setTop (mkF m 48 #[.val (.int p0), .val (.int p1), .val (.int p2), .val (.int p3), .val (.int p4), .val (.long q5), .second, .val (.long q6), .second, .val (.long q7), .second, .val (.long q8), .second, .val (.long q6), .second] [(.long q6)])) _
              exact retOut X0 hx (t := .long) (i := .lreturn) Bd.returns rfl (Or.inr (Or.inl ⟨rfl, rfl, _, rfl⟩)) (hb hby own_d5_48) hr
            · show own_Q5 Z p0 p1 p2 p3 p4 q5 q6 q7 q8 h0 n0 _ s₁.heap _
              rw [e0]
              have hv : own_f5 p0 p1 p2 p3 p4 q5 q6 q7 q8 = q6 := by unfold own_f5; rw [if_pos hc134, if_pos hc136, if_pos hc138, if_pos hc140, if_neg hc142]
              exact ⟨by rw [hv], N0, rfl⟩
        · have pre145 : ∀ t, Steps p.tables e below (s₁.setTop (mkF m 33 #[.val (.int p0), .val (.int p1), .val (.int p2), .val (.int p3), .val (.int p4), .val (.long q5), .second, .val (.long q6), .second, .val (.long q7), .second, .val (.long q8), .second, .val (.long q5), .second] [(.int (2 : Int32)), (.int p1)])) t → Steps p.tables e below (s₁.setTop (entryFrame m #[(.int p0), (.int p1), (.int p2), (.int p3), (.int p4), (.long q5), (.long q6), (.long q7), (.long q8)] 15)) t := fun t kk => pre139 t (by
            show Steps p.tables e below (s₁.setTop (mkF m 24 #[.val (.int p0), .val (.int p1), .val (.int p2), .val (.int p3), .val (.int p4), .val (.long q5), .second, .val (.long q6), .second, .val (.long q7), .second, .val (.long q8), .second, .val (.long q5), .second] [(.int p0), (.int p3)])) _
            refine XS.icmpYes X0.here hx rfl (pc0 := 24) (pc' := 31) rfl (hb hby own_d5_24) rfl (feq hc140).2 (by decide) (by decide) ?_
            show Steps p.tables e below (s₁.setTop (mkF m 31 #[.val (.int p0), .val (.int p1), .val (.int p2), .val (.int p3), .val (.int p4), .val (.long q5), .second, .val (.long q6), .second, .val (.long q7), .second, .val (.long q8), .second, .val (.long q5), .second] [])) _
            refine XS.iloadN X0.here hx rfl (hb hby own_d5_31) rfl ?_
            show Steps p.tables e below (s₁.setTop (mkF m 32 #[.val (.int p0), .val (.int p1), .val (.int p2), .val (.int p3), .val (.int p4), .val (.long q5), .second, .val (.long q6), .second, .val (.long q7), .second, .val (.long q8), .second, .val (.long q5), .second] [(.int p1)])) _
            refine XS.iconst X0.here hx rfl (hb hby own_d5_32) ?_
            show Steps p.tables e below (s₁.setTop (mkF m 33 #[.val (.int p0), .val (.int p1), .val (.int p2), .val (.int p3), .val (.int p4), .val (.long q5), .second, .val (.long q6), .second, .val (.long q7), .second, .val (.long q8), .second, .val (.long q5), .second] [(.int (2 : Int32)), (.int p1)])) _
            exact kk)
          by_cases hc146 : (2 : Int32) < p1
          · have pre147 : ∀ t, Steps p.tables e below (s₁.setTop (mkF m 39 #[.val (.int p0), .val (.int p1), .val (.int p2), .val (.int p3), .val (.int p4), .val (.long q5), .second, .val (.long q6), .second, .val (.long q7), .second, .val (.long q8), .second, .val (.long q5), .second] [(.int p0), (.int p4)])) t → Steps p.tables e below (s₁.setTop (entryFrame m #[(.int p0), (.int p1), (.int p2), (.int p3), (.int p4), (.long q5), (.long q6), (.long q7), (.long q8)] 15)) t := fun t kk => pre145 t (by
              show Steps p.tables e below (s₁.setTop (mkF m 33 #[.val (.int p0), .val (.int p1), .val (.int p2), .val (.int p3), .val (.int p4), .val (.long q5), .second, .val (.long q6), .second, .val (.long q7), .second, .val (.long q8), .second, .val (.long q5), .second] [(.int (2 : Int32)), (.int p1)])) _
              refine XS.icmpNo X0.here hx rfl (hb hby own_d5_33) rfl (tlt hc146).2.2.2 ?_
              show Steps p.tables e below (s₁.setTop (mkF m 36 #[.val (.int p0), .val (.int p1), .val (.int p2), .val (.int p3), .val (.int p4), .val (.long q5), .second, .val (.long q6), .second, .val (.long q7), .second, .val (.long q8), .second, .val (.long q5), .second] [])) _
              refine XS.iload X0.here hx rfl (hb hby own_d5_36) rfl ?_
              show Steps p.tables e below (s₁.setTop (mkF m 38 #[.val (.int p0), .val (.int p1), .val (.int p2), .val (.int p3), .val (.int p4), .val (.long q5), .second, .val (.long q6), .second, .val (.long q7), .second, .val (.long q8), .second, .val (.long q5), .second] [(.int p4)])) _
              refine XS.iloadN X0.here hx rfl (hb hby own_d5_38) rfl ?_
              show Steps p.tables e below (s₁.setTop (mkF m 39 #[.val (.int p0), .val (.int p1), .val (.int p2), .val (.int p3), .val (.int p4), .val (.long q5), .second, .val (.long q6), .second, .val (.long q7), .second, .val (.long q8), .second, .val (.long q5), .second] [(.int p0), (.int p4)])) _
              exact kk)
            by_cases hc148 : p4 = p0
            · obtain ⟨fs, hr, hrun, hended, hW, hsame⟩ := X0.leave (v := some (.long q7)) (fun h => by rw [Bd.returns] at h; cases h)
              refine ⟨_, _, pre147 _ ?_, hrun, hended, _, _, rfl, ?_, ⟨_, rfl⟩, hW, hsame.mono (by decide) (by decide)⟩
              · show Steps p.tables e below (s₁.setTop (mkF m 39 #[.val (.int p0), .val (.int p1), .val (.int p2), .val (.int p3), .val (.int p4), .val (.long q5), .second, .val (.long q6), .second, .val (.long q7), .second, .val (.long q8), .second, .val (.long q5), .second] [(.int p0), (.int p4)])) _
                refine XS.icmpNo X0.here hx rfl (hb hby own_d5_39) rfl (teq hc148).2 ?_
                show Steps p.tables e below (s₁.setTop (mkF m 42 #[.val (.int p0), .val (.int p1), .val (.int p2), .val (.int p3), .val (.int p4), .val (.long q5), .second, .val (.long q6), .second, .val (.long q7), .second, .val (.long q8), .second, .val (.long q5), .second] [])) _
                refine XS.lload X0.here hx rfl (hb hby own_d5_42) rfl ?_
                show Steps p.tables e below (s₁.setTop (mkF m 44 #[.val (.int p0), .val (.int p1), .val (.int p2), .val (.int p3), .val (.int p4), .val (.long q5), .second, .val (.long q6), .second, .val (.long q7), .second, .val (.long q8), .second, .val (.long q5), .second] [(.long q7)])) _
                refine XS.lstore X0.here hx rfl (hb hby own_d5_44) rfl (l' := #[.val (.int p0), .val (.int p1), .val (.int p2), .val (.int p3), .val (.int p4), .val (.long q5), .second, .val (.long q6), .second, .val (.long q7), .second, .val (.long q8), .second, .val (.long q7), .second]) rfl ?_
                show Steps p.tables e below (s₁.setTop (mkF m 46 #[.val (.int p0), .val (.int p1), .val (.int p2), .val (.int p3), .val (.int p4), .val (.long q5), .second, .val (.long q6), .second, .val (.long q7), .second, .val (.long q8), .second, .val (.long q7), .second] [])) _
                refine XS.lload X0.here hx rfl (hb hby own_d5_46) rfl ?_
                show Steps p.tables e below (s₁.setTop (mkF m 48 #[.val (.int p0), .val (.int p1), .val (.int p2), .val (.int p3), .val (.int p4), .val (.long q5), .second, .val (.long q6), .second, .val (.long q7), .second, .val (.long q8), .second, .val (.long q7), .second] [(.long q7)])) _
                exact retOut X0 hx (t := .long) (i := .lreturn) Bd.returns rfl (Or.inr (Or.inl ⟨rfl, rfl, _, rfl⟩)) (hb hby own_d5_48) hr
              · show own_Q5 Z p0 p1 p2 p3 p4 q5 q6 q7 q8 h0 n0 _ s₁.heap _
                rw [e0]
                have hv : own_f5 p0 p1 p2 p3 p4 q5 q6 q7 q8 = q7 := by unfold own_f5; rw [if_pos hc134, if_pos hc136, if_pos hc138, if_neg hc140, if_pos hc146, if_pos hc148]
                exact ⟨by rw [hv], N0, rfl⟩
            · obtain ⟨fs, hr, hrun, hended, hW, hsame⟩ := X0.leave (v := some (.long q5)) (fun h => by rw [Bd.returns] at h; cases h)
              refine ⟨_, _, pre147 _ ?_, hrun, hended, _, _, rfl, ?_, ⟨_, rfl⟩, hW, hsame.mono (by decide) (by decide)⟩
              · show Steps p.tables e below (s₁.setTop (mkF m 39 #[.val (.int p0), .val (.int p1), .val (.int p2), .val (.int p3), .val (.int p4), .val (.long q5), .second, .val (.long q6), .second, .val (.long q7), .second, .val (.long q8), .second, .val (.long q5), .second] [(.int p0), (.int p4)])) _
                refine XS.icmpYes X0.here hx rfl (pc0 := 39) (pc' := 46) rfl (hb hby own_d5_39) rfl (feq hc148).2 (by decide) (by decide) ?_
                show Steps p.tables e below (s₁.setTop (mkF m 46 #[.val (.int p0), .val (.int p1), .val (.int p2), .val (.int p3), .val (.int p4), .val (.long q5), .second, .val (.long q6), .second, .val (.long q7), .second, .val (.long q8), .second, .val (.long q5), .second] [])) _
                refine XS.lload X0.here hx rfl (hb hby own_d5_46) rfl ?_
                show Steps p.tables e below (s₁.setTop (mkF m 48 #[.val (.int p0), .val (.int p1), .val (.int p2), .val (.int p3), .val (.int p4), .val (.long q5), .second, .val (.long q6), .second, .val (.long q7), .second, .val (.long q8), .second, .val (.long q5), .second] [(.long q5)])) _
                exact retOut X0 hx (t := .long) (i := .lreturn) Bd.returns rfl (Or.inr (Or.inl ⟨rfl, rfl, _, rfl⟩)) (hb hby own_d5_48) hr
              · show own_Q5 Z p0 p1 p2 p3 p4 q5 q6 q7 q8 h0 n0 _ s₁.heap _
                rw [e0]
                have hv : own_f5 p0 p1 p2 p3 p4 q5 q6 q7 q8 = q5 := by unfold own_f5; rw [if_pos hc134, if_pos hc136, if_pos hc138, if_neg hc140, if_pos hc146, if_neg hc148]
                exact ⟨by rw [hv], N0, rfl⟩
          · obtain ⟨fs, hr, hrun, hended, hW, hsame⟩ := X0.leave (v := some (.long q5)) (fun h => by rw [Bd.returns] at h; cases h)
            refine ⟨_, _, pre145 _ ?_, hrun, hended, _, _, rfl, ?_, ⟨_, rfl⟩, hW, hsame.mono (by decide) (by decide)⟩
            · show Steps p.tables e below (s₁.setTop (mkF m 33 #[.val (.int p0), .val (.int p1), .val (.int p2), .val (.int p3), .val (.int p4), .val (.long q5), .second, .val (.long q6), .second, .val (.long q7), .second, .val (.long q8), .second, .val (.long q5), .second] [(.int (2 : Int32)), (.int p1)])) _
              refine XS.icmpYes X0.here hx rfl (pc0 := 33) (pc' := 46) rfl (hb hby own_d5_33) rfl (flt hc146).2.2.2 (by decide) (by decide) ?_
              show Steps p.tables e below (s₁.setTop (mkF m 46 #[.val (.int p0), .val (.int p1), .val (.int p2), .val (.int p3), .val (.int p4), .val (.long q5), .second, .val (.long q6), .second, .val (.long q7), .second, .val (.long q8), .second, .val (.long q5), .second] [])) _
              refine XS.lload X0.here hx rfl (hb hby own_d5_46) rfl ?_
              show Steps p.tables e below (s₁.setTop (mkF m 48 #[.val (.int p0), .val (.int p1), .val (.int p2), .val (.int p3), .val (.int p4), .val (.long q5), .second, .val (.long q6), .second, .val (.long q7), .second, .val (.long q8), .second, .val (.long q5), .second] [(.long q5)])) _
              exact retOut X0 hx (t := .long) (i := .lreturn) Bd.returns rfl (Or.inr (Or.inl ⟨rfl, rfl, _, rfl⟩)) (hb hby own_d5_48) hr
            · show own_Q5 Z p0 p1 p2 p3 p4 q5 q6 q7 q8 h0 n0 _ s₁.heap _
              rw [e0]
              have hv : own_f5 p0 p1 p2 p3 p4 q5 q6 q7 q8 = q5 := by unfold own_f5; rw [if_pos hc134, if_pos hc136, if_pos hc138, if_neg hc140, if_neg hc146]
              exact ⟨by rw [hv], N0, rfl⟩
      · have pre149 : ∀ t, Steps p.tables e below (s₁.setTop (mkF m 33 #[.val (.int p0), .val (.int p1), .val (.int p2), .val (.int p3), .val (.int p4), .val (.long q5), .second, .val (.long q6), .second, .val (.long q7), .second, .val (.long q8), .second, .val (.long q5), .second] [(.int (2 : Int32)), (.int p1)])) t → Steps p.tables e below (s₁.setTop (entryFrame m #[(.int p0), (.int p1), (.int p2), (.int p3), (.int p4), (.long q5), (.long q6), (.long q7), (.long q8)] 15)) t := fun t kk => pre137 t (by
          show Steps p.tables e below (s₁.setTop (mkF m 19 #[.val (.int p0), .val (.int p1), .val (.int p2), .val (.int p3), .val (.int p4), .val (.long q5), .second, .val (.long q6), .second, .val (.long q7), .second, .val (.long q8), .second, .val (.long q5), .second] [(.int (1 : Int32)), (.int p1)])) _
          refine XS.icmpYes X0.here hx rfl (pc0 := 19) (pc' := 31) rfl (hb hby own_d5_19) rfl (flt hc138).2.2.2 (by decide) (by decide) ?_
          show Steps p.tables e below (s₁.setTop (mkF m 31 #[.val (.int p0), .val (.int p1), .val (.int p2), .val (.int p3), .val (.int p4), .val (.long q5), .second, .val (.long q6), .second, .val (.long q7), .second, .val (.long q8), .second, .val (.long q5), .second] [])) _
          refine XS.iloadN X0.here hx rfl (hb hby own_d5_31) rfl ?_
          show Steps p.tables e below (s₁.setTop (mkF m 32 #[.val (.int p0), .val (.int p1), .val (.int p2), .val (.int p3), .val (.int p4), .val (.long q5), .second, .val (.long q6), .second, .val (.long q7), .second, .val (.long q8), .second, .val (.long q5), .second] [(.int p1)])) _
          refine XS.iconst X0.here hx rfl (hb hby own_d5_32) ?_
          show Steps p.tables e below (s₁.setTop (mkF m 33 #[.val (.int p0), .val (.int p1), .val (.int p2), .val (.int p3), .val (.int p4), .val (.long q5), .second, .val (.long q6), .second, .val (.long q7), .second, .val (.long q8), .second, .val (.long q5), .second] [(.int (2 : Int32)), (.int p1)])) _
          exact kk)
        by_cases hc150 : (2 : Int32) < p1
        · have pre151 : ∀ t, Steps p.tables e below (s₁.setTop (mkF m 39 #[.val (.int p0), .val (.int p1), .val (.int p2), .val (.int p3), .val (.int p4), .val (.long q5), .second, .val (.long q6), .second, .val (.long q7), .second, .val (.long q8), .second, .val (.long q5), .second] [(.int p0), (.int p4)])) t → Steps p.tables e below (s₁.setTop (entryFrame m #[(.int p0), (.int p1), (.int p2), (.int p3), (.int p4), (.long q5), (.long q6), (.long q7), (.long q8)] 15)) t := fun t kk => pre149 t (by
            show Steps p.tables e below (s₁.setTop (mkF m 33 #[.val (.int p0), .val (.int p1), .val (.int p2), .val (.int p3), .val (.int p4), .val (.long q5), .second, .val (.long q6), .second, .val (.long q7), .second, .val (.long q8), .second, .val (.long q5), .second] [(.int (2 : Int32)), (.int p1)])) _
            refine XS.icmpNo X0.here hx rfl (hb hby own_d5_33) rfl (tlt hc150).2.2.2 ?_
            show Steps p.tables e below (s₁.setTop (mkF m 36 #[.val (.int p0), .val (.int p1), .val (.int p2), .val (.int p3), .val (.int p4), .val (.long q5), .second, .val (.long q6), .second, .val (.long q7), .second, .val (.long q8), .second, .val (.long q5), .second] [])) _
            refine XS.iload X0.here hx rfl (hb hby own_d5_36) rfl ?_
            show Steps p.tables e below (s₁.setTop (mkF m 38 #[.val (.int p0), .val (.int p1), .val (.int p2), .val (.int p3), .val (.int p4), .val (.long q5), .second, .val (.long q6), .second, .val (.long q7), .second, .val (.long q8), .second, .val (.long q5), .second] [(.int p4)])) _
            refine XS.iloadN X0.here hx rfl (hb hby own_d5_38) rfl ?_
            show Steps p.tables e below (s₁.setTop (mkF m 39 #[.val (.int p0), .val (.int p1), .val (.int p2), .val (.int p3), .val (.int p4), .val (.long q5), .second, .val (.long q6), .second, .val (.long q7), .second, .val (.long q8), .second, .val (.long q5), .second] [(.int p0), (.int p4)])) _
            exact kk)
          by_cases hc152 : p4 = p0
          · obtain ⟨fs, hr, hrun, hended, hW, hsame⟩ := X0.leave (v := some (.long q7)) (fun h => by rw [Bd.returns] at h; cases h)
            refine ⟨_, _, pre151 _ ?_, hrun, hended, _, _, rfl, ?_, ⟨_, rfl⟩, hW, hsame.mono (by decide) (by decide)⟩
            · show Steps p.tables e below (s₁.setTop (mkF m 39 #[.val (.int p0), .val (.int p1), .val (.int p2), .val (.int p3), .val (.int p4), .val (.long q5), .second, .val (.long q6), .second, .val (.long q7), .second, .val (.long q8), .second, .val (.long q5), .second] [(.int p0), (.int p4)])) _
              refine XS.icmpNo X0.here hx rfl (hb hby own_d5_39) rfl (teq hc152).2 ?_
              show Steps p.tables e below (s₁.setTop (mkF m 42 #[.val (.int p0), .val (.int p1), .val (.int p2), .val (.int p3), .val (.int p4), .val (.long q5), .second, .val (.long q6), .second, .val (.long q7), .second, .val (.long q8), .second, .val (.long q5), .second] [])) _
              refine XS.lload X0.here hx rfl (hb hby own_d5_42) rfl ?_
              show Steps p.tables e below (s₁.setTop (mkF m 44 #[.val (.int p0), .val (.int p1), .val (.int p2), .val (.int p3), .val (.int p4), .val (.long q5), .second, .val (.long q6), .second, .val (.long q7), .second, .val (.long q8), .second, .val (.long q5), .second] [(.long q7)])) _
              refine XS.lstore X0.here hx rfl (hb hby own_d5_44) rfl (l' := #[.val (.int p0), .val (.int p1), .val (.int p2), .val (.int p3), .val (.int p4), .val (.long q5), .second, .val (.long q6), .second, .val (.long q7), .second, .val (.long q8), .second, .val (.long q7), .second]) rfl ?_
              show Steps p.tables e below (s₁.setTop (mkF m 46 #[.val (.int p0), .val (.int p1), .val (.int p2), .val (.int p3), .val (.int p4), .val (.long q5), .second, .val (.long q6), .second, .val (.long q7), .second, .val (.long q8), .second, .val (.long q7), .second] [])) _
              refine XS.lload X0.here hx rfl (hb hby own_d5_46) rfl ?_
              show Steps p.tables e below (s₁.setTop (mkF m 48 #[.val (.int p0), .val (.int p1), .val (.int p2), .val (.int p3), .val (.int p4), .val (.long q5), .second, .val (.long q6), .second, .val (.long q7), .second, .val (.long q8), .second, .val (.long q7), .second] [(.long q7)])) _
              exact retOut X0 hx (t := .long) (i := .lreturn) Bd.returns rfl (Or.inr (Or.inl ⟨rfl, rfl, _, rfl⟩)) (hb hby own_d5_48) hr
            · show own_Q5 Z p0 p1 p2 p3 p4 q5 q6 q7 q8 h0 n0 _ s₁.heap _
              rw [e0]
              have hv : own_f5 p0 p1 p2 p3 p4 q5 q6 q7 q8 = q7 := by unfold own_f5; rw [if_pos hc134, if_pos hc136, if_neg hc138, if_pos hc150, if_pos hc152]
              exact ⟨by rw [hv], N0, rfl⟩
          · obtain ⟨fs, hr, hrun, hended, hW, hsame⟩ := X0.leave (v := some (.long q5)) (fun h => by rw [Bd.returns] at h; cases h)
            refine ⟨_, _, pre151 _ ?_, hrun, hended, _, _, rfl, ?_, ⟨_, rfl⟩, hW, hsame.mono (by decide) (by decide)⟩
            · show Steps p.tables e below (s₁.setTop (mkF m 39 #[.val (.int p0), .val (.int p1), .val (.int p2), .val (.int p3), .val (.int p4), .val (.long q5), .second, .val (.long q6), .second, .val (.long q7), .second, .val (.long q8), .second, .val (.long q5), .second] [(.int p0), (.int p4)])) _
              refine XS.icmpYes X0.here hx rfl (pc0 := 39) (pc' := 46) rfl (hb hby own_d5_39) rfl (feq hc152).2 (by decide) (by decide) ?_
              show Steps p.tables e below (s₁.setTop (mkF m 46 #[.val (.int p0), .val (.int p1), .val (.int p2), .val (.int p3), .val (.int p4), .val (.long q5), .second, .val (.long q6), .second, .val (.long q7), .second, .val (.long q8), .second, .val (.long q5), .second] [])) _
              refine XS.lload X0.here hx rfl (hb hby own_d5_46) rfl ?_
              show Steps p.tables e below (s₁.setTop (mkF m 48 #[.val (.int p0), .val (.int p1), .val (.int p2), .val (.int p3), .val (.int p4), .val (.long q5), .second, .val (.long q6), .second, .val (.long q7), .second, .val (.long q8), .second, .val (.long q5), .second] [(.long q5)])) _
              exact retOut X0 hx (t := .long) (i := .lreturn) Bd.returns rfl (Or.inr (Or.inl ⟨rfl, rfl, _, rfl⟩)) (hb hby own_d5_48) hr
            · show own_Q5 Z p0 p1 p2 p3 p4 q5 q6 q7 q8 h0 n0 _ s₁.heap _
              rw [e0]
              have hv : own_f5 p0 p1 p2 p3 p4 q5 q6 q7 q8 = q5 := by unfold own_f5; rw [if_pos hc134, if_pos hc136, if_neg hc138, if_pos hc150, if_neg hc152]
              exact ⟨by rw [hv], N0, rfl⟩
        · obtain ⟨fs, hr, hrun, hended, hW, hsame⟩ := X0.leave (v := some (.long q5)) (fun h => by rw [Bd.returns] at h; cases h)
          refine ⟨_, _, pre149 _ ?_, hrun, hended, _, _, rfl, ?_, ⟨_, rfl⟩, hW, hsame.mono (by decide) (by decide)⟩
          · show Steps p.tables e below (s₁.setTop (mkF m 33 #[.val (.int p0), .val (.int p1), .val (.int p2), .val (.int p3), .val (.int p4), .val (.long q5), .second, .val (.long q6), .second, .val (.long q7), .second, .val (.long q8), .second, .val (.long q5), .second] [(.int (2 : Int32)), (.int p1)])) _
            refine XS.icmpYes X0.here hx rfl (pc0 := 33) (pc' := 46) rfl (hb hby own_d5_33) rfl (flt hc150).2.2.2 (by decide) (by decide) ?_
            show Steps p.tables e below (s₁.setTop (mkF m 46 #[.val (.int p0), .val (.int p1), .val (.int p2), .val (.int p3), .val (.int p4), .val (.long q5), .second, .val (.long q6), .second, .val (.long q7), .second, .val (.long q8), .second, .val (.long q5), .second] [])) _
            refine XS.lload X0.here hx rfl (hb hby own_d5_46) rfl ?_
            show Steps p.tables e below (s₁.setTop (mkF m 48 #[.val (.int p0), .val (.int p1), .val (.int p2), .val (.int p3), .val (.int p4), .val (.long q5), .second, .val (.long q6), .second, .val (.long q7), .second, .val (.long q8), .second, .val (.long q5), .second] [(.long q5)])) _
            exact retOut X0 hx (t := .long) (i := .lreturn) Bd.returns rfl (Or.inr (Or.inl ⟨rfl, rfl, _, rfl⟩)) (hb hby own_d5_48) hr
          · show own_Q5 Z p0 p1 p2 p3 p4 q5 q6 q7 q8 h0 n0 _ s₁.heap _
            rw [e0]
            have hv : own_f5 p0 p1 p2 p3 p4 q5 q6 q7 q8 = q5 := by unfold own_f5; rw [if_pos hc134, if_pos hc136, if_neg hc138, if_neg hc150]
            exact ⟨by rw [hv], N0, rfl⟩
    · have pre153 : ∀ t, Steps p.tables e below (s₁.setTop (mkF m 19 #[.val (.int p0), .val (.int p1), .val (.int p2), .val (.int p3), .val (.int p4), .val (.long q5), .second, .val (.long q6), .second, .val (.long q7), .second, .val (.long q8), .second, .val (.long q8), .second] [(.int (1 : Int32)), (.int p1)])) t → Steps p.tables e below (s₁.setTop (entryFrame m #[(.int p0), (.int p1), (.int p2), (.int p3), (.int p4), (.long q5), (.long q6), (.long q7), (.long q8)] 15)) t := fun t kk => pre135 t (by
        show Steps p.tables e below (s₁.setTop (mkF m 10 #[.val (.int p0), .val (.int p1), .val (.int p2), .val (.int p3), .val (.int p4), .val (.long q5), .second, .val (.long q6), .second, .val (.long q7), .second, .val (.long q8), .second, .val (.long q8), .second] [(.int p0), (.int p2)])) _
        refine XS.icmpYes X0.here hx rfl (pc0 := 10) (pc' := 17) rfl (hb hby own_d5_10) rfl (feq hc136).2 (by decide) (by decide) ?_
        show Steps p.tables e below (s₁.setTop (mkF m 17 #[.val (.int p0), .val (.int p1), .val (.int p2), .val (.int p3), .val (.int p4), .val (.long q5), .second, .val (.long q6), .second, .val (.long q7), .second, .val (.long q8), .second, .val (.long q8), .second] [])) _
        refine XS.iloadN X0.here hx rfl (hb hby own_d5_17) rfl ?_
        show Steps p.tables e below (s₁.setTop (mkF m 18 #[.val (.int p0), .val (.int p1), .val (.int p2), .val (.int p3), .val (.int p4), .val (.long q5), .second, .val (.long q6), .second, .val (.long q7), .second, .val (.long q8), .second, .val (.long q8), .second] [(.int p1)])) _
        refine XS.iconst X0.here hx rfl (hb hby own_d5_18) ?_
        show Steps p.tables e below (s₁.setTop (mkF m 19 #[.val (.int p0), .val (.int p1), .val (.int p2), .val (.int p3), .val (.int p4), .val (.long q5), .second, .val (.long q6), .second, .val (.long q7), .second, .val (.long q8), .second, .val (.long q8), .second] [(.int (1 : Int32)), (.int p1)])) _
        exact kk)
      by_cases hc154 : (1 : Int32) < p1
      · have pre155 : ∀ t, Steps p.tables e below (s₁.setTop (mkF m 24 #[.val (.int p0), .val (.int p1), .val (.int p2), .val (.int p3), .val (.int p4), .val (.long q5), .second, .val (.long q6), .second, .val (.long q7), .second, .val (.long q8), .second, .val (.long q8), .second] [(.int p0), (.int p3)])) t → Steps p.tables e below (s₁.setTop (entryFrame m #[(.int p0), (.int p1), (.int p2), (.int p3), (.int p4), (.long q5), (.long q6), (.long q7), (.long q8)] 15)) t := fun t kk => pre153 t (by
          show Steps p.tables e below (s₁.setTop (mkF m 19 #[.val (.int p0), .val (.int p1), .val (.int p2), .val (.int p3), .val (.int p4), .val (.long q5), .second, .val (.long q6), .second, .val (.long q7), .second, .val (.long q8), .second, .val (.long q8), .second] [(.int (1 : Int32)), (.int p1)])) _
          refine XS.icmpNo X0.here hx rfl (hb hby own_d5_19) rfl (tlt hc154).2.2.2 ?_
          show Steps p.tables e below (s₁.setTop (mkF m 22 #[.val (.int p0), .val (.int p1), .val (.int p2), .val (.int p3), .val (.int p4), .val (.long q5), .second, .val (.long q6), .second, .val (.long q7), .second, .val (.long q8), .second, .val (.long q8), .second] [])) _
          refine XS.iloadN X0.here hx rfl (hb hby own_d5_22) rfl ?_
          show Steps p.tables e below (s₁.setTop (mkF m 23 #[.val (.int p0), .val (.int p1), .val (.int p2), .val (.int p3), .val (.int p4), .val (.long q5), .second, .val (.long q6), .second, .val (.long q7), .second, .val (.long q8), .second, .val (.long q8), .second] [(.int p3)])) _
          refine XS.iloadN X0.here hx rfl (hb hby own_d5_23) rfl ?_
          show Steps p.tables e below (s₁.setTop (mkF m 24 #[.val (.int p0), .val (.int p1), .val (.int p2), .val (.int p3), .val (.int p4), .val (.long q5), .second, .val (.long q6), .second, .val (.long q7), .second, .val (.long q8), .second, .val (.long q8), .second] [(.int p0), (.int p3)])) _
          exact kk)
        by_cases hc156 : p3 = p0
        · have pre157 : ∀ t, Steps p.tables e below (s₁.setTop (mkF m 33 #[.val (.int p0), .val (.int p1), .val (.int p2), .val (.int p3), .val (.int p4), .val (.long q5), .second, .val (.long q6), .second, .val (.long q7), .second, .val (.long q8), .second, .val (.long q6), .second] [(.int (2 : Int32)), (.int p1)])) t → Steps p.tables e below (s₁.setTop (entryFrame m #[(.int p0), (.int p1), (.int p2), (.int p3), (.int p4), (.long q5), (.long q6), (.long q7), (.long q8)] 15)) t := fun t kk => pre155 t (by
            show Steps p.tables e below (s₁.setTop (mkF m 24 #[.val (.int p0), .val (.int p1), .val (.int p2), .val (.int p3), .val (.int p4), .val (.long q5), .second, .val (.long q6), .second, .val (.long q7), .second, .val (.long q8), .second, .val (.long q8), .second] [(.int p0), (.int p3)])) _
            refine XS.icmpNo X0.here hx rfl (hb hby own_d5_24) rfl (teq hc156).2 ?_
            show Steps p.tables e below (s₁.setTop (mkF m 27 #[.val (.int p0), .val (.int p1), .val (.int p2), .val (.int p3), .val (.int p4), .val (.long q5), .second, .val (.long q6), .second, .val (.long q7), .second, .val (.long q8), .second, .val (.long q8), .second] [])) _
            refine XS.lload X0.here hx rfl (hb hby own_d5_27) rfl ?_
            show Steps p.tables e below (s₁.setTop (mkF m 29 #[.val (.int p0), .val (.int p1), .val (.int p2), .val (.int p3), .val (.int p4), .val (.long q5), .second, .val (.long q6), .second, .val (.long q7), .second, .val (.long q8), .second, .val (.long q8), .second] [(.long q6)])) _
            refine XS.lstore X0.here hx rfl (hb hby own_d5_29) rfl (l' := #[.val (.int p0), .val (.int p1), .val (.int p2), .val (.int p3), .val (.int p4), .val (.long q5), .second, .val (.long q6), .second, .val (.long q7), .second, .val (.long q8), .second, .val (.long q6), .second]) rfl ?_
            show Steps p.tables e below (s₁.setTop (mkF m 31 #[.val (.int p0), .val (.int p1), .val (.int p2), .val (.int p3), .val (.int p4), .val (.long q5), .second, .val (.long q6), .second, .val (.long q7), .second, .val (.long q8), .second, .val (.long q6), .second] [])) _
            refine XS.iloadN X0.here hx rfl (hb hby own_d5_31) rfl ?_
            show Steps p.tables e below (s₁.setTop (mkF m 32 #[.val (.int p0), .val (.int p1), .val (.int p2), .val (.int p3), .val (.int p4), .val (.long q5), .second, .val (.long q6), .second, .val (.long q7), .second, .val (.long q8), .second, .val (.long q6), .second] [(.int p1)])) _
            refine XS.iconst X0.here hx rfl (hb hby own_d5_32) ?_
            show Steps p.tables e below (s₁.setTop (mkF m 33 #[.val (.int p0), .val (.int p1), .val (.int p2), .val (.int p3), .val (.int p4), .val (.long q5), .second, .val (.long q6), .second, .val (.long q7), .second, .val (.long q8), .second, .val (.long q6), .second] [(.int (2 : Int32)), (.int p1)])) _
            exact kk)
          by_cases hc158 : (2 : Int32) < p1
          · have pre159 : ∀ t, Steps p.tables e below (s₁.setTop (mkF m 39 #[.val (.int p0), .val (.int p1), .val (.int p2), .val (.int p3), .val (.int p4), .val (.long q5), .second, .val (.long q6), .second, .val (.long q7), .second, .val (.long q8), .second, .val (.long q6), .second] [(.int p0), (.int p4)])) t → Steps p.tables e below (s₁.setTop (entryFrame m #[(.int p0), (.int p1), (.int p2), (.int p3), (.int p4), (.long q5), (.long q6), (.long q7), (.long q8)] 15)) t := fun t kk => pre157 t (by
              show Steps p.tables e below (s₁.setTop (mkF m 33 #[.val (.int p0), .val (.int p1), .val (.int p2), .val (.int p3), .val (.int p4), .val (.long q5), .second, .val (.long q6), .second, .val (.long q7), .second, .val (.long q8), .second, .val (.long q6), .second] [(.int (2 : Int32)), (.int p1)])) _
              refine XS.icmpNo X0.here hx rfl (hb hby own_d5_33) rfl (tlt hc158).2.2.2 ?_
              show Steps p.tables e below (s₁.setTop (mkF m 36 #[.val (.int p0), .val (.int p1), .val (.int p2), .val (.int p3), .val (.int p4), .val (.long q5), .second, .val (.long q6), .second, .val (.long q7), .second, .val (.long q8), .second, .val (.long q6), .second] [])) _
              refine XS.iload X0.here hx rfl (hb hby own_d5_36) rfl ?_
              show Steps p.tables e below (s₁.setTop (mkF m 38 #[.val (.int p0), .val (.int p1), .val (.int p2), .val (.int p3), .val (.int p4), .val (.long q5), .second, .val (.long q6), .second, .val (.long q7), .second, .val (.long q8), .second, .val (.long q6), .second] [(.int p4)])) _
              refine XS.iloadN X0.here hx rfl (hb hby own_d5_38) rfl ?_
              show Steps p.tables e below (s₁.setTop (mkF m 39 #[.val (.int p0), .val (.int p1), .val (.int p2), .val (.int p3), .val (.int p4), .val (.long q5), .second, .val (.long q6), .second, .val (.long q7), .second, .val (.long q8), .second, .val (.long q6), .second] [(.int p0), (.int p4)])) _
              exact kk)
            by_cases hc160 : p4 = p0
            · obtain ⟨fs, hr, hrun, hended, hW, hsame⟩ := X0.leave (v := some (.long q7)) (fun h => by rw [Bd.returns] at h; cases h)
              refine ⟨_, _, pre159 _ ?_, hrun, hended, _, _, rfl, ?_, ⟨_, rfl⟩, hW, hsame.mono (by decide) (by decide)⟩
              · show Steps p.tables e below (s₁.setTop (mkF m 39 #[.val (.int p0), .val (.int p1), .val (.int p2), .val (.int p3), .val (.int p4), .val (.long q5), .second, .val (.long q6), .second, .val (.long q7), .second, .val (.long q8), .second, .val (.long q6), .second] [(.int p0), (.int p4)])) _
                refine XS.icmpNo X0.here hx rfl (hb hby own_d5_39) rfl (teq hc160).2 ?_
                show Steps p.tables e below (s₁.setTop (mkF m 42 #[.val (.int p0), .val (.int p1), .val (.int p2), .val (.int p3), .val (.int p4), .val (.long q5), .second, .val (.long q6), .second, .val (.long q7), .second, .val (.long q8), .second, .val (.long q6), .second] [])) _
                refine XS.lload X0.here hx rfl (hb hby own_d5_42) rfl ?_
                show Steps p.tables e below (s₁.setTop (mkF m 44 #[.val (.int p0), .val (.int p1), .val (.int p2), .val (.int p3), .val (.int p4), .val (.long q5), .second, .val (.long q6), .second, .val (.long q7), .second, .val (.long q8), .second, .val (.long q6), .second] [(.long q7)])) _
                refine XS.lstore X0.here hx rfl (hb hby own_d5_44) rfl (l' := #[.val (.int p0), .val (.int p1), .val (.int p2), .val (.int p3), .val (.int p4), .val (.long q5), .second, .val (.long q6), .second, .val (.long q7), .second, .val (.long q8), .second, .val (.long q7), .second]) rfl ?_
                show Steps p.tables e below (s₁.setTop (mkF m 46 #[.val (.int p0), .val (.int p1), .val (.int p2), .val (.int p3), .val (.int p4), .val (.long q5), .second, .val (.long q6), .second, .val (.long q7), .second, .val (.long q8), .second, .val (.long q7), .second] [])) _
                refine XS.lload X0.here hx rfl (hb hby own_d5_46) rfl ?_
                show Steps p.tables e below (s₁.setTop (mkF m 48 #[.val (.int p0), .val (.int p1), .val (.int p2), .val (.int p3), .val (.int p4), .val (.long q5), .second, .val (.long q6), .second, .val (.long q7), .second, .val (.long q8), .second, .val (.long q7), .second] [(.long q7)])) _
                exact retOut X0 hx (t := .long) (i := .lreturn) Bd.returns rfl (Or.inr (Or.inl ⟨rfl, rfl, _, rfl⟩)) (hb hby own_d5_48) hr
              · show own_Q5 Z p0 p1 p2 p3 p4 q5 q6 q7 q8 h0 n0 _ s₁.heap _
                rw [e0]
                have hv : own_f5 p0 p1 p2 p3 p4 q5 q6 q7 q8 = q7 := by unfold own_f5; rw [if_pos hc134, if_neg hc136, if_pos hc154, if_pos hc156, if_pos hc158, if_pos hc160]
                exact ⟨by rw [hv], N0, rfl⟩
            · obtain ⟨fs, hr, hrun, hended, hW, hsame⟩ := X0.leave (v := some (.long q6)) (fun h => by rw [Bd.returns] at h; cases h)
              refine ⟨_, _, pre159 _ ?_, hrun, hended, _, _, rfl, ?_, ⟨_, rfl⟩, hW, hsame.mono (by decide) (by decide)⟩
              · show Steps p.tables e below (s₁.setTop (mkF m 39 #[.val (.int p0), .val (.int p1), .val (.int p2), .val (.int p3), .val (.int p4), .val (.long q5), .second, .val (.long q6), .second, .val (.long q7), .second, .val (.long q8), .second, .val (.long q6), .second] [(.int p0), (.int p4)])) _
                refine XS.icmpYes X0.here hx rfl (pc0 := 39) (pc' := 46) rfl (hb hby own_d5_39) rfl (feq hc160).2 (by decide) (by decide) ?_
                show Steps p.tables e below (s₁.setTop (mkF m 46 #[.val (.int p0), .val (.int p1), .val (.int p2), .val (.int p3), .val (.int p4), .val (.long q5), .second, .val (.long q6), .second, .val (.long q7), .second, .val (.long q8), .second, .val (.long q6), .second] [])) _
                refine XS.lload X0.here hx rfl (hb hby own_d5_46) rfl ?_
                show Steps p.tables e below (s₁.setTop (mkF m 48 #[.val (.int p0), .val (.int p1), .val (.int p2), .val (.int p3), .val (.int p4), .val (.long q5), .second, .val (.long q6), .second, .val (.long q7), .second, .val (.long q8), .second, .val (.long q6), .second] [(.long q6)])) _
                exact retOut X0 hx (t := .long) (i := .lreturn) Bd.returns rfl (Or.inr (Or.inl ⟨rfl, rfl, _, rfl⟩)) (hb hby own_d5_48) hr
              · show own_Q5 Z p0 p1 p2 p3 p4 q5 q6 q7 q8 h0 n0 _ s₁.heap _
                rw [e0]
                have hv : own_f5 p0 p1 p2 p3 p4 q5 q6 q7 q8 = q6 := by unfold own_f5; rw [if_pos hc134, if_neg hc136, if_pos hc154, if_pos hc156, if_pos hc158, if_neg hc160]
                exact ⟨by rw [hv], N0, rfl⟩
          · obtain ⟨fs, hr, hrun, hended, hW, hsame⟩ := X0.leave (v := some (.long q6)) (fun h => by rw [Bd.returns] at h; cases h)
            refine ⟨_, _, pre157 _ ?_, hrun, hended, _, _, rfl, ?_, ⟨_, rfl⟩, hW, hsame.mono (by decide) (by decide)⟩
            · show Steps p.tables e below (s₁.setTop (mkF m 33 #[.val (.int p0), .val (.int p1), .val (.int p2), .val (.int p3), .val (.int p4), .val (.long q5), .second, .val (.long q6), .second, .val (.long q7), .second, .val (.long q8), .second, .val (.long q6), .second] [(.int (2 : Int32)), (.int p1)])) _
              refine XS.icmpYes X0.here hx rfl (pc0 := 33) (pc' := 46) rfl (hb hby own_d5_33) rfl (flt hc158).2.2.2 (by decide) (by decide) ?_
              show Steps p.tables e below (s₁.setTop (mkF m 46 #[.val (.int p0), .val (.int p1), .val (.int p2), .val (.int p3), .val (.int p4), .val (.long q5), .second, .val (.long q6), .second, .val (.long q7), .second, .val (.long q8), .second, .val (.long q6), .second] [])) _
              refine XS.lload X0.here hx rfl (hb hby own_d5_46) rfl ?_
              show Steps p.tables e below (s₁.setTop (mkF m 48 #[.val (.int p0), .val (.int p1), .val (.int p2), .val (.int p3), .val (.int p4), .val (.long q5), .second, .val (.long q6), .second, .val (.long q7), .second, .val (.long q8), .second, .val (.long q6), .second] [(.long q6)])) _
              exact retOut X0 hx (t := .long) (i := .lreturn) Bd.returns rfl (Or.inr (Or.inl ⟨rfl, rfl, _, rfl⟩)) (hb hby own_d5_48) hr
            · show own_Q5 Z p0 p1 p2 p3 p4 q5 q6 q7 q8 h0 n0 _ s₁.heap _
              rw [e0]
              have hv : own_f5 p0 p1 p2 p3 p4 q5 q6 q7 q8 = q6 := by unfold own_f5; rw [if_pos hc134, if_neg hc136, if_pos hc154, if_pos hc156, if_neg hc158]
              exact ⟨by rw [hv], N0, rfl⟩
        · have pre161 : ∀ t, Steps p.tables e below (s₁.setTop (mkF m 33 #[.val (.int p0), .val (.int p1), .val (.int p2), .val (.int p3), .val (.int p4), .val (.long q5), .second, .val (.long q6), .second, .val (.long q7), .second, .val (.long q8), .second, .val (.long q8), .second] [(.int (2 : Int32)), (.int p1)])) t → Steps p.tables e below (s₁.setTop (entryFrame m #[(.int p0), (.int p1), (.int p2), (.int p3), (.int p4), (.long q5), (.long q6), (.long q7), (.long q8)] 15)) t := fun t kk => pre155 t (by
            show Steps p.tables e below (s₁.setTop (mkF m 24 #[.val (.int p0), .val (.int p1), .val (.int p2), .val (.int p3), .val (.int p4), .val (.long q5), .second, .val (.long q6), .second, .val (.long q7), .second, .val (.long q8), .second, .val (.long q8), .second] [(.int p0), (.int p3)])) _
            refine XS.icmpYes X0.here hx rfl (pc0 := 24) (pc' := 31) rfl (hb hby own_d5_24) rfl (feq hc156).2 (by decide) (by decide) ?_
            show Steps p.tables e below (s₁.setTop (mkF m 31 #[.val (.int p0), .val (.int p1), .val (.int p2), .val (.int p3), .val (.int p4), .val (.long q5), .second, .val (.long q6), .second, .val (.long q7), .second, .val (.long q8), .second, .val (.long q8), .second] [])) _
            refine XS.iloadN X0.here hx rfl (hb hby own_d5_31) rfl ?_
            show Steps p.tables e below (s₁.setTop (mkF m 32 #[.val (.int p0), .val (.int p1), .val (.int p2), .val (.int p3), .val (.int p4), .val (.long q5), .second, .val (.long q6), .second, .val (.long q7), .second, .val (.long q8), .second, .val (.long q8), .second] [(.int p1)])) _
            refine XS.iconst X0.here hx rfl (hb hby own_d5_32) ?_
            show Steps p.tables e below (s₁.setTop (mkF m 33 #[.val (.int p0), .val (.int p1), .val (.int p2), .val (.int p3), .val (.int p4), .val (.long q5), .second, .val (.long q6), .second, .val (.long q7), .second, .val (.long q8), .second, .val (.long q8), .second] [(.int (2 : Int32)), (.int p1)])) _
            exact kk)
          by_cases hc162 : (2 : Int32) < p1
          · have pre163 : ∀ t, Steps p.tables e below (s₁.setTop (mkF m 39 #[.val (.int p0), .val (.int p1), .val (.int p2), .val (.int p3), .val (.int p4), .val (.long q5), .second, .val (.long q6), .second, .val (.long q7), .second, .val (.long q8), .second, .val (.long q8), .second] [(.int p0), (.int p4)])) t → Steps p.tables e below (s₁.setTop (entryFrame m #[(.int p0), (.int p1), (.int p2), (.int p3), (.int p4), (.long q5), (.long q6), (.long q7), (.long q8)] 15)) t := fun t kk => pre161 t (by
              show Steps p.tables e below (s₁.setTop (mkF m 33 #[.val (.int p0), .val (.int p1), .val (.int p2), .val (.int p3), .val (.int p4), .val (.long q5), .second, .val (.long q6), .second, .val (.long q7), .second, .val (.long q8), .second, .val (.long q8), .second] [(.int (2 : Int32)), (.int p1)])) _
              refine XS.icmpNo X0.here hx rfl (hb hby own_d5_33) rfl (tlt hc162).2.2.2 ?_
              show Steps p.tables e below (s₁.setTop (mkF m 36 #[.val (.int p0), .val (.int p1), .val (.int p2), .val (.int p3), .val (.int p4), .val (.long q5), .second, .val (.long q6), .second, .val (.long q7), .second, .val (.long q8), .second, .val (.long q8), .second] [])) _
              refine XS.iload X0.here hx rfl (hb hby own_d5_36) rfl ?_
              show Steps p.tables e below (s₁.setTop (mkF m 38 #[.val (.int p0), .val (.int p1), .val (.int p2), .val (.int p3), .val (.int p4), .val (.long q5), .second, .val (.long q6), .second, .val (.long q7), .second, .val (.long q8), .second, .val (.long q8), .second] [(.int p4)])) _
              refine XS.iloadN X0.here hx rfl (hb hby own_d5_38) rfl ?_
              show Steps p.tables e below (s₁.setTop (mkF m 39 #[.val (.int p0), .val (.int p1), .val (.int p2), .val (.int p3), .val (.int p4), .val (.long q5), .second, .val (.long q6), .second, .val (.long q7), .second, .val (.long q8), .second, .val (.long q8), .second] [(.int p0), (.int p4)])) _
              exact kk)
            by_cases hc164 : p4 = p0
            · obtain ⟨fs, hr, hrun, hended, hW, hsame⟩ := X0.leave (v := some (.long q7)) (fun h => by rw [Bd.returns] at h; cases h)
              refine ⟨_, _, pre163 _ ?_, hrun, hended, _, _, rfl, ?_, ⟨_, rfl⟩, hW, hsame.mono (by decide) (by decide)⟩
              · show Steps p.tables e below (s₁.setTop (mkF m 39 #[.val (.int p0), .val (.int p1), .val (.int p2), .val (.int p3), .val (.int p4), .val (.long q5), .second, .val (.long q6), .second, .val (.long q7), .second, .val (.long q8), .second, .val (.long q8), .second] [(.int p0), (.int p4)])) _
                refine XS.icmpNo X0.here hx rfl (hb hby own_d5_39) rfl (teq hc164).2 ?_
                show Steps p.tables e below (s₁.setTop (mkF m 42 #[.val (.int p0), .val (.int p1), .val (.int p2), .val (.int p3), .val (.int p4), .val (.long q5), .second, .val (.long q6), .second, .val (.long q7), .second, .val (.long q8), .second, .val (.long q8), .second] [])) _
                refine XS.lload X0.here hx rfl (hb hby own_d5_42) rfl ?_
                show Steps p.tables e below (s₁.setTop (mkF m 44 #[.val (.int p0), .val (.int p1), .val (.int p2), .val (.int p3), .val (.int p4), .val (.long q5), .second, .val (.long q6), .second, .val (.long q7), .second, .val (.long q8), .second, .val (.long q8), .second] [(.long q7)])) _
                refine XS.lstore X0.here hx rfl (hb hby own_d5_44) rfl (l' := #[.val (.int p0), .val (.int p1), .val (.int p2), .val (.int p3), .val (.int p4), .val (.long q5), .second, .val (.long q6), .second, .val (.long q7), .second, .val (.long q8), .second, .val (.long q7), .second]) rfl ?_
                show Steps p.tables e below (s₁.setTop (mkF m 46 #[.val (.int p0), .val (.int p1), .val (.int p2), .val (.int p3), .val (.int p4), .val (.long q5), .second, .val (.long q6), .second, .val (.long q7), .second, .val (.long q8), .second, .val (.long q7), .second] [])) _
                refine XS.lload X0.here hx rfl (hb hby own_d5_46) rfl ?_
                show Steps p.tables e below (s₁.setTop (mkF m 48 #[.val (.int p0), .val (.int p1), .val (.int p2), .val (.int p3), .val (.int p4), .val (.long q5), .second, .val (.long q6), .second, .val (.long q7), .second, .val (.long q8), .second, .val (.long q7), .second] [(.long q7)])) _
                exact retOut X0 hx (t := .long) (i := .lreturn) Bd.returns rfl (Or.inr (Or.inl ⟨rfl, rfl, _, rfl⟩)) (hb hby own_d5_48) hr
              · show own_Q5 Z p0 p1 p2 p3 p4 q5 q6 q7 q8 h0 n0 _ s₁.heap _
                rw [e0]
                have hv : own_f5 p0 p1 p2 p3 p4 q5 q6 q7 q8 = q7 := by unfold own_f5; rw [if_pos hc134, if_neg hc136, if_pos hc154, if_neg hc156, if_pos hc162, if_pos hc164]
                exact ⟨by rw [hv], N0, rfl⟩
            · obtain ⟨fs, hr, hrun, hended, hW, hsame⟩ := X0.leave (v := some (.long q8)) (fun h => by rw [Bd.returns] at h; cases h)
              refine ⟨_, _, pre163 _ ?_, hrun, hended, _, _, rfl, ?_, ⟨_, rfl⟩, hW, hsame.mono (by decide) (by decide)⟩
              · show Steps p.tables e below (s₁.setTop (mkF m 39 #[.val (.int p0), .val (.int p1), .val (.int p2), .val (.int p3), .val (.int p4), .val (.long q5), .second, .val (.long q6), .second, .val (.long q7), .second, .val (.long q8), .second, .val (.long q8), .second] [(.int p0), (.int p4)])) _
                refine XS.icmpYes X0.here hx rfl (pc0 := 39) (pc' := 46) rfl (hb hby own_d5_39) rfl (feq hc164).2 (by decide) (by decide) ?_
                show Steps p.tables e below (s₁.setTop (mkF m 46 #[.val (.int p0), .val (.int p1), .val (.int p2), .val (.int p3), .val (.int p4), .val (.long q5), .second, .val (.long q6), .second, .val (.long q7), .second, .val (.long q8), .second, .val (.long q8), .second] [])) _
                refine XS.lload X0.here hx rfl (hb hby own_d5_46) rfl ?_
                show Steps p.tables e below (s₁.setTop (mkF m 48 #[.val (.int p0), .val (.int p1), .val (.int p2), .val (.int p3), .val (.int p4), .val (.long q5), .second, .val (.long q6), .second, .val (.long q7), .second, .val (.long q8), .second, .val (.long q8), .second] [(.long q8)])) _
                exact retOut X0 hx (t := .long) (i := .lreturn) Bd.returns rfl (Or.inr (Or.inl ⟨rfl, rfl, _, rfl⟩)) (hb hby own_d5_48) hr
              · show own_Q5 Z p0 p1 p2 p3 p4 q5 q6 q7 q8 h0 n0 _ s₁.heap _
                rw [e0]
                have hv : own_f5 p0 p1 p2 p3 p4 q5 q6 q7 q8 = q8 := by unfold own_f5; rw [if_pos hc134, if_neg hc136, if_pos hc154, if_neg hc156, if_pos hc162, if_neg hc164]
                exact ⟨by rw [hv], N0, rfl⟩
          · obtain ⟨fs, hr, hrun, hended, hW, hsame⟩ := X0.leave (v := some (.long q8)) (fun h => by rw [Bd.returns] at h; cases h)
            refine ⟨_, _, pre161 _ ?_, hrun, hended, _, _, rfl, ?_, ⟨_, rfl⟩, hW, hsame.mono (by decide) (by decide)⟩
            · show Steps p.tables e below (s₁.setTop (mkF m 33 #[.val (.int p0), .val (.int p1), .val (.int p2), .val (.int p3), .val (.int p4), .val (.long q5), .second, .val (.long q6), .second, .val (.long q7), .second, .val (.long q8), .second, .val (.long q8), .second] [(.int (2 : Int32)), (.int p1)])) _
              refine XS.icmpYes X0.here hx rfl (pc0 := 33) (pc' := 46) rfl (hb hby own_d5_33) rfl (flt hc162).2.2.2 (by decide) (by decide) ?_
              show Steps p.tables e below (s₁.setTop (mkF m 46 #[.val (.int p0), .val (.int p1), .val (.int p2), .val (.int p3), .val (.int p4), .val (.long q5), .second, .val (.long q6), .second, .val (.long q7), .second, .val (.long q8), .second, .val (.long q8), .second] [])) _
              refine XS.lload X0.here hx rfl (hb hby own_d5_46) rfl ?_
              show Steps p.tables e below (s₁.setTop (mkF m 48 #[.val (.int p0), .val (.int p1), .val (.int p2), .val (.int p3), .val (.int p4), .val (.long q5), .second, .val (.long q6), .second, .val (.long q7), .second, .val (.long q8), .second, .val (.long q8), .second] [(.long q8)])) _
              exact retOut X0 hx (t := .long) (i := .lreturn) Bd.returns rfl (Or.inr (Or.inl ⟨rfl, rfl, _, rfl⟩)) (hb hby own_d5_48) hr
            · show own_Q5 Z p0 p1 p2 p3 p4 q5 q6 q7 q8 h0 n0 _ s₁.heap _
              rw [e0]
              have hv : own_f5 p0 p1 p2 p3 p4 q5 q6 q7 q8 = q8 := by unfold own_f5; rw [if_pos hc134, if_neg hc136, if_pos hc154, if_neg hc156, if_neg hc162]
              exact ⟨by rw [hv], N0, rfl⟩
      · have pre165 : ∀ t, Steps p.tables e below (s₁.setTop (mkF m 33 #[.val (.int p0), .val (.int p1), .val (.int p2), .val (.int p3), .val (.int p4), .val (.long q5), .second, .val (.long q6), .second, .val (.long q7), .second, .val (.long q8), .second, .val (.long q8), .second] [(.int (2 : Int32)), (.int p1)])) t → Steps p.tables e below (s₁.setTop (entryFrame m #[(.int p0), (.int p1), (.int p2), (.int p3), (.int p4), (.long q5), (.long q6), (.long q7), (.long q8)] 15)) t := fun t kk => pre153 t (by
          show Steps p.tables e below (s₁.setTop (mkF m 19 #[.val (.int p0), .val (.int p1), .val (.int p2), .val (.int p3), .val (.int p4), .val (.long q5), .second, .val (.long q6), .second, .val (.long q7), .second, .val (.long q8), .second, .val (.long q8), .second] [(.int (1 : Int32)), (.int p1)])) _
          refine XS.icmpYes X0.here hx rfl (pc0 := 19) (pc' := 31) rfl (hb hby own_d5_19) rfl (flt hc154).2.2.2 (by decide) (by decide) ?_
          show Steps p.tables e below (s₁.setTop (mkF m 31 #[.val (.int p0), .val (.int p1), .val (.int p2), .val (.int p3), .val (.int p4), .val (.long q5), .second, .val (.long q6), .second, .val (.long q7), .second, .val (.long q8), .second, .val (.long q8), .second] [])) _
          refine XS.iloadN X0.here hx rfl (hb hby own_d5_31) rfl ?_
          show Steps p.tables e below (s₁.setTop (mkF m 32 #[.val (.int p0), .val (.int p1), .val (.int p2), .val (.int p3), .val (.int p4), .val (.long q5), .second, .val (.long q6), .second, .val (.long q7), .second, .val (.long q8), .second, .val (.long q8), .second] [(.int p1)])) _
          refine XS.iconst X0.here hx rfl (hb hby own_d5_32) ?_
          show Steps p.tables e below (s₁.setTop (mkF m 33 #[.val (.int p0), .val (.int p1), .val (.int p2), .val (.int p3), .val (.int p4), .val (.long q5), .second, .val (.long q6), .second, .val (.long q7), .second, .val (.long q8), .second, .val (.long q8), .second] [(.int (2 : Int32)), (.int p1)])) _
          exact kk)
        by_cases hc166 : (2 : Int32) < p1
        · have pre167 : ∀ t, Steps p.tables e below (s₁.setTop (mkF m 39 #[.val (.int p0), .val (.int p1), .val (.int p2), .val (.int p3), .val (.int p4), .val (.long q5), .second, .val (.long q6), .second, .val (.long q7), .second, .val (.long q8), .second, .val (.long q8), .second] [(.int p0), (.int p4)])) t → Steps p.tables e below (s₁.setTop (entryFrame m #[(.int p0), (.int p1), (.int p2), (.int p3), (.int p4), (.long q5), (.long q6), (.long q7), (.long q8)] 15)) t := fun t kk => pre165 t (by
            show Steps p.tables e below (s₁.setTop (mkF m 33 #[.val (.int p0), .val (.int p1), .val (.int p2), .val (.int p3), .val (.int p4), .val (.long q5), .second, .val (.long q6), .second, .val (.long q7), .second, .val (.long q8), .second, .val (.long q8), .second] [(.int (2 : Int32)), (.int p1)])) _
            refine XS.icmpNo X0.here hx rfl (hb hby own_d5_33) rfl (tlt hc166).2.2.2 ?_
            show Steps p.tables e below (s₁.setTop (mkF m 36 #[.val (.int p0), .val (.int p1), .val (.int p2), .val (.int p3), .val (.int p4), .val (.long q5), .second, .val (.long q6), .second, .val (.long q7), .second, .val (.long q8), .second, .val (.long q8), .second] [])) _
            refine XS.iload X0.here hx rfl (hb hby own_d5_36) rfl ?_
            show Steps p.tables e below (s₁.setTop (mkF m 38 #[.val (.int p0), .val (.int p1), .val (.int p2), .val (.int p3), .val (.int p4), .val (.long q5), .second, .val (.long q6), .second, .val (.long q7), .second, .val (.long q8), .second, .val (.long q8), .second] [(.int p4)])) _
            refine XS.iloadN X0.here hx rfl (hb hby own_d5_38) rfl ?_
            show Steps p.tables e below (s₁.setTop (mkF m 39 #[.val (.int p0), .val (.int p1), .val (.int p2), .val (.int p3), .val (.int p4), .val (.long q5), .second, .val (.long q6), .second, .val (.long q7), .second, .val (.long q8), .second, .val (.long q8), .second] [(.int p0), (.int p4)])) _
            exact kk)
          by_cases hc168 : p4 = p0
          · obtain ⟨fs, hr, hrun, hended, hW, hsame⟩ := X0.leave (v := some (.long q7)) (fun h => by rw [Bd.returns] at h; cases h)
            refine ⟨_, _, pre167 _ ?_, hrun, hended, _, _, rfl, ?_, ⟨_, rfl⟩, hW, hsame.mono (by decide) (by decide)⟩
            · show Steps p.tables e below (s₁.setTop (mkF m 39 #[.val (.int p0), .val (.int p1), .val (.int p2), .val (.int p3), .val (.int p4), .val (.long q5), .second, .val (.long q6), .second, .val (.long q7), .second, .val (.long q8), .second, .val (.long q8), .second] [(.int p0), (.int p4)])) _
              refine XS.icmpNo X0.here hx rfl (hb hby own_d5_39) rfl (teq hc168).2 ?_
              show Steps p.tables e below (s₁.setTop (mkF m 42 #[.val (.int p0), .val (.int p1), .val (.int p2), .val (.int p3), .val (.int p4), .val (.long q5), .second, .val (.long q6), .second, .val (.long q7), .second, .val (.long q8), .second, .val (.long q8), .second] [])) _
              refine XS.lload X0.here hx rfl (hb hby own_d5_42) rfl ?_
              show Steps p.tables e below (s₁.setTop (mkF m 44 #[.val (.int p0), .val (.int p1), .val (.int p2), .val (.int p3), .val (.int p4), .val (.long q5), .second, .val (.long q6), .second, .val (.long q7), .second, .val (.long q8), .second, .val (.long q8), .second] [(.long q7)])) _
              refine XS.lstore X0.here hx rfl (hb hby own_d5_44) rfl (l' := #[.val (.int p0), .val (.int p1), .val (.int p2), .val (.int p3), .val (.int p4), .val (.long q5), .second, .val (.long q6), .second, .val (.long q7), .second, .val (.long q8), .second, .val (.long q7), .second]) rfl ?_
              show Steps p.tables e below (s₁.setTop (mkF m 46 #[.val (.int p0), .val (.int p1), .val (.int p2), .val (.int p3), .val (.int p4), .val (.long q5), .second, .val (.long q6), .second, .val (.long q7), .second, .val (.long q8), .second, .val (.long q7), .second] [])) _
              refine XS.lload X0.here hx rfl (hb hby own_d5_46) rfl ?_
              show Steps p.tables e below (s₁.setTop (mkF m 48 #[.val (.int p0), .val (.int p1), .val (.int p2), .val (.int p3), .val (.int p4), .val (.long q5), .second, .val (.long q6), .second, .val (.long q7), .second, .val (.long q8), .second, .val (.long q7), .second] [(.long q7)])) _
              exact retOut X0 hx (t := .long) (i := .lreturn) Bd.returns rfl (Or.inr (Or.inl ⟨rfl, rfl, _, rfl⟩)) (hb hby own_d5_48) hr
            · show own_Q5 Z p0 p1 p2 p3 p4 q5 q6 q7 q8 h0 n0 _ s₁.heap _
              rw [e0]
              have hv : own_f5 p0 p1 p2 p3 p4 q5 q6 q7 q8 = q7 := by unfold own_f5; rw [if_pos hc134, if_neg hc136, if_neg hc154, if_pos hc166, if_pos hc168]
              exact ⟨by rw [hv], N0, rfl⟩
          · obtain ⟨fs, hr, hrun, hended, hW, hsame⟩ := X0.leave (v := some (.long q8)) (fun h => by rw [Bd.returns] at h; cases h)
            refine ⟨_, _, pre167 _ ?_, hrun, hended, _, _, rfl, ?_, ⟨_, rfl⟩, hW, hsame.mono (by decide) (by decide)⟩
            · show Steps p.tables e below (s₁.setTop (mkF m 39 #[.val (.int p0), .val (.int p1), .val (.int p2), .val (.int p3), .val (.int p4), .val (.long q5), .second, .val (.long q6), .second, .val (.long q7), .second, .val (.long q8), .second, .val (.long q8), .second] [(.int p0), (.int p4)])) _
              refine XS.icmpYes X0.here hx rfl (pc0 := 39) (pc' := 46) rfl (hb hby own_d5_39) rfl (feq hc168).2 (by decide) (by decide) ?_
              show Steps p.tables e below (s₁.setTop (mkF m 46 #[.val (.int p0), .val (.int p1), .val (.int p2), .val (.int p3), .val (.int p4), .val (.long q5), .second, .val (.long q6), .second, .val (.long q7), .second, .val (.long q8), .second, .val (.long q8), .second] [])) _
              refine XS.lload X0.here hx rfl (hb hby own_d5_46) rfl ?_
              show Steps p.tables e below (s₁.setTop (mkF m 48 #[.val (.int p0), .val (.int p1), .val (.int p2), .val (.int p3), .val (.int p4), .val (.long q5), .second, .val (.long q6), .second, .val (.long q7), .second, .val (.long q8), .second, .val (.long q8), .second] [(.long q8)])) _
              exact retOut X0 hx (t := .long) (i := .lreturn) Bd.returns rfl (Or.inr (Or.inl ⟨rfl, rfl, _, rfl⟩)) (hb hby own_d5_48) hr
            · show own_Q5 Z p0 p1 p2 p3 p4 q5 q6 q7 q8 h0 n0 _ s₁.heap _
              rw [e0]
              have hv : own_f5 p0 p1 p2 p3 p4 q5 q6 q7 q8 = q8 := by unfold own_f5; rw [if_pos hc134, if_neg hc136, if_neg hc154, if_pos hc166, if_neg hc168]
              exact ⟨by rw [hv], N0, rfl⟩
        · obtain ⟨fs, hr, hrun, hended, hW, hsame⟩ := X0.leave (v := some (.long q8)) (fun h => by rw [Bd.returns] at h; cases h)
          refine ⟨_, _, pre165 _ ?_, hrun, hended, _, _, rfl, ?_, ⟨_, rfl⟩, hW, hsame.mono (by decide) (by decide)⟩
          · show Steps p.tables e below (s₁.setTop (mkF m 33 #[.val (.int p0), .val (.int p1), .val (.int p2), .val (.int p3), .val (.int p4), .val (.long q5), .second, .val (.long q6), .second, .val (.long q7), .second, .val (.long q8), .second, .val (.long q8), .second] [(.int (2 : Int32)), (.int p1)])) _
            refine XS.icmpYes X0.here hx rfl (pc0 := 33) (pc' := 46) rfl (hb hby own_d5_33) rfl (flt hc166).2.2.2 (by decide) (by decide) ?_
            show Steps p.tables e below (s₁.setTop (mkF m 46 #[.val (.int p0), .val (.int p1), .val (.int p2), .val (.int p3), .val (.int p4), .val (.long q5), .second, .val (.long q6), .second, .val (.long q7), .second, .val (.long q8), .second, .val (.long q8), .second] [])) _
            refine XS.lload X0.here hx rfl (hb hby own_d5_46) rfl ?_
            show Steps p.tables e below (s₁.setTop (mkF m 48 #[.val (.int p0), .val (.int p1), .val (.int p2), .val (.int p3), .val (.int p4), .val (.long q5), .second, .val (.long q6), .second, .val (.long q7), .second, .val (.long q8), .second, .val (.long q8), .second] [(.long q8)])) _
            exact retOut X0 hx (t := .long) (i := .lreturn) Bd.returns rfl (Or.inr (Or.inl ⟨rfl, rfl, _, rfl⟩)) (hb hby own_d5_48) hr
          · show own_Q5 Z p0 p1 p2 p3 p4 q5 q6 q7 q8 h0 n0 _ s₁.heap _
            rw [e0]
            have hv : own_f5 p0 p1 p2 p3 p4 q5 q6 q7 q8 = q8 := by unfold own_f5; rw [if_pos hc134, if_neg hc136, if_neg hc154, if_neg hc166]
            exact ⟨by rw [hv], N0, rfl⟩
  · have pre169 : ∀ t, Steps p.tables e below (s₁.setTop (mkF m 19 #[.val (.int p0), .val (.int p1), .val (.int p2), .val (.int p3), .val (.int p4), .val (.long q5), .second, .val (.long q6), .second, .val (.long q7), .second, .val (.long q8), .second, .val (.long q8), .second] [(.int (1 : Int32)), (.int p1)])) t → Steps p.tables e below (s₁.setTop (entryFrame m #[(.int p0), (.int p1), (.int p2), (.int p3), (.int p4), (.long q5), (.long q6), (.long q7), (.long q8)] 15)) t := fun t kk => pre133 t (by
      show Steps p.tables e below (s₁.setTop (mkF m 5 #[.val (.int p0), .val (.int p1), .val (.int p2), .val (.int p3), .val (.int p4), .val (.long q5), .second, .val (.long q6), .second, .val (.long q7), .second, .val (.long q8), .second, .val (.long q8), .second] [(.int p1)])) _
      refine XS.ifYes X0.here hx rfl (pc0 := 5) (pc' := 17) rfl (hb hby own_d5_5) rfl ((if0 _ _).trans (flt hc134).2.2.2) (by decide) (by decide) ?_
      show Steps p.tables e below (s₁.setTop (mkF m 17 #[.val (.int p0), .val (.int p1), .val (.int p2), .val (.int p3), .val (.int p4), .val (.long q5), .second, .val (.long q6), .second, .val (.long q7), .second, .val (.long q8), .second, .val (.long q8), .second] [])) _
      refine XS.iloadN X0.here hx rfl (hb hby own_d5_17) rfl ?_
      show Steps p.tables e below (s₁.setTop (mkF m 18 #[.val (.int p0), .val (.int p1), .val (.int p2), .val (.int p3), .val (.int p4), .val (.long q5), .second, .val (.long q6), .second, .val (.long q7), .second, .val (.long q8), .second, .val (.long q8), .second] [(.int p1)])) _
      refine XS.iconst X0.here hx rfl (hb hby own_d5_18) ?_
      show Steps p.tables e below (s₁.setTop (mkF m 19 #[.val (.int p0), .val (.int p1), .val (.int p2), .val (.int p3), .val (.int p4), .val (.long q5), .second, .val (.long q6), .second, .val (.long q7), .second, .val (.long q8), .second, .val (.long q8), .second] [(.int (1 : Int32)), (.int p1)])) _
      exact kk)
    by_cases hc170 : (1 : Int32) < p1
    · have pre171 : ∀ t, Steps p.tables e below (s₁.setTop (mkF m 24 #[.val (.int p0), .val (.int p1), .val (.int p2), .val (.int p3), .val (.int p4), .val (.long q5), .second, .val (.long q6), .second, .val (.long q7), .second, .val (.long q8), .second, .val (.long q8), .second] [(.int p0), (.int p3)])) t → Steps p.tables e below (s₁.setTop (entryFrame m #[(.int p0), (.int p1), (.int p2), (.int p3), (.int p4), (.long q5), (.long q6), (.long q7), (.long q8)] 15)) t := fun t kk => pre169 t (by
        show Steps p.tables e below (s₁.setTop (mkF m 19 #[.val (.int p0), .val (.int p1), .val (.int p2), .val (.int p3), .val (.int p4), .val (.long q5), .second, .val (.long q6), .second, .val (.long q7), .second, .val (.long q8), .second, .val (.long q8), .second] [(.int (1 : Int32)), (.int p1)])) _
        refine XS.icmpNo X0.here hx rfl (hb hby own_d5_19) rfl (tlt hc170).2.2.2 ?_
        show Steps p.tables e below (s₁.setTop (mkF m 22 #[.val (.int p0), .val (.int p1), .val (.int p2), .val (.int p3), .val (.int p4), .val (.long q5), .second, .val (.long q6), .second, .val (.long q7), .second, .val (.long q8), .second, .val (.long q8), .second] [])) _
        refine XS.iloadN X0.here hx rfl (hb hby own_d5_22) rfl ?_
        show Steps p.tables e below (s₁.setTop (mkF m 23 #[.val (.int p0), .val (.int p1), .val (.int p2), .val (.int p3), .val (.int p4), .val (.long q5), .second, .val (.long q6), .second, .val (.long q7), .second, .val (.long q8), .second, .val (.long q8), .second] [(.int p3)])) _
        refine XS.iloadN X0.here hx rfl (hb hby own_d5_23) rfl ?_
        show Steps p.tables e below (s₁.setTop (mkF m 24 #[.val (.int p0), .val (.int p1), .val (.int p2), .val (.int p3), .val (.int p4), .val (.long q5), .second, .val (.long q6), .second, .val (.long q7), .second, .val (.long q8), .second, .val (.long q8), .second] [(.int p0), (.int p3)])) _
        exact kk)
      by_cases hc172 : p3 = p0
      · have pre173 : ∀ t, Steps p.tables e below (s₁.setTop (mkF m 33 #[.val (.int p0), .val (.int p1), .val (.int p2), .val (.int p3), .val (.int p4), .val (.long q5), .second, .val (.long q6), .second, .val (.long q7), .second, .val (.long q8), .second, .val (.long q6), .second] [(.int (2 : Int32)), (.int p1)])) t → Steps p.tables e below (s₁.setTop (entryFrame m #[(.int p0), (.int p1), (.int p2), (.int p3), (.int p4), (.long q5), (.long q6), (.long q7), (.long q8)] 15)) t := fun t kk => pre171 t (by
          show Steps p.tables e below (s₁.setTop (mkF m 24 #[.val (.int p0), .val (.int p1), .val (.int p2), .val (.int p3), .val (.int p4), .val (.long q5), .second, .val (.long q6), .second, .val (.long q7), .second, .val (.long q8), .second, .val (.long q8), .second] [(.int p0), (.int p3)])) _
          refine XS.icmpNo X0.here hx rfl (hb hby own_d5_24) rfl (teq hc172).2 ?_
          show Steps p.tables e below (s₁.setTop (mkF m 27 #[.val (.int p0), .val (.int p1), .val (.int p2), .val (.int p3), .val (.int p4), .val (.long q5), .second, .val (.long q6), .second, .val (.long q7), .second, .val (.long q8), .second, .val (.long q8), .second] [])) _
          refine XS.lload X0.here hx rfl (hb hby own_d5_27) rfl ?_
          show Steps p.tables e below (s₁.setTop (mkF m 29 #[.val (.int p0), .val (.int p1), .val (.int p2), .val (.int p3), .val (.int p4), .val (.long q5), .second, .val (.long q6), .second, .val (.long q7), .second, .val (.long q8), .second, .val (.long q8), .second] [(.long q6)])) _
          refine XS.lstore X0.here hx rfl (hb hby own_d5_29) rfl (l' := #[.val (.int p0), .val (.int p1), .val (.int p2), .val (.int p3), .val (.int p4), .val (.long q5), .second, .val (.long q6), .second, .val (.long q7), .second, .val (.long q8), .second, .val (.long q6), .second]) rfl ?_
          show Steps p.tables e below (s₁.setTop (mkF m 31 #[.val (.int p0), .val (.int p1), .val (.int p2), .val (.int p3), .val (.int p4), .val (.long q5), .second, .val (.long q6), .second, .val (.long q7), .second, .val (.long q8), .second, .val (.long q6), .second] [])) _
          refine XS.iloadN X0.here hx rfl (hb hby own_d5_31) rfl ?_
          show Steps p.tables e below (s₁.setTop (mkF m 32 #[.val (.int p0), .val (.int p1), .val (.int p2), .val (.int p3), .val (.int p4), .val (.long q5), .second, .val (.long q6), .second, .val (.long q7), .second, .val (.long q8), .second, .val (.long q6), .second] [(.int p1)])) _
          refine XS.iconst X0.here hx rfl (hb hby own_d5_32) ?_
          show Steps p.tables e below (s₁.setTop (mkF m 33 #[.val (.int p0), .val (.int p1), .val (.int p2), .val (.int p3), .val (.int p4), .val (.long q5), .second, .val (.long q6), .second, .val (.long q7), .second, .val (.long q8), .second, .val (.long q6), .second] [(.int (2 : Int32)), (.int p1)])) _
          exact kk)
        by_cases hc174 : (2 : Int32) < p1
        · have pre175 : ∀ t, Steps p.tables e below (s₁.setTop (mkF m 39 #[.val (.int p0), .val (.int p1), .val (.int p2), .val (.int p3), .val (.int p4), .val (.long q5), .second, .val (.long q6), .second, .val (.long q7), .second, .val (.long q8), .second, .val (.long q6), .second] [(.int p0), (.int p4)])) t → Steps p.tables e below (s₁.setTop (entryFrame m #[(.int p0), (.int p1), (.int p2), (.int p3), (.int p4), (.long q5), (.long q6), (.long q7), (.long q8)] 15)) t := fun t kk => pre173 t (by
            show Steps p.tables e below (s₁.setTop (mkF m 33 #[.val (.int p0), .val (.int p1), .val (.int p2), .val (.int p3), .val (.int p4), .val (.long q5), .second, .val (.long q6), .second, .val (.long q7), .second, .val (.long q8), .second, .val (.long q6), .second] [(.int (2 : Int32)), (.int p1)])) _
            refine XS.icmpNo X0.here hx rfl (hb hby own_d5_33) rfl (tlt hc174).2.2.2 ?_
            show Steps p.tables e below (s₁.setTop (mkF m 36 #[.val (.int p0), .val (.int p1), .val (.int p2), .val (.int p3), .val (.int p4), .val (.long q5), .second, .val (.long q6), .second, .val (.long q7), .second, .val (.long q8), .second, .val (.long q6), .second] [])) _
            refine XS.iload X0.here hx rfl (hb hby own_d5_36) rfl ?_
            show Steps p.tables e below (s₁.setTop (mkF m 38 #[.val (.int p0), .val (.int p1), .val (.int p2), .val (.int p3), .val (.int p4), .val (.long q5), .second, .val (.long q6), .second, .val (.long q7), .second, .val (.long q8), .second, .val (.long q6), .second] [(.int p4)])) _
            refine XS.iloadN X0.here hx rfl (hb hby own_d5_38) rfl ?_
            show Steps p.tables e below (s₁.setTop (mkF m 39 #[.val (.int p0), .val (.int p1), .val (.int p2), .val (.int p3), .val (.int p4), .val (.long q5), .second, .val (.long q6), .second, .val (.long q7), .second, .val (.long q8), .second, .val (.long q6), .second] [(.int p0), (.int p4)])) _
            exact kk)
          by_cases hc176 : p4 = p0
          · obtain ⟨fs, hr, hrun, hended, hW, hsame⟩ := X0.leave (v := some (.long q7)) (fun h => by rw [Bd.returns] at h; cases h)
            refine ⟨_, _, pre175 _ ?_, hrun, hended, _, _, rfl, ?_, ⟨_, rfl⟩, hW, hsame.mono (by decide) (by decide)⟩
            · show Steps p.tables e below (s₁.setTop (mkF m 39 #[.val (.int p0), .val (.int p1), .val (.int p2), .val (.int p3), .val (.int p4), .val (.long q5), .second, .val (.long q6), .second, .val (.long q7), .second, .val (.long q8), .second, .val (.long q6), .second] [(.int p0), (.int p4)])) _
              refine XS.icmpNo X0.here hx rfl (hb hby own_d5_39) rfl (teq hc176).2 ?_
              show Steps p.tables e below (s₁.setTop (mkF m 42 #[.val (.int p0), .val (.int p1), .val (.int p2), .val (.int p3), .val (.int p4), .val (.long q5), .second, .val (.long q6), .second, .val (.long q7), .second, .val (.long q8), .second, .val (.long q6), .second] [])) _
              refine XS.lload X0.here hx rfl (hb hby own_d5_42) rfl ?_
              show Steps p.tables e below (s₁.setTop (mkF m 44 #[.val (.int p0), .val (.int p1), .val (.int p2), .val (.int p3), .val (.int p4), .val (.long q5), .second, .val (.long q6), .second, .val (.long q7), .second, .val (.long q8), .second, .val (.long q6), .second] [(.long q7)])) _
              refine XS.lstore X0.here hx rfl (hb hby own_d5_44) rfl (l' := #[.val (.int p0), .val (.int p1), .val (.int p2), .val (.int p3), .val (.int p4), .val (.long q5), .second, .val (.long q6), .second, .val (.long q7), .second, .val (.long q8), .second, .val (.long q7), .second]) rfl ?_
              show Steps p.tables e below (s₁.setTop (mkF m 46 #[.val (.int p0), .val (.int p1), .val (.int p2), .val (.int p3), .val (.int p4), .val (.long q5), .second, .val (.long q6), .second, .val (.long q7), .second, .val (.long q8), .second, .val (.long q7), .second] [])) _
              refine XS.lload X0.here hx rfl (hb hby own_d5_46) rfl ?_
              show Steps p.tables e below (s₁.setTop (mkF m 48 #[.val (.int p0), .val (.int p1), .val (.int p2), .val (.int p3), .val (.int p4), .val (.long q5), .second, .val (.long q6), .second, .val (.long q7), .second, .val (.long q8), .second, .val (.long q7), .second] [(.long q7)])) _
              exact retOut X0 hx (t := .long) (i := .lreturn) Bd.returns rfl (Or.inr (Or.inl ⟨rfl, rfl, _, rfl⟩)) (hb hby own_d5_48) hr
            · show own_Q5 Z p0 p1 p2 p3 p4 q5 q6 q7 q8 h0 n0 _ s₁.heap _
              rw [e0]
              have hv : own_f5 p0 p1 p2 p3 p4 q5 q6 q7 q8 = q7 := by unfold own_f5; rw [if_neg hc134, if_pos hc170, if_pos hc172, if_pos hc174, if_pos hc176]
              exact ⟨by rw [hv], N0, rfl⟩
          · obtain ⟨fs, hr, hrun, hended, hW, hsame⟩ := X0.leave (v := some (.long q6)) (fun h => by rw [Bd.returns] at h; cases h)
            refine ⟨_, _, pre175 _ ?_, hrun, hended, _, _, rfl, ?_, ⟨_, rfl⟩, hW, hsame.mono (by decide) (by decide)⟩
            · show Steps p.tables e below (s₁.setTop (mkF m 39 #[.val (.int p0), .val (.int p1), .val (.int p2), .val (.int p3), .val (.int p4), .val (.long q5), .second, .val (.long q6), .second, .val (.long q7), .second, .val (.long q8), .second, .val (.long q6), .second] [(.int p0), (.int p4)])) _
              refine XS.icmpYes X0.here hx rfl (pc0 := 39) (pc' := 46) rfl (hb hby own_d5_39) rfl (feq hc176).2 (by decide) (by decide) ?_
              show Steps p.tables e below (s₁.setTop (mkF m 46 #[.val (.int p0), .val (.int p1), .val (.int p2), .val (.int p3), .val (.int p4), .val (.long q5), .second, .val (.long q6), .second, .val (.long q7), .second, .val (.long q8), .second, .val (.long q6), .second] [])) _
              refine XS.lload X0.here hx rfl (hb hby own_d5_46) rfl ?_
              show Steps p.tables e below (s₁.setTop (mkF m 48 #[.val (.int p0), .val (.int p1), .val (.int p2), .val (.int p3), .val (.int p4), .val (.long q5), .second, .val (.long q6), .second, .val (.long q7), .second, .val (.long q8), .second, .val (.long q6), .second] [(.long q6)])) _
              exact retOut X0 hx (t := .long) (i := .lreturn) Bd.returns rfl (Or.inr (Or.inl ⟨rfl, rfl, _, rfl⟩)) (hb hby own_d5_48) hr
            · show own_Q5 Z p0 p1 p2 p3 p4 q5 q6 q7 q8 h0 n0 _ s₁.heap _
              rw [e0]
              have hv : own_f5 p0 p1 p2 p3 p4 q5 q6 q7 q8 = q6 := by unfold own_f5; rw [if_neg hc134, if_pos hc170, if_pos hc172, if_pos hc174, if_neg hc176]
              exact ⟨by rw [hv], N0, rfl⟩
        · obtain ⟨fs, hr, hrun, hended, hW, hsame⟩ := X0.leave (v := some (.long q6)) (fun h => by rw [Bd.returns] at h; cases h)
          refine ⟨_, _, pre173 _ ?_, hrun, hended, _, _, rfl, ?_, ⟨_, rfl⟩, hW, hsame.mono (by decide) (by decide)⟩
          · show Steps p.tables e below (s₁.setTop (mkF m 33 #[.val (.int p0), .val (.int p1), .val (.int p2), .val (.int p3), .val (.int p4), .val (.long q5), .second, .val (.long q6), .second, .val (.long q7), .second, .val (.long q8), .second, .val (.long q6), .second] [(.int (2 : Int32)), (.int p1)])) _
            refine XS.icmpYes X0.here hx rfl (pc0 := 33) (pc' := 46) rfl (hb hby own_d5_33) rfl (flt hc174).2.2.2 (by decide) (by decide) ?_
            show Steps p.tables e below (s₁.setTop (mkF m 46 #[.val (.int p0), .val (.int p1), .val (.int p2), .val (.int p3), .val (.int p4), .val (.long q5), .second, .val (.long q6), .second, .val (.long q7), .second, .val (.long q8), .second, .val (.long q6), .second] [])) _
            refine XS.lload X0.here hx rfl (hb hby own_d5_46) rfl ?_
            show Steps p.tables e below (s₁.setTop (mkF m 48 #[.val (.int p0), .val (.int p1), .val (.int p2), .val (.int p3), .val (.int p4), .val (.long q5), .second, .val (.long q6), .second, .val (.long q7), .second, .val (.long q8), .second, .val (.long q6), .second] [(.long q6)])) _
            exact retOut X0 hx (t := .long) (i := .lreturn) Bd.returns rfl (Or.inr (Or.inl ⟨rfl, rfl, _, rfl⟩)) (hb hby own_d5_48) hr
          · show own_Q5 Z p0 p1 p2 p3 p4 q5 q6 q7 q8 h0 n0 _ s₁.heap _
            rw [e0]
            have hv : own_f5 p0 p1 p2 p3 p4 q5 q6 q7 q8 = q6 := by unfold own_f5; rw [if_neg hc134, if_pos hc170, if_pos hc172, if_neg hc174]
            exact ⟨by rw [hv], N0, rfl⟩
      · have pre177 : ∀ t, Steps p.tables e below (s₁.setTop (mkF m 33 #[.val (.int p0), .val (.int p1), .val (.int p2), .val (.int p3), .val (.int p4), .val (.long q5), .second, .val (.long q6), .second, .val (.long q7), .second, .val (.long q8), .second, .val (.long q8), .second] [(.int (2 : Int32)), (.int p1)])) t → Steps p.tables e below (s₁.setTop (entryFrame m #[(.int p0), (.int p1), (.int p2), (.int p3), (.int p4), (.long q5), (.long q6), (.long q7), (.long q8)] 15)) t := fun t kk => pre171 t (by
          show Steps p.tables e below (s₁.setTop (mkF m 24 #[.val (.int p0), .val (.int p1), .val (.int p2), .val (.int p3), .val (.int p4), .val (.long q5), .second, .val (.long q6), .second, .val (.long q7), .second, .val (.long q8), .second, .val (.long q8), .second] [(.int p0), (.int p3)])) _
          refine XS.icmpYes X0.here hx rfl (pc0 := 24) (pc' := 31) rfl (hb hby own_d5_24) rfl (feq hc172).2 (by decide) (by decide) ?_
          show Steps p.tables e below (s₁.setTop (mkF m 31 #[.val (.int p0), .val (.int p1), .val (.int p2), .val (.int p3), .val (.int p4), .val (.long q5), .second, .val (.long q6), .second, .val (.long q7), .second, .val (.long q8), .second, .val (.long q8), .second] [])) _
          refine XS.iloadN X0.here hx rfl (hb hby own_d5_31) rfl ?_
          show Steps p.tables e below (s₁.setTop (mkF m 32 #[.val (.int p0), .val (.int p1), .val (.int p2), .val (.int p3), .val (.int p4), .val (.long q5), .second, .val (.long q6), .second, .val (.long q7), .second, .val (.long q8), .second, .val (.long q8), .second] [(.int p1)])) _
          refine XS.iconst X0.here hx rfl (hb hby own_d5_32) ?_
          show Steps p.tables e below (s₁.setTop (mkF m 33 #[.val (.int p0), .val (.int p1), .val (.int p2), .val (.int p3), .val (.int p4), .val (.long q5), .second, .val (.long q6), .second, .val (.long q7), .second, .val (.long q8), .second, .val (.long q8), .second] [(.int (2 : Int32)), (.int p1)])) _
          exact kk)
        by_cases hc178 : (2 : Int32) < p1
        · have pre179 : ∀ t, Steps p.tables e below (s₁.setTop (mkF m 39 #[.val (.int p0), .val (.int p1), .val (.int p2), .val (.int p3), .val (.int p4), .val (.long q5), .second, .val (.long q6), .second, .val (.long q7), .second, .val (.long q8), .second, .val (.long q8), .second] [(.int p0), (.int p4)])) t → Steps p.tables e below (s₁.setTop (entryFrame m #[(.int p0), (.int p1), (.int p2), (.int p3), (.int p4), (.long q5), (.long q6), (.long q7), (.long q8)] 15)) t := fun t kk => pre177 t (by
            show Steps p.tables e below (s₁.setTop (mkF m 33 #[.val (.int p0), .val (.int p1), .val (.int p2), .val (.int p3), .val (.int p4), .val (.long q5), .second, .val (.long q6), .second, .val (.long q7), .second, .val (.long q8), .second, .val (.long q8), .second] [(.int (2 : Int32)), (.int p1)])) _
            refine XS.icmpNo X0.here hx rfl (hb hby own_d5_33) rfl (tlt hc178).2.2.2 ?_
            show Steps p.tables e below (s₁.setTop (mkF m 36 #[.val (.int p0), .val (.int p1), .val (.int p2), .val (.int p3), .val (.int p4), .val (.long q5), .second, .val (.long q6), .second, .val (.long q7), .second, .val (.long q8), .second, .val (.long q8), .second] [])) _
            refine XS.iload X0.here hx rfl (hb hby own_d5_36) rfl ?_
            show Steps p.tables e below (s₁.setTop (mkF m 38 #[.val (.int p0), .val (.int p1), .val (.int p2), .val (.int p3), .val (.int p4), .val (.long q5), .second, .val (.long q6), .second, .val (.long q7), .second, .val (.long q8), .second, .val (.long q8), .second] [(.int p4)])) _
            refine XS.iloadN X0.here hx rfl (hb hby own_d5_38) rfl ?_
            show Steps p.tables e below (s₁.setTop (mkF m 39 #[.val (.int p0), .val (.int p1), .val (.int p2), .val (.int p3), .val (.int p4), .val (.long q5), .second, .val (.long q6), .second, .val (.long q7), .second, .val (.long q8), .second, .val (.long q8), .second] [(.int p0), (.int p4)])) _
            exact kk)
          by_cases hc180 : p4 = p0
          · obtain ⟨fs, hr, hrun, hended, hW, hsame⟩ := X0.leave (v := some (.long q7)) (fun h => by rw [Bd.returns] at h; cases h)
            refine ⟨_, _, pre179 _ ?_, hrun, hended, _, _, rfl, ?_, ⟨_, rfl⟩, hW, hsame.mono (by decide) (by decide)⟩
            · show Steps p.tables e below (s₁.setTop (mkF m 39 #[.val (.int p0), .val (.int p1), .val (.int p2), .val (.int p3), .val (.int p4), .val (.long q5), .second, .val (.long q6), .second, .val (.long q7), .second, .val (.long q8), .second, .val (.long q8), .second] [(.int p0), (.int p4)])) _
              refine XS.icmpNo X0.here hx rfl (hb hby own_d5_39) rfl (teq hc180).2 ?_
              show Steps p.tables e below (s₁.setTop (mkF m 42 #[.val (.int p0), .val (.int p1), .val (.int p2), .val (.int p3), .val (.int p4), .val (.long q5), .second, .val (.long q6), .second, .val (.long q7), .second, .val (.long q8), .second, .val (.long q8), .second] [])) _
              refine XS.lload X0.here hx rfl (hb hby own_d5_42) rfl ?_
              show Steps p.tables e below (s₁.setTop (mkF m 44 #[.val (.int p0), .val (.int p1), .val (.int p2), .val (.int p3), .val (.int p4), .val (.long q5), .second, .val (.long q6), .second, .val (.long q7), .second, .val (.long q8), .second, .val (.long q8), .second] [(.long q7)])) _
              refine XS.lstore X0.here hx rfl (hb hby own_d5_44) rfl (l' := #[.val (.int p0), .val (.int p1), .val (.int p2), .val (.int p3), .val (.int p4), .val (.long q5), .second, .val (.long q6), .second, .val (.long q7), .second, .val (.long q8), .second, .val (.long q7), .second]) rfl ?_
              show Steps p.tables e below (s₁.setTop (mkF m 46 #[.val (.int p0), .val (.int p1), .val (.int p2), .val (.int p3), .val (.int p4), .val (.long q5), .second, .val (.long q6), .second, .val (.long q7), .second, .val (.long q8), .second, .val (.long q7), .second] [])) _
              refine XS.lload X0.here hx rfl (hb hby own_d5_46) rfl ?_
              show Steps p.tables e below (s₁.setTop (mkF m 48 #[.val (.int p0), .val (.int p1), .val (.int p2), .val (.int p3), .val (.int p4), .val (.long q5), .second, .val (.long q6), .second, .val (.long q7), .second, .val (.long q8), .second, .val (.long q7), .second] [(.long q7)])) _
              exact retOut X0 hx (t := .long) (i := .lreturn) Bd.returns rfl (Or.inr (Or.inl ⟨rfl, rfl, _, rfl⟩)) (hb hby own_d5_48) hr
            · show own_Q5 Z p0 p1 p2 p3 p4 q5 q6 q7 q8 h0 n0 _ s₁.heap _
              rw [e0]
              have hv : own_f5 p0 p1 p2 p3 p4 q5 q6 q7 q8 = q7 := by unfold own_f5; rw [if_neg hc134, if_pos hc170, if_neg hc172, if_pos hc178, if_pos hc180]
              exact ⟨by rw [hv], N0, rfl⟩
          · obtain ⟨fs, hr, hrun, hended, hW, hsame⟩ := X0.leave (v := some (.long q8)) (fun h => by rw [Bd.returns] at h; cases h)
            refine ⟨_, _, pre179 _ ?_, hrun, hended, _, _, rfl, ?_, ⟨_, rfl⟩, hW, hsame.mono (by decide) (by decide)⟩
            · show Steps p.tables e below (s₁.setTop (mkF m 39 #[.val (.int p0), .val (.int p1), .val (.int p2), .val (.int p3), .val (.int p4), .val (.long q5), .second, .val (.long q6), .second, .val (.long q7), .second, .val (.long q8), .second, .val (.long q8), .second] [(.int p0), (.int p4)])) _
              refine XS.icmpYes X0.here hx rfl (pc0 := 39) (pc' := 46) rfl (hb hby own_d5_39) rfl (feq hc180).2 (by decide) (by decide) ?_
              show Steps p.tables e below (s₁.setTop (mkF m 46 #[.val (.int p0), .val (.int p1), .val (.int p2), .val (.int p3), .val (.int p4), .val (.long q5), .second, .val (.long q6), .second, .val (.long q7), .second, .val (.long q8), .second, .val (.long q8), .second] [])) _
              refine XS.lload X0.here hx rfl (hb hby own_d5_46) rfl ?_
              show Steps p.tables e below (s₁.setTop (mkF m 48 #[.val (.int p0), .val (.int p1), .val (.int p2), .val (.int p3), .val (.int p4), .val (.long q5), .second, .val (.long q6), .second, .val (.long q7), .second, .val (.long q8), .second, .val (.long q8), .second] [(.long q8)])) _
              exact retOut X0 hx (t := .long) (i := .lreturn) Bd.returns rfl (Or.inr (Or.inl ⟨rfl, rfl, _, rfl⟩)) (hb hby own_d5_48) hr
            · show own_Q5 Z p0 p1 p2 p3 p4 q5 q6 q7 q8 h0 n0 _ s₁.heap _
              rw [e0]
              have hv : own_f5 p0 p1 p2 p3 p4 q5 q6 q7 q8 = q8 := by unfold own_f5; rw [if_neg hc134, if_pos hc170, if_neg hc172, if_pos hc178, if_neg hc180]
              exact ⟨by rw [hv], N0, rfl⟩
        · obtain ⟨fs, hr, hrun, hended, hW, hsame⟩ := X0.leave (v := some (.long q8)) (fun h => by rw [Bd.returns] at h; cases h)
          refine ⟨_, _, pre177 _ ?_, hrun, hended, _, _, rfl, ?_, ⟨_, rfl⟩, hW, hsame.mono (by decide) (by decide)⟩
          · show Steps p.tables e below (s₁.setTop (mkF m 33 #[.val (.int p0), .val (.int p1), .val (.int p2), .val (.int p3), .val (.int p4), .val (.long q5), .second, .val (.long q6), .second, .val (.long q7), .second, .val (.long q8), .second, .val (.long q8), .second] [(.int (2 : Int32)), (.int p1)])) _
            refine XS.icmpYes X0.here hx rfl (pc0 := 33) (pc' := 46) rfl (hb hby own_d5_33) rfl (flt hc178).2.2.2 (by decide) (by decide) ?_
            show Steps p.tables e below (s₁.setTop (mkF m 46 #[.val (.int p0), .val (.int p1), .val (.int p2), .val (.int p3), .val (.int p4), .val (.long q5), .second, .val (.long q6), .second, .val (.long q7), .second, .val (.long q8), .second, .val (.long q8), .second] [])) _
            refine XS.lload X0.here hx rfl (hb hby own_d5_46) rfl ?_
            show Steps p.tables e below (s₁.setTop (mkF m 48 #[.val (.int p0), .val (.int p1), .val (.int p2), .val (.int p3), .val (.int p4), .val (.long q5), .second, .val (.long q6), .second, .val (.long q7), .second, .val (.long q8), .second, .val (.long q8), .second] [(.long q8)])) _
            exact retOut X0 hx (t := .long) (i := .lreturn) Bd.returns rfl (Or.inr (Or.inl ⟨rfl, rfl, _, rfl⟩)) (hb hby own_d5_48) hr
          · show own_Q5 Z p0 p1 p2 p3 p4 q5 q6 q7 q8 h0 n0 _ s₁.heap _
            rw [e0]
            have hv : own_f5 p0 p1 p2 p3 p4 q5 q6 q7 q8 = q8 := by unfold own_f5; rw [if_neg hc134, if_pos hc170, if_neg hc172, if_neg hc178]
            exact ⟨by rw [hv], N0, rfl⟩
    · have pre181 : ∀ t, Steps p.tables e below (s₁.setTop (mkF m 33 #[.val (.int p0), .val (.int p1), .val (.int p2), .val (.int p3), .val (.int p4), .val (.long q5), .second, .val (.long q6), .second, .val (.long q7), .second, .val (.long q8), .second, .val (.long q8), .second] [(.int (2 : Int32)), (.int p1)])) t → Steps p.tables e below (s₁.setTop (entryFrame m #[(.int p0), (.int p1), (.int p2), (.int p3), (.int p4), (.long q5), (.long q6), (.long q7), (.long q8)] 15)) t := fun t kk => pre169 t (by
        show Steps p.tables e below (s₁.setTop (mkF m 19 #[.val (.int p0), .val (.int p1), .val (.int p2), .val (.int p3), .val (.int p4), .val (.long q5), .second, .val (.long q6), .second, .val (.long q7), .second, .val (.long q8), .second, .val (.long q8), .second] [(.int (1 : Int32)), (.int p1)])) _
        refine XS.icmpYes X0.here hx rfl (pc0 := 19) (pc' := 31) rfl (hb hby own_d5_19) rfl (flt hc170).2.2.2 (by decide) (by decide) ?_
        show Steps p.tables e below (s₁.setTop (mkF m 31 #[.val (.int p0), .val (.int p1), .val (.int p2), .val (.int p3), .val (.int p4), .val (.long q5), .second, .val (.long q6), .second, .val (.long q7), .second, .val (.long q8), .second, .val (.long q8), .second] [])) _
        refine XS.iloadN X0.here hx rfl (hb hby own_d5_31) rfl ?_
        show Steps p.tables e below (s₁.setTop (mkF m 32 #[.val (.int p0), .val (.int p1), .val (.int p2), .val (.int p3), .val (.int p4), .val (.long q5), .second, .val (.long q6), .second, .val (.long q7), .second, .val (.long q8), .second, .val (.long q8), .second] [(.int p1)])) _
        refine XS.iconst X0.here hx rfl (hb hby own_d5_32) ?_
        show Steps p.tables e below (s₁.setTop (mkF m 33 #[.val (.int p0), .val (.int p1), .val (.int p2), .val (.int p3), .val (.int p4), .val (.long q5), .second, .val (.long q6), .second, .val (.long q7), .second, .val (.long q8), .second, .val (.long q8), .second] [(.int (2 : Int32)), (.int p1)])) _
        exact kk)
      by_cases hc182 : (2 : Int32) < p1
      · have pre183 : ∀ t, Steps p.tables e below (s₁.setTop (mkF m 39 #[.val (.int p0), .val (.int p1), .val (.int p2), .val (.int p3), .val (.int p4), .val (.long q5), .second, .val (.long q6), .second, .val (.long q7), .second, .val (.long q8), .second, .val (.long q8), .second] [(.int p0), (.int p4)])) t → Steps p.tables e below (s₁.setTop (entryFrame m #[(.int p0), (.int p1), (.int p2), (.int p3), (.int p4), (.long q5), (.long q6), (.long q7), (.long q8)] 15)) t := fun t kk => pre181 t (by
          show Steps p.tables e below (s₁.setTop (mkF m 33 #[.val (.int p0), .val (.int p1), .val (.int p2), .val (.int p3), .val (.int p4), .val (.long q5), .second, .val (.long q6), .second, .val (.long q7), .second, .val (.long q8), .second, .val (.long q8), .second] [(.int (2 : Int32)), (.int p1)])) _
          refine XS.icmpNo X0.here hx rfl (hb hby own_d5_33) rfl (tlt hc182).2.2.2 ?_
          show Steps p.tables e below (s₁.setTop (mkF m 36 #[.val (.int p0), .val (.int p1), .val (.int p2), .val (.int p3), .val (.int p4), .val (.long q5), .second, .val (.long q6), .second, .val (.long q7), .second, .val (.long q8), .second, .val (.long q8), .second] [])) _
          refine XS.iload X0.here hx rfl (hb hby own_d5_36) rfl ?_
          show Steps p.tables e below (s₁.setTop (mkF m 38 #[.val (.int p0), .val (.int p1), .val (.int p2), .val (.int p3), .val (.int p4), .val (.long q5), .second, .val (.long q6), .second, .val (.long q7), .second, .val (.long q8), .second, .val (.long q8), .second] [(.int p4)])) _
          refine XS.iloadN X0.here hx rfl (hb hby own_d5_38) rfl ?_
          show Steps p.tables e below (s₁.setTop (mkF m 39 #[.val (.int p0), .val (.int p1), .val (.int p2), .val (.int p3), .val (.int p4), .val (.long q5), .second, .val (.long q6), .second, .val (.long q7), .second, .val (.long q8), .second, .val (.long q8), .second] [(.int p0), (.int p4)])) _
          exact kk)
        by_cases hc184 : p4 = p0
        · obtain ⟨fs, hr, hrun, hended, hW, hsame⟩ := X0.leave (v := some (.long q7)) (fun h => by rw [Bd.returns] at h; cases h)
          refine ⟨_, _, pre183 _ ?_, hrun, hended, _, _, rfl, ?_, ⟨_, rfl⟩, hW, hsame.mono (by decide) (by decide)⟩
          · show Steps p.tables e below (s₁.setTop (mkF m 39 #[.val (.int p0), .val (.int p1), .val (.int p2), .val (.int p3), .val (.int p4), .val (.long q5), .second, .val (.long q6), .second, .val (.long q7), .second, .val (.long q8), .second, .val (.long q8), .second] [(.int p0), (.int p4)])) _
            refine XS.icmpNo X0.here hx rfl (hb hby own_d5_39) rfl (teq hc184).2 ?_
            show Steps p.tables e below (s₁.setTop (mkF m 42 #[.val (.int p0), .val (.int p1), .val (.int p2), .val (.int p3), .val (.int p4), .val (.long q5), .second, .val (.long q6), .second, .val (.long q7), .second, .val (.long q8), .second, .val (.long q8), .second] [])) _
            refine XS.lload X0.here hx rfl (hb hby own_d5_42) rfl ?_
            show Steps p.tables e below (s₁.setTop (mkF m 44 #[.val (.int p0), .val (.int p1), .val (.int p2), .val (.int p3), .val (.int p4), .val (.long q5), .second, .val (.long q6), .second, .val (.long q7), .second, .val (.long q8), .second, .val (.long q8), .second] [(.long q7)])) _
            refine XS.lstore X0.here hx rfl (hb hby own_d5_44) rfl (l' := #[.val (.int p0), .val (.int p1), .val (.int p2), .val (.int p3), .val (.int p4), .val (.long q5), .second, .val (.long q6), .second, .val (.long q7), .second, .val (.long q8), .second, .val (.long q7), .second]) rfl ?_
            show Steps p.tables e below (s₁.setTop (mkF m 46 #[.val (.int p0), .val (.int p1), .val (.int p2), .val (.int p3), .val (.int p4), .val (.long q5), .second, .val (.long q6), .second, .val (.long q7), .second, .val (.long q8), .second, .val (.long q7), .second] [])) _
            refine XS.lload X0.here hx rfl (hb hby own_d5_46) rfl ?_
            show Steps p.tables e below (s₁.setTop (mkF m 48 #[.val (.int p0), .val (.int p1), .val (.int p2), .val (.int p3), .val (.int p4), .val (.long q5), .second, .val (.long q6), .second, .val (.long q7), .second, .val (.long q8), .second, .val (.long q7), .second] [(.long q7)])) _
            exact retOut X0 hx (t := .long) (i := .lreturn) Bd.returns rfl (Or.inr (Or.inl ⟨rfl, rfl, _, rfl⟩)) (hb hby own_d5_48) hr
          · show own_Q5 Z p0 p1 p2 p3 p4 q5 q6 q7 q8 h0 n0 _ s₁.heap _
            rw [e0]
            have hv : own_f5 p0 p1 p2 p3 p4 q5 q6 q7 q8 = q7 := by unfold own_f5; rw [if_neg hc134, if_neg hc170, if_pos hc182, if_pos hc184]
            exact ⟨by rw [hv], N0, rfl⟩
        · obtain ⟨fs, hr, hrun, hended, hW, hsame⟩ := X0.leave (v := some (.long q8)) (fun h => by rw [Bd.returns] at h; cases h)
          refine ⟨_, _, pre183 _ ?_, hrun, hended, _, _, rfl, ?_, ⟨_, rfl⟩, hW, hsame.mono (by decide) (by decide)⟩
          · show Steps p.tables e below (s₁.setTop (mkF m 39 #[.val (.int p0), .val (.int p1), .val (.int p2), .val (.int p3), .val (.int p4), .val (.long q5), .second, .val (.long q6), .second, .val (.long q7), .second, .val (.long q8), .second, .val (.long q8), .second] [(.int p0), (.int p4)])) _
            refine XS.icmpYes X0.here hx rfl (pc0 := 39) (pc' := 46) rfl (hb hby own_d5_39) rfl (feq hc184).2 (by decide) (by decide) ?_
            show Steps p.tables e below (s₁.setTop (mkF m 46 #[.val (.int p0), .val (.int p1), .val (.int p2), .val (.int p3), .val (.int p4), .val (.long q5), .second, .val (.long q6), .second, .val (.long q7), .second, .val (.long q8), .second, .val (.long q8), .second] [])) _
            refine XS.lload X0.here hx rfl (hb hby own_d5_46) rfl ?_
            show Steps p.tables e below (s₁.setTop (mkF m 48 #[.val (.int p0), .val (.int p1), .val (.int p2), .val (.int p3), .val (.int p4), .val (.long q5), .second, .val (.long q6), .second, .val (.long q7), .second, .val (.long q8), .second, .val (.long q8), .second] [(.long q8)])) _
            exact retOut X0 hx (t := .long) (i := .lreturn) Bd.returns rfl (Or.inr (Or.inl ⟨rfl, rfl, _, rfl⟩)) (hb hby own_d5_48) hr
          · show own_Q5 Z p0 p1 p2 p3 p4 q5 q6 q7 q8 h0 n0 _ s₁.heap _
            rw [e0]
            have hv : own_f5 p0 p1 p2 p3 p4 q5 q6 q7 q8 = q8 := by unfold own_f5; rw [if_neg hc134, if_neg hc170, if_pos hc182, if_neg hc184]
            exact ⟨by rw [hv], N0, rfl⟩
      · obtain ⟨fs, hr, hrun, hended, hW, hsame⟩ := X0.leave (v := some (.long q8)) (fun h => by rw [Bd.returns] at h; cases h)
        refine ⟨_, _, pre181 _ ?_, hrun, hended, _, _, rfl, ?_, ⟨_, rfl⟩, hW, hsame.mono (by decide) (by decide)⟩
        · show Steps p.tables e below (s₁.setTop (mkF m 33 #[.val (.int p0), .val (.int p1), .val (.int p2), .val (.int p3), .val (.int p4), .val (.long q5), .second, .val (.long q6), .second, .val (.long q7), .second, .val (.long q8), .second, .val (.long q8), .second] [(.int (2 : Int32)), (.int p1)])) _
          refine XS.icmpYes X0.here hx rfl (pc0 := 33) (pc' := 46) rfl (hb hby own_d5_33) rfl (flt hc182).2.2.2 (by decide) (by decide) ?_
          show Steps p.tables e below (s₁.setTop (mkF m 46 #[.val (.int p0), .val (.int p1), .val (.int p2), .val (.int p3), .val (.int p4), .val (.long q5), .second, .val (.long q6), .second, .val (.long q7), .second, .val (.long q8), .second, .val (.long q8), .second] [])) _
          refine XS.lload X0.here hx rfl (hb hby own_d5_46) rfl ?_
          show Steps p.tables e below (s₁.setTop (mkF m 48 #[.val (.int p0), .val (.int p1), .val (.int p2), .val (.int p3), .val (.int p4), .val (.long q5), .second, .val (.long q6), .second, .val (.long q7), .second, .val (.long q8), .second, .val (.long q8), .second] [(.long q8)])) _
          exact retOut X0 hx (t := .long) (i := .lreturn) Bd.returns rfl (Or.inr (Or.inl ⟨rfl, rfl, _, rfl⟩)) (hb hby own_d5_48) hr
        · show own_Q5 Z p0 p1 p2 p3 p4 q5 q6 q7 q8 h0 n0 _ s₁.heap _
          rw [e0]
          have hv : own_f5 p0 p1 p2 p3 p4 q5 q6 q7 q8 = q8 := by unfold own_f5; rw [if_neg hc134, if_neg hc170, if_neg hc182]
          exact ⟨by rw [hv], N0, rfl⟩
theorem own_f5_cases (p0 : Int32) (p1 : Int32) (p2 : Int32) (p3 : Int32) (p4 : Int32) (q5 : Int64) (q6 : Int64) (q7 : Int64) (q8 : Int64) : ((0 : Int32) < p1 ∧ ((p2 = p0 ∧ (((1 : Int32) < p1 ∧ ((p3 = p0 ∧ (((2 : Int32) < p1 ∧ ((p4 = p0 ∧ (own_f5 p0 p1 p2 p3 p4 q5 q6 q7 q8 = q7)) ∨ (¬ (p4 = p0) ∧ (own_f5 p0 p1 p2 p3 p4 q5 q6 q7 q8 = q6)))) ∨ (¬ ((2 : Int32) < p1) ∧ (own_f5 p0 p1 p2 p3 p4 q5 q6 q7 q8 = q6)))) ∨ (¬ (p3 = p0) ∧ (((2 : Int32) < p1 ∧ ((p4 = p0 ∧ (own_f5 p0 p1 p2 p3 p4 q5 q6 q7 q8 = q7)) ∨ (¬ (p4 = p0) ∧ (own_f5 p0 p1 p2 p3 p4 q5 q6 q7 q8 = q5)))) ∨ (¬ ((2 : Int32) < p1) ∧ (own_f5 p0 p1 p2 p3 p4 q5 q6 q7 q8 = q5)))))) ∨ (¬ ((1 : Int32) < p1) ∧ (((2 : Int32) < p1 ∧ ((p4 = p0 ∧ (own_f5 p0 p1 p2 p3 p4 q5 q6 q7 q8 = q7)) ∨ (¬ (p4 = p0) ∧ (own_f5 p0 p1 p2 p3 p4 q5 q6 q7 q8 = q5)))) ∨ (¬ ((2 : Int32) < p1) ∧ (own_f5 p0 p1 p2 p3 p4 q5 q6 q7 q8 = q5)))))) ∨ (¬ (p2 = p0) ∧ (((1 : Int32) < p1 ∧ ((p3 = p0 ∧ (((2 : Int32) < p1 ∧ ((p4 = p0 ∧ (own_f5 p0 p1 p2 p3 p4 q5 q6 q7 q8 = q7)) ∨ (¬ (p4 = p0) ∧ (own_f5 p0 p1 p2 p3 p4 q5 q6 q7 q8 = q6)))) ∨ (¬ ((2 : Int32) < p1) ∧ (own_f5 p0 p1 p2 p3 p4 q5 q6 q7 q8 = q6)))) ∨ (¬ (p3 = p0) ∧ (((2 : Int32) < p1 ∧ ((p4 = p0 ∧ (own_f5 p0 p1 p2 p3 p4 q5 q6 q7 q8 = q7)) ∨ (¬ (p4 = p0) ∧ (own_f5 p0 p1 p2 p3 p4 q5 q6 q7 q8 = q8)))) ∨ (¬ ((2 : Int32) < p1) ∧ (own_f5 p0 p1 p2 p3 p4 q5 q6 q7 q8 = q8)))))) ∨ (¬ ((1 : Int32) < p1) ∧ (((2 : Int32) < p1 ∧ ((p4 = p0 ∧ (own_f5 p0 p1 p2 p3 p4 q5 q6 q7 q8 = q7)) ∨ (¬ (p4 = p0) ∧ (own_f5 p0 p1 p2 p3 p4 q5 q6 q7 q8 = q8)))) ∨ (¬ ((2 : Int32) < p1) ∧ (own_f5 p0 p1 p2 p3 p4 q5 q6 q7 q8 = q8)))))))) ∨ (¬ ((0 : Int32) < p1) ∧ (((1 : Int32) < p1 ∧ ((p3 = p0 ∧ (((2 : Int32) < p1 ∧ ((p4 = p0 ∧ (own_f5 p0 p1 p2 p3 p4 q5 q6 q7 q8 = q7)) ∨ (¬ (p4 = p0) ∧ (own_f5 p0 p1 p2 p3 p4 q5 q6 q7 q8 = q6)))) ∨ (¬ ((2 : Int32) < p1) ∧ (own_f5 p0 p1 p2 p3 p4 q5 q6 q7 q8 = q6)))) ∨ (¬ (p3 = p0) ∧ (((2 : Int32) < p1 ∧ ((p4 = p0 ∧ (own_f5 p0 p1 p2 p3 p4 q5 q6 q7 q8 = q7)) ∨ (¬ (p4 = p0) ∧ (own_f5 p0 p1 p2 p3 p4 q5 q6 q7 q8 = q8)))) ∨ (¬ ((2 : Int32) < p1) ∧ (own_f5 p0 p1 p2 p3 p4 q5 q6 q7 q8 = q8)))))) ∨ (¬ ((1 : Int32) < p1) ∧ (((2 : Int32) < p1 ∧ ((p4 = p0 ∧ (own_f5 p0 p1 p2 p3 p4 q5 q6 q7 q8 = q7)) ∨ (¬ (p4 = p0) ∧ (own_f5 p0 p1 p2 p3 p4 q5 q6 q7 q8 = q8)))) ∨ (¬ ((2 : Int32) < p1) ∧ (own_f5 p0 p1 p2 p3 p4 q5 q6 q7 q8 = q8)))))) := by
  by_cases cs0 : (0 : Int32) < p1
  · refine Or.inl ⟨cs0, ?_⟩
    by_cases cs1 : p2 = p0
    · refine Or.inl ⟨cs1, ?_⟩
      by_cases cs2 : (1 : Int32) < p1
      · refine Or.inl ⟨cs2, ?_⟩
        by_cases cs3 : p3 = p0
        · refine Or.inl ⟨cs3, ?_⟩
          by_cases cs4 : (2 : Int32) < p1
          · refine Or.inl ⟨cs4, ?_⟩
            by_cases cs5 : p4 = p0
            · refine Or.inl ⟨cs5, ?_⟩
              unfold own_f5; rw [if_pos cs0, if_pos cs1, if_pos cs2, if_pos cs3, if_pos cs4, if_pos cs5]
            · refine Or.inr ⟨cs5, ?_⟩
              unfold own_f5; rw [if_pos cs0, if_pos cs1, if_pos cs2, if_pos cs3, if_pos cs4, if_neg cs5]
          · refine Or.inr ⟨cs4, ?_⟩
            unfold own_f5; rw [if_pos cs0, if_pos cs1, if_pos cs2, if_pos cs3, if_neg cs4]
        · refine Or.inr ⟨cs3, ?_⟩
          by_cases cs4 : (2 : Int32) < p1
          · refine Or.inl ⟨cs4, ?_⟩
            by_cases cs5 : p4 = p0
            · refine Or.inl ⟨cs5, ?_⟩
              unfold own_f5; rw [if_pos cs0, if_pos cs1, if_pos cs2, if_neg cs3, if_pos cs4, if_pos cs5]
            · refine Or.inr ⟨cs5, ?_⟩
              unfold own_f5; rw [if_pos cs0, if_pos cs1, if_pos cs2, if_neg cs3, if_pos cs4, if_neg cs5]
          · refine Or.inr ⟨cs4, ?_⟩
            unfold own_f5; rw [if_pos cs0, if_pos cs1, if_pos cs2, if_neg cs3, if_neg cs4]
      · refine Or.inr ⟨cs2, ?_⟩
        by_cases cs3 : (2 : Int32) < p1
        · refine Or.inl ⟨cs3, ?_⟩
          by_cases cs4 : p4 = p0
          · refine Or.inl ⟨cs4, ?_⟩
            unfold own_f5; rw [if_pos cs0, if_pos cs1, if_neg cs2, if_pos cs3, if_pos cs4]
          · refine Or.inr ⟨cs4, ?_⟩
            unfold own_f5; rw [if_pos cs0, if_pos cs1, if_neg cs2, if_pos cs3, if_neg cs4]
        · refine Or.inr ⟨cs3, ?_⟩
          unfold own_f5; rw [if_pos cs0, if_pos cs1, if_neg cs2, if_neg cs3]
    · refine Or.inr ⟨cs1, ?_⟩
      by_cases cs2 : (1 : Int32) < p1
      · refine Or.inl ⟨cs2, ?_⟩
        by_cases cs3 : p3 = p0
        · refine Or.inl ⟨cs3, ?_⟩
          by_cases cs4 : (2 : Int32) < p1
          · refine Or.inl ⟨cs4, ?_⟩
            by_cases cs5 : p4 = p0
            · refine Or.inl ⟨cs5, ?_⟩
              unfold own_f5; rw [if_pos cs0, if_neg cs1, if_pos cs2, if_pos cs3, if_pos cs4, if_pos cs5]
            · refine Or.inr ⟨cs5, ?_⟩
              unfold own_f5; rw [if_pos cs0, if_neg cs1, if_pos cs2, if_pos cs3, if_pos cs4, if_neg cs5]
          · refine Or.inr ⟨cs4, ?_⟩
            unfold own_f5; rw [if_pos cs0, if_neg cs1, if_pos cs2, if_pos cs3, if_neg cs4]
        · refine Or.inr ⟨cs3, ?_⟩
          by_cases cs4 : (2 : Int32) < p1
          · refine Or.inl ⟨cs4, ?_⟩
            by_cases cs5 : p4 = p0
            · refine Or.inl ⟨cs5, ?_⟩
              unfold own_f5; rw [if_pos cs0, if_neg cs1, if_pos cs2, if_neg cs3, if_pos cs4, if_pos cs5]
            · refine Or.inr ⟨cs5, ?_⟩
              unfold own_f5; rw [if_pos cs0, if_neg cs1, if_pos cs2, if_neg cs3, if_pos cs4, if_neg cs5]
          · refine Or.inr ⟨cs4, ?_⟩
            unfold own_f5; rw [if_pos cs0, if_neg cs1, if_pos cs2, if_neg cs3, if_neg cs4]
      · refine Or.inr ⟨cs2, ?_⟩
        by_cases cs3 : (2 : Int32) < p1
        · refine Or.inl ⟨cs3, ?_⟩
          by_cases cs4 : p4 = p0
          · refine Or.inl ⟨cs4, ?_⟩
            unfold own_f5; rw [if_pos cs0, if_neg cs1, if_neg cs2, if_pos cs3, if_pos cs4]
          · refine Or.inr ⟨cs4, ?_⟩
            unfold own_f5; rw [if_pos cs0, if_neg cs1, if_neg cs2, if_pos cs3, if_neg cs4]
        · refine Or.inr ⟨cs3, ?_⟩
          unfold own_f5; rw [if_pos cs0, if_neg cs1, if_neg cs2, if_neg cs3]
  · refine Or.inr ⟨cs0, ?_⟩
    by_cases cs1 : (1 : Int32) < p1
    · refine Or.inl ⟨cs1, ?_⟩
      by_cases cs2 : p3 = p0
      · refine Or.inl ⟨cs2, ?_⟩
        by_cases cs3 : (2 : Int32) < p1
        · refine Or.inl ⟨cs3, ?_⟩
          by_cases cs4 : p4 = p0
          · refine Or.inl ⟨cs4, ?_⟩
            unfold own_f5; rw [if_neg cs0, if_pos cs1, if_pos cs2, if_pos cs3, if_pos cs4]
          · refine Or.inr ⟨cs4, ?_⟩
            unfold own_f5; rw [if_neg cs0, if_pos cs1, if_pos cs2, if_pos cs3, if_neg cs4]
        · refine Or.inr ⟨cs3, ?_⟩
          unfold own_f5; rw [if_neg cs0, if_pos cs1, if_pos cs2, if_neg cs3]
      · refine Or.inr ⟨cs2, ?_⟩
        by_cases cs3 : (2 : Int32) < p1
        · refine Or.inl ⟨cs3, ?_⟩
          by_cases cs4 : p4 = p0
          · refine Or.inl ⟨cs4, ?_⟩
            unfold own_f5; rw [if_neg cs0, if_pos cs1, if_neg cs2, if_pos cs3, if_pos cs4]
          · refine Or.inr ⟨cs4, ?_⟩
            unfold own_f5; rw [if_neg cs0, if_pos cs1, if_neg cs2, if_pos cs3, if_neg cs4]
        · refine Or.inr ⟨cs3, ?_⟩
          unfold own_f5; rw [if_neg cs0, if_pos cs1, if_neg cs2, if_neg cs3]
    · refine Or.inr ⟨cs1, ?_⟩
      by_cases cs2 : (2 : Int32) < p1
      · refine Or.inl ⟨cs2, ?_⟩
        by_cases cs3 : p4 = p0
        · refine Or.inl ⟨cs3, ?_⟩
          unfold own_f5; rw [if_neg cs0, if_neg cs1, if_pos cs2, if_pos cs3]
        · refine Or.inr ⟨cs3, ?_⟩
          unfold own_f5; rw [if_neg cs0, if_neg cs1, if_pos cs2, if_neg cs3]
      · refine Or.inr ⟨cs2, ?_⟩
        unfold own_f5; rw [if_neg cs0, if_neg cs1, if_neg cs2]
theorem own_pd1 : parseMethodDescriptor "([I[J[I)V" = some ⟨[(.array .int), (.array .long), (.array .int)], none⟩ := by decide +kernel
theorem own_pd2 : parseMethodDescriptor "([J)V" = some ⟨[(.array .long)], none⟩ := by decide +kernel
theorem own_pd3 : parseMethodDescriptor "(IIIIIJJJJ)J" = some ⟨[.int, .int, .int, .int, .int, .long, .long, .long, .long], some .long⟩ := by decide +kernel
set_option maxRecDepth 65536 in
set_option maxHeartbeats 40000000 in
theorem own_side189 (p0 : Int32) (v185 : Int32) (hv185 : v185 = (p0 &&& (3 : Int32))) : v185 = (0 : Int32) ∨ v185 = (1 : Int32) ∨ v185 = (2 : Int32) ∨ v185 = (3 : Int32) := by
  generalize hex1 : (p0 &&& (3 : Int32)) = ex1 at *
  try simp only [Int32.lt_iff_toInt_lt, Int64.lt_iff_toInt_lt, ← Int32.toInt_inj, ← Int64.toInt_inj, Int32.reduceToInt, Int64.reduceToInt, not_true_eq_false, not_false_eq_true, false_and, and_false, true_and, and_true, false_or, or_false, true_or, or_true] at hv185
  try simp only [Int32.lt_iff_toInt_lt, Int64.lt_iff_toInt_lt, ← Int32.toInt_inj, ← Int64.toInt_inj, Int32.reduceToInt, Int64.reduceToInt, not_true_eq_false, not_false_eq_true, false_and, and_false, true_and, and_true, false_or, or_false, true_or, or_true]
  have := Int32.le_toInt p0; have := Int32.toInt_lt p0
  have := Int32.le_toInt v185; have := Int32.toInt_lt v185
  have bl1 := Int32.le_toInt ex1; have bu1 := Int32.toInt_lt ex1
  have fa1 := c_mask p0 (3 : Int32) 2 (by decide) (by decide); rw [hex1] at fa1; try simp only [Int32.reduceToInt, Int64.reduceToInt] at fa1
  clear hex1
  all_goals omega
set_option maxRecDepth 65536 in
set_option maxHeartbeats 40000000 in
theorem own_leaf0_2 (p0 : Int32) (q1 : Int64) (q2 : Int64) (q3 : Int64) (q5 : Int64) (hv185 : (0 : Int32) = (p0 &&& (3 : Int32))) (v186 : Int32) (hv186 : v186 = (((p0.toUInt32 >>> ((2 : Int32) &&& 31).toUInt32).toInt32) &&& (3 : Int32))) (v187 : Int32) (hv187 : v187 = (((p0.toUInt32 >>> ((4 : Int32) &&& 31).toUInt32).toInt32) &&& (3 : Int32))) (v188 : Int32) (hv188 : v188 = (((p0.toUInt32 >>> ((6 : Int32) &&& 31).toUInt32).toInt32) &&& (3 : Int32))) (v202 : Int64) (hv202 : v202 = (q5 ^^^ (-1 : Int64))) (hc301 : q5 = (own_f5 (1 : Int32) (0 : Int32) v186 v187 v188 q1 q2 q3 q5)) (hc313 : ¬ (v202 = (own_f5 (3 : Int32) (0 : Int32) v186 v187 v188 q1 q2 q3 v202))) : False := by
  have gv186 := own_m3 ((p0.toUInt32 >>> ((2 : Int32) &&& 31).toUInt32).toInt32)
  rw [← hv186] at gv186
  clear hv186
  have gv187 := own_m3 ((p0.toUInt32 >>> ((4 : Int32) &&& 31).toUInt32).toInt32)
  rw [← hv187] at gv187
  clear hv187
  have gv188 := own_m3 ((p0.toUInt32 >>> ((6 : Int32) &&& 31).toUInt32).toInt32)
  rw [← hv188] at gv188
  clear hv188
  (apply hc313; simp [own_upd, own_g4, own_f5])
set_option maxRecDepth 65536 in
set_option maxHeartbeats 40000000 in
theorem own_leaf0_3 (p0 : Int32) (q1 : Int64) (q2 : Int64) (q3 : Int64) (q4 : Int64) (hv185 : (0 : Int32) = (p0 &&& (3 : Int32))) (v186 : Int32) (hv186 : v186 = (((p0.toUInt32 >>> ((2 : Int32) &&& 31).toUInt32).toInt32) &&& (3 : Int32))) (v187 : Int32) (hv187 : v187 = (((p0.toUInt32 >>> ((4 : Int32) &&& 31).toUInt32).toInt32) &&& (3 : Int32))) (v188 : Int32) (hv188 : v188 = (((p0.toUInt32 >>> ((6 : Int32) &&& 31).toUInt32).toInt32) &&& (3 : Int32))) (v201 : Int64) (hv201 : v201 = (q4 ^^^ (-1 : Int64))) (hc295 : q4 = (own_f5 (0 : Int32) (0 : Int32) v186 v187 v188 q1 q2 q3 q4)) (hc307 : ¬ (v201 = (own_f5 (2 : Int32) (0 : Int32) v186 v187 v188 q1 q2 q3 v201))) : False := by
  have gv186 := own_m3 ((p0.toUInt32 >>> ((2 : Int32) &&& 31).toUInt32).toInt32)
  rw [← hv186] at gv186
  clear hv186
  have gv187 := own_m3 ((p0.toUInt32 >>> ((4 : Int32) &&& 31).toUInt32).toInt32)
  rw [← hv187] at gv187
  clear hv187
  have gv188 := own_m3 ((p0.toUInt32 >>> ((6 : Int32) &&& 31).toUInt32).toInt32)
  rw [← hv188] at gv188
  clear hv188
  (apply hc307; simp [own_upd, own_g4, own_f5])
set_option maxRecDepth 65536 in
set_option maxHeartbeats 40000000 in
theorem own_leaf0_4 (p0 : Int32) (q1 : Int64) (q2 : Int64) (q3 : Int64) (q5 : Int64) (hv185 : (0 : Int32) = (p0 &&& (3 : Int32))) (v186 : Int32) (hv186 : v186 = (((p0.toUInt32 >>> ((2 : Int32) &&& 31).toUInt32).toInt32) &&& (3 : Int32))) (v187 : Int32) (hv187 : v187 = (((p0.toUInt32 >>> ((4 : Int32) &&& 31).toUInt32).toInt32) &&& (3 : Int32))) (v188 : Int32) (hv188 : v188 = (((p0.toUInt32 >>> ((6 : Int32) &&& 31).toUInt32).toInt32) &&& (3 : Int32))) (hc301 : ¬ (q5 = (own_f5 (1 : Int32) (0 : Int32) v186 v187 v188 q1 q2 q3 q5))) : False := by
  have gv186 := own_m3 ((p0.toUInt32 >>> ((2 : Int32) &&& 31).toUInt32).toInt32)
  rw [← hv186] at gv186
  clear hv186
  have gv187 := own_m3 ((p0.toUInt32 >>> ((4 : Int32) &&& 31).toUInt32).toInt32)
  rw [← hv187] at gv187
  clear hv187
  have gv188 := own_m3 ((p0.toUInt32 >>> ((6 : Int32) &&& 31).toUInt32).toInt32)
  rw [← hv188] at gv188
  clear hv188
  (apply hc301; simp [own_upd, own_g4, own_f5])
set_option maxRecDepth 65536 in
set_option maxHeartbeats 40000000 in
theorem own_leaf0_5 (p0 : Int32) (q1 : Int64) (q2 : Int64) (q3 : Int64) (q4 : Int64) (hv185 : (0 : Int32) = (p0 &&& (3 : Int32))) (v186 : Int32) (hv186 : v186 = (((p0.toUInt32 >>> ((2 : Int32) &&& 31).toUInt32).toInt32) &&& (3 : Int32))) (v187 : Int32) (hv187 : v187 = (((p0.toUInt32 >>> ((4 : Int32) &&& 31).toUInt32).toInt32) &&& (3 : Int32))) (v188 : Int32) (hv188 : v188 = (((p0.toUInt32 >>> ((6 : Int32) &&& 31).toUInt32).toInt32) &&& (3 : Int32))) (hc295 : ¬ (q4 = (own_f5 (0 : Int32) (0 : Int32) v186 v187 v188 q1 q2 q3 q4))) : False := by
  have gv186 := own_m3 ((p0.toUInt32 >>> ((2 : Int32) &&& 31).toUInt32).toInt32)
  rw [← hv186] at gv186
  clear hv186
  have gv187 := own_m3 ((p0.toUInt32 >>> ((4 : Int32) &&& 31).toUInt32).toInt32)
  rw [← hv187] at gv187
  clear hv187
  have gv188 := own_m3 ((p0.toUInt32 >>> ((6 : Int32) &&& 31).toUInt32).toInt32)
  rw [← hv188] at gv188
  clear hv188
  (apply hc295; simp [own_upd, own_g4, own_f5])
set_option maxRecDepth 65536 in
set_option maxHeartbeats 40000000 in
theorem own_side422 (p0 : Int32) (hv185 : (1 : Int32) = (p0 &&& (3 : Int32))) (v186 : Int32) (hv186 : v186 = (((p0.toUInt32 >>> ((2 : Int32) &&& 31).toUInt32).toInt32) &&& (3 : Int32))) : ¬ v186 < (0 : Int32) ∧ v186 < (4 : Int32) := by
  generalize hex1 : (p0 &&& (3 : Int32)) = ex1 at *
  generalize hex2 : ((p0.toUInt32 >>> ((2 : Int32) &&& 31).toUInt32).toInt32) = ex2 at *
  generalize hex3 : (ex2 &&& (3 : Int32)) = ex3 at *
  try simp only [Int32.lt_iff_toInt_lt, Int64.lt_iff_toInt_lt, ← Int32.toInt_inj, ← Int64.toInt_inj, Int32.reduceToInt, Int64.reduceToInt, not_true_eq_false, not_false_eq_true, false_and, and_false, true_and, and_true, false_or, or_false, true_or, or_true] at hv185
  try simp only [Int32.lt_iff_toInt_lt, Int64.lt_iff_toInt_lt, ← Int32.toInt_inj, ← Int64.toInt_inj, Int32.reduceToInt, Int64.reduceToInt, not_true_eq_false, not_false_eq_true, false_and, and_false, true_and, and_true, false_or, or_false, true_or, or_true] at hv186
  try simp only [Int32.lt_iff_toInt_lt, Int64.lt_iff_toInt_lt, ← Int32.toInt_inj, ← Int64.toInt_inj, Int32.reduceToInt, Int64.reduceToInt, not_true_eq_false, not_false_eq_true, false_and, and_false, true_and, and_true, false_or, or_false, true_or, or_true]
  have := Int32.le_toInt p0; have := Int32.toInt_lt p0
  have := Int32.le_toInt v186; have := Int32.toInt_lt v186
  have bl1 := Int32.le_toInt ex1; have bu1 := Int32.toInt_lt ex1
  have fa1 := c_mask p0 (3 : Int32) 2 (by decide) (by decide); rw [hex1] at fa1; try simp only [Int32.reduceToInt, Int64.reduceToInt] at fa1
  clear hex1
  have bl2 := Int32.le_toInt ex2; have bu2 := Int32.toInt_lt ex2
  have fa2 := c_iushr p0 (2 : Int32) 2 (by decide) (by decide); rw [hex2] at fa2; try simp only [Int32.reduceToInt, Int64.reduceToInt] at fa2
  clear hex2
  have bl3 := Int32.le_toInt ex3; have bu3 := Int32.toInt_lt ex3
  have fa3 := c_mask ex2 (3 : Int32) 2 (by decide) (by decide); rw [hex3] at fa3; try simp only [Int32.reduceToInt, Int64.reduceToInt] at fa3
  clear hex3
  all_goals omega
set_option maxRecDepth 65536 in
set_option maxHeartbeats 40000000 in
theorem own_leaf0_7 (p0 : Int32) (q1 : Int64) (q2 : Int64) (q3 : Int64) (q4 : Int64) (q5 : Int64) (hv185 : (1 : Int32) = (p0 &&& (3 : Int32))) (v186 : Int32) (hv186 : v186 = (((p0.toUInt32 >>> ((2 : Int32) &&& 31).toUInt32).toInt32) &&& (3 : Int32))) (v187 : Int32) (hv187 : v187 = (((p0.toUInt32 >>> ((4 : Int32) &&& 31).toUInt32).toInt32) &&& (3 : Int32))) (v188 : Int32) (hv188 : v188 = (((p0.toUInt32 >>> ((6 : Int32) &&& 31).toUInt32).toInt32) &&& (3 : Int32))) (v336 : Int64) (hv336 : v336 = (q4 ^^^ (-1 : Int64))) (v337 : Int64) (hv337 : v337 = (q5 ^^^ (-1 : Int64))) (hc440 : ((own_upd (own_g4 q4 q5 v336 v337) v186 q1) 0) = (own_f5 (0 : Int32) (1 : Int32) v186 v187 v188 q1 q2 q3 q4)) (hc446 : ((own_upd (own_g4 q4 q5 v336 v337) v186 q1) 1) = (own_f5 (1 : Int32) (1 : Int32) v186 v187 v188 q1 q2 q3 q5)) (hc452 : ((own_upd (own_g4 q4 q5 v336 v337) v186 q1) 2) = (own_f5 (2 : Int32) (1 : Int32) v186 v187 v188 q1 q2 q3 v336)) (hc458 : ¬ (((own_upd (own_g4 q4 q5 v336 v337) v186 q1) 3) = (own_f5 (3 : Int32) (1 : Int32) v186 v187 v188 q1 q2 q3 v337))) : False := by
  have gv186 := own_m3 ((p0.toUInt32 >>> ((2 : Int32) &&& 31).toUInt32).toInt32)
  rw [← hv186] at gv186
  clear hv186
  have gv187 := own_m3 ((p0.toUInt32 >>> ((4 : Int32) &&& 31).toUInt32).toInt32)
  rw [← hv187] at gv187
  clear hv187
  have gv188 := own_m3 ((p0.toUInt32 >>> ((6 : Int32) &&& 31).toUInt32).toInt32)
  rw [← hv188] at gv188
  clear hv188
  rcases gv186 with rfl | rfl | rfl | rfl <;> (apply hc458; simp [own_upd, own_g4, own_f5])
set_option maxRecDepth 65536 in
set_option maxHeartbeats 40000000 in
theorem own_leaf0_8 (p0 : Int32) (q1 : Int64) (q2 : Int64) (q3 : Int64) (q4 : Int64) (q5 : Int64) (hv185 : (1 : Int32) = (p0 &&& (3 : Int32))) (v186 : Int32) (hv186 : v186 = (((p0.toUInt32 >>> ((2 : Int32) &&& 31).toUInt32).toInt32) &&& (3 : Int32))) (v187 : Int32) (hv187 : v187 = (((p0.toUInt32 >>> ((4 : Int32) &&& 31).toUInt32).toInt32) &&& (3 : Int32))) (v188 : Int32) (hv188 : v188 = (((p0.toUInt32 >>> ((6 : Int32) &&& 31).toUInt32).toInt32) &&& (3 : Int32))) (v336 : Int64) (hv336 : v336 = (q4 ^^^ (-1 : Int64))) (v337 : Int64) (hv337 : v337 = (q5 ^^^ (-1 : Int64))) (hc440 : ((own_upd (own_g4 q4 q5 v336 v337) v186 q1) 0) = (own_f5 (0 : Int32) (1 : Int32) v186 v187 v188 q1 q2 q3 q4)) (hc446 : ((own_upd (own_g4 q4 q5 v336 v337) v186 q1) 1) = (own_f5 (1 : Int32) (1 : Int32) v186 v187 v188 q1 q2 q3 q5)) (hc452 : ¬ (((own_upd (own_g4 q4 q5 v336 v337) v186 q1) 2) = (own_f5 (2 : Int32) (1 : Int32) v186 v187 v188 q1 q2 q3 v336))) : False := by
  have gv186 := own_m3 ((p0.toUInt32 >>> ((2 : Int32) &&& 31).toUInt32).toInt32)
  rw [← hv186] at gv186
  clear hv186
  have gv187 := own_m3 ((p0.toUInt32 >>> ((4 : Int32) &&& 31).toUInt32).toInt32)
  rw [← hv187] at gv187
  clear hv187
  have gv188 := own_m3 ((p0.toUInt32 >>> ((6 : Int32) &&& 31).toUInt32).toInt32)
  rw [← hv188] at gv188
  clear hv188
  rcases gv186 with rfl | rfl | rfl | rfl <;> (apply hc452; simp [own_upd, own_g4, own_f5])
set_option maxRecDepth 65536 in
set_option maxHeartbeats 40000000 in
theorem own_leaf0_9 (p0 : Int32) (q1 : Int64) (q2 : Int64) (q3 : Int64) (q4 : Int64) (q5 : Int64) (hv185 : (1 : Int32) = (p0 &&& (3 : Int32))) (v186 : Int32) (hv186 : v186 = (((p0.toUInt32 >>> ((2 : Int32) &&& 31).toUInt32).toInt32) &&& (3 : Int32))) (v187 : Int32) (hv187 : v187 = (((p0.toUInt32 >>> ((4 : Int32) &&& 31).toUInt32).toInt32) &&& (3 : Int32))) (v188 : Int32) (hv188 : v188 = (((p0.toUInt32 >>> ((6 : Int32) &&& 31).toUInt32).toInt32) &&& (3 : Int32))) (v336 : Int64) (hv336 : v336 = (q4 ^^^ (-1 : Int64))) (v337 : Int64) (hv337 : v337 = (q5 ^^^ (-1 : Int64))) (hc440 : ((own_upd (own_g4 q4 q5 v336 v337) v186 q1) 0) = (own_f5 (0 : Int32) (1 : Int32) v186 v187 v188 q1 q2 q3 q4)) (hc446 : ¬ (((own_upd (own_g4 q4 q5 v336 v337) v186 q1) 1) = (own_f5 (1 : Int32) (1 : Int32) v186 v187 v188 q1 q2 q3 q5))) : False := by
  have gv186 := own_m3 ((p0.toUInt32 >>> ((2 : Int32) &&& 31).toUInt32).toInt32)
  rw [← hv186] at gv186
  clear hv186
  have gv187 := own_m3 ((p0.toUInt32 >>> ((4 : Int32) &&& 31).toUInt32).toInt32)
  rw [← hv187] at gv187
  clear hv187
  have gv188 := own_m3 ((p0.toUInt32 >>> ((6 : Int32) &&& 31).toUInt32).toInt32)
  rw [← hv188] at gv188
  clear hv188
  rcases gv186 with rfl | rfl | rfl | rfl <;> (apply hc446; simp [own_upd, own_g4, own_f5])
set_option maxRecDepth 65536 in
set_option maxHeartbeats 40000000 in
theorem own_leaf0_10 (p0 : Int32) (q1 : Int64) (q2 : Int64) (q3 : Int64) (q4 : Int64) (q5 : Int64) (hv185 : (1 : Int32) = (p0 &&& (3 : Int32))) (v186 : Int32) (hv186 : v186 = (((p0.toUInt32 >>> ((2 : Int32) &&& 31).toUInt32).toInt32) &&& (3 : Int32))) (v187 : Int32) (hv187 : v187 = (((p0.toUInt32 >>> ((4 : Int32) &&& 31).toUInt32).toInt32) &&& (3 : Int32))) (v188 : Int32) (hv188 : v188 = (((p0.toUInt32 >>> ((6 : Int32) &&& 31).toUInt32).toInt32) &&& (3 : Int32))) (v336 : Int64) (hv336 : v336 = (q4 ^^^ (-1 : Int64))) (v337 : Int64) (hv337 : v337 = (q5 ^^^ (-1 : Int64))) (hc440 : ¬ (((own_upd (own_g4 q4 q5 v336 v337) v186 q1) 0) = (own_f5 (0 : Int32) (1 : Int32) v186 v187 v188 q1 q2 q3 q4))) : False := by
  have gv186 := own_m3 ((p0.toUInt32 >>> ((2 : Int32) &&& 31).toUInt32).toInt32)
  rw [← hv186] at gv186
  clear hv186
  have gv187 := own_m3 ((p0.toUInt32 >>> ((4 : Int32) &&& 31).toUInt32).toInt32)
  rw [← hv187] at gv187
  clear hv187
  have gv188 := own_m3 ((p0.toUInt32 >>> ((6 : Int32) &&& 31).toUInt32).toInt32)
  rw [← hv188] at gv188
  clear hv188
  rcases gv186 with rfl | rfl | rfl | rfl <;> (apply hc440; simp [own_upd, own_g4, own_f5])
set_option maxRecDepth 65536 in
set_option maxHeartbeats 40000000 in
theorem own_side580 (p0 : Int32) (hv185 : (2 : Int32) = (p0 &&& (3 : Int32))) (v186 : Int32) (hv186 : v186 = (((p0.toUInt32 >>> ((2 : Int32) &&& 31).toUInt32).toInt32) &&& (3 : Int32))) : ¬ v186 < (0 : Int32) ∧ v186 < (4 : Int32) := by
  generalize hex1 : (p0 &&& (3 : Int32)) = ex1 at *
  generalize hex2 : ((p0.toUInt32 >>> ((2 : Int32) &&& 31).toUInt32).toInt32) = ex2 at *
  generalize hex3 : (ex2 &&& (3 : Int32)) = ex3 at *
  try simp only [Int32.lt_iff_toInt_lt, Int64.lt_iff_toInt_lt, ← Int32.toInt_inj, ← Int64.toInt_inj, Int32.reduceToInt, Int64.reduceToInt, not_true_eq_false, not_false_eq_true, false_and, and_false, true_and, and_true, false_or, or_false, true_or, or_true] at hv185
  try simp only [Int32.lt_iff_toInt_lt, Int64.lt_iff_toInt_lt, ← Int32.toInt_inj, ← Int64.toInt_inj, Int32.reduceToInt, Int64.reduceToInt, not_true_eq_false, not_false_eq_true, false_and, and_false, true_and, and_true, false_or, or_false, true_or, or_true] at hv186
  try simp only [Int32.lt_iff_toInt_lt, Int64.lt_iff_toInt_lt, ← Int32.toInt_inj, ← Int64.toInt_inj, Int32.reduceToInt, Int64.reduceToInt, not_true_eq_false, not_false_eq_true, false_and, and_false, true_and, and_true, false_or, or_false, true_or, or_true]
  have := Int32.le_toInt p0; have := Int32.toInt_lt p0
  have := Int32.le_toInt v186; have := Int32.toInt_lt v186
  have bl1 := Int32.le_toInt ex1; have bu1 := Int32.toInt_lt ex1
  have fa1 := c_mask p0 (3 : Int32) 2 (by decide) (by decide); rw [hex1] at fa1; try simp only [Int32.reduceToInt, Int64.reduceToInt] at fa1
  clear hex1
  have bl2 := Int32.le_toInt ex2; have bu2 := Int32.toInt_lt ex2
  have fa2 := c_iushr p0 (2 : Int32) 2 (by decide) (by decide); rw [hex2] at fa2; try simp only [Int32.reduceToInt, Int64.reduceToInt] at fa2
  clear hex2
  have bl3 := Int32.le_toInt ex3; have bu3 := Int32.toInt_lt ex3
  have fa3 := c_mask ex2 (3 : Int32) 2 (by decide) (by decide); rw [hex3] at fa3; try simp only [Int32.reduceToInt, Int64.reduceToInt] at fa3
  clear hex3
  all_goals omega
set_option maxRecDepth 65536 in
set_option maxHeartbeats 40000000 in
theorem own_side581 (p0 : Int32) (hv185 : (2 : Int32) = (p0 &&& (3 : Int32))) (v187 : Int32) (hv187 : v187 = (((p0.toUInt32 >>> ((4 : Int32) &&& 31).toUInt32).toInt32) &&& (3 : Int32))) : ¬ v187 < (0 : Int32) ∧ v187 < (4 : Int32) := by
  generalize hex1 : (p0 &&& (3 : Int32)) = ex1 at *
  generalize hex2 : ((p0.toUInt32 >>> ((4 : Int32) &&& 31).toUInt32).toInt32) = ex2 at *
  generalize hex3 : (ex2 &&& (3 : Int32)) = ex3 at *
  try simp only [Int32.lt_iff_toInt_lt, Int64.lt_iff_toInt_lt, ← Int32.toInt_inj, ← Int64.toInt_inj, Int32.reduceToInt, Int64.reduceToInt, not_true_eq_false, not_false_eq_true, false_and, and_false, true_and, and_true, false_or, or_false, true_or, or_true] at hv185
  try simp only [Int32.lt_iff_toInt_lt, Int64.lt_iff_toInt_lt, ← Int32.toInt_inj, ← Int64.toInt_inj, Int32.reduceToInt, Int64.reduceToInt, not_true_eq_false, not_false_eq_true, false_and, and_false, true_and, and_true, false_or, or_false, true_or, or_true] at hv187
  try simp only [Int32.lt_iff_toInt_lt, Int64.lt_iff_toInt_lt, ← Int32.toInt_inj, ← Int64.toInt_inj, Int32.reduceToInt, Int64.reduceToInt, not_true_eq_false, not_false_eq_true, false_and, and_false, true_and, and_true, false_or, or_false, true_or, or_true]
  have := Int32.le_toInt p0; have := Int32.toInt_lt p0
  have := Int32.le_toInt v187; have := Int32.toInt_lt v187
  have bl1 := Int32.le_toInt ex1; have bu1 := Int32.toInt_lt ex1
  have fa1 := c_mask p0 (3 : Int32) 2 (by decide) (by decide); rw [hex1] at fa1; try simp only [Int32.reduceToInt, Int64.reduceToInt] at fa1
  clear hex1
  have bl2 := Int32.le_toInt ex2; have bu2 := Int32.toInt_lt ex2
  have fa2 := c_iushr p0 (4 : Int32) 4 (by decide) (by decide); rw [hex2] at fa2; try simp only [Int32.reduceToInt, Int64.reduceToInt] at fa2
  clear hex2
  have bl3 := Int32.le_toInt ex3; have bu3 := Int32.toInt_lt ex3
  have fa3 := c_mask ex2 (3 : Int32) 2 (by decide) (by decide); rw [hex3] at fa3; try simp only [Int32.reduceToInt, Int64.reduceToInt] at fa3
  clear hex3
  all_goals omega
set_option maxRecDepth 65536 in
set_option maxHeartbeats 40000000 in
theorem own_leaf0_12 (p0 : Int32) (q1 : Int64) (q2 : Int64) (q3 : Int64) (q4 : Int64) (q5 : Int64) (hv185 : (2 : Int32) = (p0 &&& (3 : Int32))) (v186 : Int32) (hv186 : v186 = (((p0.toUInt32 >>> ((2 : Int32) &&& 31).toUInt32).toInt32) &&& (3 : Int32))) (v187 : Int32) (hv187 : v187 = (((p0.toUInt32 >>> ((4 : Int32) &&& 31).toUInt32).toInt32) &&& (3 : Int32))) (v188 : Int32) (hv188 : v188 = (((p0.toUInt32 >>> ((6 : Int32) &&& 31).toUInt32).toInt32) &&& (3 : Int32))) (v494 : Int64) (hv494 : v494 = (q4 ^^^ (-1 : Int64))) (v495 : Int64) (hv495 : v495 = (q5 ^^^ (-1 : Int64))) (hc599 : ((own_upd (own_upd (own_g4 q4 q5 v494 v495) v186 q1) v187 q2) 0) = (own_f5 (0 : Int32) (2 : Int32) v186 v187 v188 q1 q2 q3 q4)) (hc605 : ((own_upd (own_upd (own_g4 q4 q5 v494 v495) v186 q1) v187 q2) 1) = (own_f5 (1 : Int32) (2 : Int32) v186 v187 v188 q1 q2 q3 q5)) (hc611 : ((own_upd (own_upd (own_g4 q4 q5 v494 v495) v186 q1) v187 q2) 2) = (own_f5 (2 : Int32) (2 : Int32) v186 v187 v188 q1 q2 q3 v494)) (hc617 : ¬ (((own_upd (own_upd (own_g4 q4 q5 v494 v495) v186 q1) v187 q2) 3) = (own_f5 (3 : Int32) (2 : Int32) v186 v187 v188 q1 q2 q3 v495))) : False := by
  have gv186 := own_m3 ((p0.toUInt32 >>> ((2 : Int32) &&& 31).toUInt32).toInt32)
  rw [← hv186] at gv186
  clear hv186
  have gv187 := own_m3 ((p0.toUInt32 >>> ((4 : Int32) &&& 31).toUInt32).toInt32)
  rw [← hv187] at gv187
  clear hv187
  have gv188 := own_m3 ((p0.toUInt32 >>> ((6 : Int32) &&& 31).toUInt32).toInt32)
  rw [← hv188] at gv188
  clear hv188
  rcases gv186 with rfl | rfl | rfl | rfl <;> rcases gv187 with rfl | rfl | rfl | rfl <;> (apply hc617; simp [own_upd, own_g4, own_f5])
set_option maxRecDepth 65536 in
set_option maxHeartbeats 40000000 in
theorem own_leaf0_13 (p0 : Int32) (q1 : Int64) (q2 : Int64) (q3 : Int64) (q4 : Int64) (q5 : Int64) (hv185 : (2 : Int32) = (p0 &&& (3 : Int32))) (v186 : Int32) (hv186 : v186 = (((p0.toUInt32 >>> ((2 : Int32) &&& 31).toUInt32).toInt32) &&& (3 : Int32))) (v187 : Int32) (hv187 : v187 = (((p0.toUInt32 >>> ((4 : Int32) &&& 31).toUInt32).toInt32) &&& (3 : Int32))) (v188 : Int32) (hv188 : v188 = (((p0.toUInt32 >>> ((6 : Int32) &&& 31).toUInt32).toInt32) &&& (3 : Int32))) (v494 : Int64) (hv494 : v494 = (q4 ^^^ (-1 : Int64))) (v495 : Int64) (hv495 : v495 = (q5 ^^^ (-1 : Int64))) (hc599 : ((own_upd (own_upd (own_g4 q4 q5 v494 v495) v186 q1) v187 q2) 0) = (own_f5 (0 : Int32) (2 : Int32) v186 v187 v188 q1 q2 q3 q4)) (hc605 : ((own_upd (own_upd (own_g4 q4 q5 v494 v495) v186 q1) v187 q2) 1) = (own_f5 (1 : Int32) (2 : Int32) v186 v187 v188 q1 q2 q3 q5)) (hc611 : ¬ (((own_upd (own_upd (own_g4 q4 q5 v494 v495) v186 q1) v187 q2) 2) = (own_f5 (2 : Int32) (2 : Int32) v186 v187 v188 q1 q2 q3 v494))) : False := by
  have gv186 := own_m3 ((p0.toUInt32 >>> ((2 : Int32) &&& 31).toUInt32).toInt32)
  rw [← hv186] at gv186
  clear hv186
  have gv187 := own_m3 ((p0.toUInt32 >>> ((4 : Int32) &&& 31).toUInt32).toInt32)
  rw [← hv187] at gv187
  clear hv187
  have gv188 := own_m3 ((p0.toUInt32 >>> ((6 : Int32) &&& 31).toUInt32).toInt32)
  rw [← hv188] at gv188
  clear hv188
  rcases gv186 with rfl | rfl | rfl | rfl <;> rcases gv187 with rfl | rfl | rfl | rfl <;> (apply hc611; simp [own_upd, own_g4, own_f5])
set_option maxRecDepth 65536 in
set_option maxHeartbeats 40000000 in
theorem own_leaf0_14 (p0 : Int32) (q1 : Int64) (q2 : Int64) (q3 : Int64) (q4 : Int64) (q5 : Int64) (hv185 : (2 : Int32) = (p0 &&& (3 : Int32))) (v186 : Int32) (hv186 : v186 = (((p0.toUInt32 >>> ((2 : Int32) &&& 31).toUInt32).toInt32) &&& (3 : Int32))) (v187 : Int32) (hv187 : v187 = (((p0.toUInt32 >>> ((4 : Int32) &&& 31).toUInt32).toInt32) &&& (3 : Int32))) (v188 : Int32) (hv188 : v188 = (((p0.toUInt32 >>> ((6 : Int32) &&& 31).toUInt32).toInt32) &&& (3 : Int32))) (v494 : Int64) (hv494 : v494 = (q4 ^^^ (-1 : Int64))) (v495 : Int64) (hv495 : v495 = (q5 ^^^ (-1 : Int64))) (hc599 : ((own_upd (own_upd (own_g4 q4 q5 v494 v495) v186 q1) v187 q2) 0) = (own_f5 (0 : Int32) (2 : Int32) v186 v187 v188 q1 q2 q3 q4)) (hc605 : ¬ (((own_upd (own_upd (own_g4 q4 q5 v494 v495) v186 q1) v187 q2) 1) = (own_f5 (1 : Int32) (2 : Int32) v186 v187 v188 q1 q2 q3 q5))) : False := by
  have gv186 := own_m3 ((p0.toUInt32 >>> ((2 : Int32) &&& 31).toUInt32).toInt32)
  rw [← hv186] at gv186
  clear hv186
  have gv187 := own_m3 ((p0.toUInt32 >>> ((4 : Int32) &&& 31).toUInt32).toInt32)
  rw [← hv187] at gv187
  clear hv187
  have gv188 := own_m3 ((p0.toUInt32 >>> ((6 : Int32) &&& 31).toUInt32).toInt32)
  rw [← hv188] at gv188
  clear hv188
  rcases gv186 with rfl | rfl | rfl | rfl <;> rcases gv187 with rfl | rfl | rfl | rfl <;> (apply hc605; simp [own_upd, own_g4, own_f5])
set_option maxRecDepth 65536 in
set_option maxHeartbeats 40000000 in
theorem own_leaf0_15 (p0 : Int32) (q1 : Int64) (q2 : Int64) (q3 : Int64) (q4 : Int64) (q5 : Int64) (hv185 : (2 : Int32) = (p0 &&& (3 : Int32))) (v186 : Int32) (hv186 : v186 = (((p0.toUInt32 >>> ((2 : Int32) &&& 31).toUInt32).toInt32) &&& (3 : Int32))) (v187 : Int32) (hv187 : v187 = (((p0.toUInt32 >>> ((4 : Int32) &&& 31).toUInt32).toInt32) &&& (3 : Int32))) (v188 : Int32) (hv188 : v188 = (((p0.toUInt32 >>> ((6 : Int32) &&& 31).toUInt32).toInt32) &&& (3 : Int32))) (v494 : Int64) (hv494 : v494 = (q4 ^^^ (-1 : Int64))) (v495 : Int64) (hv495 : v495 = (q5 ^^^ (-1 : Int64))) (hc599 : ¬ (((own_upd (own_upd (own_g4 q4 q5 v494 v495) v186 q1) v187 q2) 0) = (own_f5 (0 : Int32) (2 : Int32) v186 v187 v188 q1 q2 q3 q4))) : False := by
  have gv186 := own_m3 ((p0.toUInt32 >>> ((2 : Int32) &&& 31).toUInt32).toInt32)
  rw [← hv186] at gv186
  clear hv186
  have gv187 := own_m3 ((p0.toUInt32 >>> ((4 : Int32) &&& 31).toUInt32).toInt32)
  rw [← hv187] at gv187
  clear hv187
  have gv188 := own_m3 ((p0.toUInt32 >>> ((6 : Int32) &&& 31).toUInt32).toInt32)
  rw [← hv188] at gv188
  clear hv188
  rcases gv186 with rfl | rfl | rfl | rfl <;> rcases gv187 with rfl | rfl | rfl | rfl <;> (apply hc599; simp [own_upd, own_g4, own_f5])
set_option maxRecDepth 65536 in
set_option maxHeartbeats 40000000 in
theorem own_side752 (p0 : Int32) (hv185 : (3 : Int32) = (p0 &&& (3 : Int32))) (v186 : Int32) (hv186 : v186 = (((p0.toUInt32 >>> ((2 : Int32) &&& 31).toUInt32).toInt32) &&& (3 : Int32))) : ¬ v186 < (0 : Int32) ∧ v186 < (4 : Int32) := by
  generalize hex1 : (p0 &&& (3 : Int32)) = ex1 at *
  generalize hex2 : ((p0.toUInt32 >>> ((2 : Int32) &&& 31).toUInt32).toInt32) = ex2 at *
  generalize hex3 : (ex2 &&& (3 : Int32)) = ex3 at *
  try simp only [Int32.lt_iff_toInt_lt, Int64.lt_iff_toInt_lt, ← Int32.toInt_inj, ← Int64.toInt_inj, Int32.reduceToInt, Int64.reduceToInt, not_true_eq_false, not_false_eq_true, false_and, and_false, true_and, and_true, false_or, or_false, true_or, or_true] at hv185
  try simp only [Int32.lt_iff_toInt_lt, Int64.lt_iff_toInt_lt, ← Int32.toInt_inj, ← Int64.toInt_inj, Int32.reduceToInt, Int64.reduceToInt, not_true_eq_false, not_false_eq_true, false_and, and_false, true_and, and_true, false_or, or_false, true_or, or_true] at hv186
  try simp only [Int32.lt_iff_toInt_lt, Int64.lt_iff_toInt_lt, ← Int32.toInt_inj, ← Int64.toInt_inj, Int32.reduceToInt, Int64.reduceToInt, not_true_eq_false, not_false_eq_true, false_and, and_false, true_and, and_true, false_or, or_false, true_or, or_true]
  have := Int32.le_toInt p0; have := Int32.toInt_lt p0
  have := Int32.le_toInt v186; have := Int32.toInt_lt v186
  have bl1 := Int32.le_toInt ex1; have bu1 := Int32.toInt_lt ex1
  have fa1 := c_mask p0 (3 : Int32) 2 (by decide) (by decide); rw [hex1] at fa1; try simp only [Int32.reduceToInt, Int64.reduceToInt] at fa1
  clear hex1
  have bl2 := Int32.le_toInt ex2; have bu2 := Int32.toInt_lt ex2
  have fa2 := c_iushr p0 (2 : Int32) 2 (by decide) (by decide); rw [hex2] at fa2; try simp only [Int32.reduceToInt, Int64.reduceToInt] at fa2
  clear hex2
  have bl3 := Int32.le_toInt ex3; have bu3 := Int32.toInt_lt ex3
  have fa3 := c_mask ex2 (3 : Int32) 2 (by decide) (by decide); rw [hex3] at fa3; try simp only [Int32.reduceToInt, Int64.reduceToInt] at fa3
  clear hex3
  all_goals omega
set_option maxRecDepth 65536 in
set_option maxHeartbeats 40000000 in
theorem own_side753 (p0 : Int32) (hv185 : (3 : Int32) = (p0 &&& (3 : Int32))) (v187 : Int32) (hv187 : v187 = (((p0.toUInt32 >>> ((4 : Int32) &&& 31).toUInt32).toInt32) &&& (3 : Int32))) : ¬ v187 < (0 : Int32) ∧ v187 < (4 : Int32) := by
  generalize hex1 : (p0 &&& (3 : Int32)) = ex1 at *
  generalize hex2 : ((p0.toUInt32 >>> ((4 : Int32) &&& 31).toUInt32).toInt32) = ex2 at *
  generalize hex3 : (ex2 &&& (3 : Int32)) = ex3 at *
  try simp only [Int32.lt_iff_toInt_lt, Int64.lt_iff_toInt_lt, ← Int32.toInt_inj, ← Int64.toInt_inj, Int32.reduceToInt, Int64.reduceToInt, not_true_eq_false, not_false_eq_true, false_and, and_false, true_and, and_true, false_or, or_false, true_or, or_true] at hv185
  try simp only [Int32.lt_iff_toInt_lt, Int64.lt_iff_toInt_lt, ← Int32.toInt_inj, ← Int64.toInt_inj, Int32.reduceToInt, Int64.reduceToInt, not_true_eq_false, not_false_eq_true, false_and, and_false, true_and, and_true, false_or, or_false, true_or, or_true] at hv187
  try simp only [Int32.lt_iff_toInt_lt, Int64.lt_iff_toInt_lt, ← Int32.toInt_inj, ← Int64.toInt_inj, Int32.reduceToInt, Int64.reduceToInt, not_true_eq_false, not_false_eq_true, false_and, and_false, true_and, and_true, false_or, or_false, true_or, or_true]
  have := Int32.le_toInt p0; have := Int32.toInt_lt p0
  have := Int32.le_toInt v187; have := Int32.toInt_lt v187
  have bl1 := Int32.le_toInt ex1; have bu1 := Int32.toInt_lt ex1
  have fa1 := c_mask p0 (3 : Int32) 2 (by decide) (by decide); rw [hex1] at fa1; try simp only [Int32.reduceToInt, Int64.reduceToInt] at fa1
  clear hex1
  have bl2 := Int32.le_toInt ex2; have bu2 := Int32.toInt_lt ex2
  have fa2 := c_iushr p0 (4 : Int32) 4 (by decide) (by decide); rw [hex2] at fa2; try simp only [Int32.reduceToInt, Int64.reduceToInt] at fa2
  clear hex2
  have bl3 := Int32.le_toInt ex3; have bu3 := Int32.toInt_lt ex3
  have fa3 := c_mask ex2 (3 : Int32) 2 (by decide) (by decide); rw [hex3] at fa3; try simp only [Int32.reduceToInt, Int64.reduceToInt] at fa3
  clear hex3
  all_goals omega
set_option maxRecDepth 65536 in
set_option maxHeartbeats 40000000 in
theorem own_side754 (p0 : Int32) (hv185 : (3 : Int32) = (p0 &&& (3 : Int32))) (v188 : Int32) (hv188 : v188 = (((p0.toUInt32 >>> ((6 : Int32) &&& 31).toUInt32).toInt32) &&& (3 : Int32))) : ¬ v188 < (0 : Int32) ∧ v188 < (4 : Int32) := by
  generalize hex1 : (p0 &&& (3 : Int32)) = ex1 at *
  generalize hex2 : ((p0.toUInt32 >>> ((6 : Int32) &&& 31).toUInt32).toInt32) = ex2 at *
  generalize hex3 : (ex2 &&& (3 : Int32)) = ex3 at *
  try simp only [Int32.lt_iff_toInt_lt, Int64.lt_iff_toInt_lt, ← Int32.toInt_inj, ← Int64.toInt_inj, Int32.reduceToInt, Int64.reduceToInt, not_true_eq_false, not_false_eq_true, false_and, and_false, true_and, and_true, false_or, or_false, true_or, or_true] at hv185
  try simp only [Int32.lt_iff_toInt_lt, Int64.lt_iff_toInt_lt, ← Int32.toInt_inj, ← Int64.toInt_inj, Int32.reduceToInt, Int64.reduceToInt, not_true_eq_false, not_false_eq_true, false_and, and_false, true_and, and_true, false_or, or_false, true_or, or_true] at hv188
  try simp only [Int32.lt_iff_toInt_lt, Int64.lt_iff_toInt_lt, ← Int32.toInt_inj, ← Int64.toInt_inj, Int32.reduceToInt, Int64.reduceToInt, not_true_eq_false, not_false_eq_true, false_and, and_false, true_and, and_true, false_or, or_false, true_or, or_true]
  have := Int32.le_toInt p0; have := Int32.toInt_lt p0
  have := Int32.le_toInt v188; have := Int32.toInt_lt v188
  have bl1 := Int32.le_toInt ex1; have bu1 := Int32.toInt_lt ex1
  have fa1 := c_mask p0 (3 : Int32) 2 (by decide) (by decide); rw [hex1] at fa1; try simp only [Int32.reduceToInt, Int64.reduceToInt] at fa1
  clear hex1
  have bl2 := Int32.le_toInt ex2; have bu2 := Int32.toInt_lt ex2
  have fa2 := c_iushr p0 (6 : Int32) 6 (by decide) (by decide); rw [hex2] at fa2; try simp only [Int32.reduceToInt, Int64.reduceToInt] at fa2
  clear hex2
  have bl3 := Int32.le_toInt ex3; have bu3 := Int32.toInt_lt ex3
  have fa3 := c_mask ex2 (3 : Int32) 2 (by decide) (by decide); rw [hex3] at fa3; try simp only [Int32.reduceToInt, Int64.reduceToInt] at fa3
  clear hex3
  all_goals omega
set_option maxRecDepth 65536 in
set_option maxHeartbeats 40000000 in
theorem own_leaf0_17 (p0 : Int32) (q1 : Int64) (q2 : Int64) (q3 : Int64) (q4 : Int64) (q5 : Int64) (hv185 : (3 : Int32) = (p0 &&& (3 : Int32))) (v186 : Int32) (hv186 : v186 = (((p0.toUInt32 >>> ((2 : Int32) &&& 31).toUInt32).toInt32) &&& (3 : Int32))) (v187 : Int32) (hv187 : v187 = (((p0.toUInt32 >>> ((4 : Int32) &&& 31).toUInt32).toInt32) &&& (3 : Int32))) (v188 : Int32) (hv188 : v188 = (((p0.toUInt32 >>> ((6 : Int32) &&& 31).toUInt32).toInt32) &&& (3 : Int32))) (v666 : Int64) (hv666 : v666 = (q4 ^^^ (-1 : Int64))) (v667 : Int64) (hv667 : v667 = (q5 ^^^ (-1 : Int64))) (hc772 : ((own_upd (own_upd (own_upd (own_g4 q4 q5 v666 v667) v186 q1) v187 q2) v188 q3) 0) = (own_f5 (0 : Int32) (3 : Int32) v186 v187 v188 q1 q2 q3 q4)) (hc778 : ((own_upd (own_upd (own_upd (own_g4 q4 q5 v666 v667) v186 q1) v187 q2) v188 q3) 1) = (own_f5 (1 : Int32) (3 : Int32) v186 v187 v188 q1 q2 q3 q5)) (hc784 : ((own_upd (own_upd (own_upd (own_g4 q4 q5 v666 v667) v186 q1) v187 q2) v188 q3) 2) = (own_f5 (2 : Int32) (3 : Int32) v186 v187 v188 q1 q2 q3 v666)) (hc790 : ¬ (((own_upd (own_upd (own_upd (own_g4 q4 q5 v666 v667) v186 q1) v187 q2) v188 q3) 3) = (own_f5 (3 : Int32) (3 : Int32) v186 v187 v188 q1 q2 q3 v667))) : False := by
  have gv186 := own_m3 ((p0.toUInt32 >>> ((2 : Int32) &&& 31).toUInt32).toInt32)
  rw [← hv186] at gv186
  clear hv186
  have gv187 := own_m3 ((p0.toUInt32 >>> ((4 : Int32) &&& 31).toUInt32).toInt32)
  rw [← hv187] at gv187
  clear hv187
  have gv188 := own_m3 ((p0.toUInt32 >>> ((6 : Int32) &&& 31).toUInt32).toInt32)
  rw [← hv188] at gv188
  clear hv188
  rcases gv186 with rfl | rfl | rfl | rfl <;> rcases gv187 with rfl | rfl | rfl | rfl <;> rcases gv188 with rfl | rfl | rfl | rfl <;> (apply hc790; simp [own_upd, own_g4, own_f5])
set_option maxRecDepth 65536 in
set_option maxHeartbeats 40000000 in
theorem own_leaf0_18 (p0 : Int32) (q1 : Int64) (q2 : Int64) (q3 : Int64) (q4 : Int64) (q5 : Int64) (hv185 : (3 : Int32) = (p0 &&& (3 : Int32))) (v186 : Int32) (hv186 : v186 = (((p0.toUInt32 >>> ((2 : Int32) &&& 31).toUInt32).toInt32) &&& (3 : Int32))) (v187 : Int32) (hv187 : v187 = (((p0.toUInt32 >>> ((4 : Int32) &&& 31).toUInt32).toInt32) &&& (3 : Int32))) (v188 : Int32) (hv188 : v188 = (((p0.toUInt32 >>> ((6 : Int32) &&& 31).toUInt32).toInt32) &&& (3 : Int32))) (v666 : Int64) (hv666 : v666 = (q4 ^^^ (-1 : Int64))) (v667 : Int64) (hv667 : v667 = (q5 ^^^ (-1 : Int64))) (hc772 : ((own_upd (own_upd (own_upd (own_g4 q4 q5 v666 v667) v186 q1) v187 q2) v188 q3) 0) = (own_f5 (0 : Int32) (3 : Int32) v186 v187 v188 q1 q2 q3 q4)) (hc778 : ((own_upd (own_upd (own_upd (own_g4 q4 q5 v666 v667) v186 q1) v187 q2) v188 q3) 1) = (own_f5 (1 : Int32) (3 : Int32) v186 v187 v188 q1 q2 q3 q5)) (hc784 : ¬ (((own_upd (own_upd (own_upd (own_g4 q4 q5 v666 v667) v186 q1) v187 q2) v188 q3) 2) = (own_f5 (2 : Int32) (3 : Int32) v186 v187 v188 q1 q2 q3 v666))) : False := by
  have gv186 := own_m3 ((p0.toUInt32 >>> ((2 : Int32) &&& 31).toUInt32).toInt32)
  rw [← hv186] at gv186
  clear hv186
  have gv187 := own_m3 ((p0.toUInt32 >>> ((4 : Int32) &&& 31).toUInt32).toInt32)
  rw [← hv187] at gv187
  clear hv187
  have gv188 := own_m3 ((p0.toUInt32 >>> ((6 : Int32) &&& 31).toUInt32).toInt32)
  rw [← hv188] at gv188
  clear hv188
  rcases gv186 with rfl | rfl | rfl | rfl <;> rcases gv187 with rfl | rfl | rfl | rfl <;> rcases gv188 with rfl | rfl | rfl | rfl <;> (apply hc784; simp [own_upd, own_g4, own_f5])
set_option maxRecDepth 65536 in
set_option maxHeartbeats 40000000 in
theorem own_leaf0_19 (p0 : Int32) (q1 : Int64) (q2 : Int64) (q3 : Int64) (q4 : Int64) (q5 : Int64) (hv185 : (3 : Int32) = (p0 &&& (3 : Int32))) (v186 : Int32) (hv186 : v186 = (((p0.toUInt32 >>> ((2 : Int32) &&& 31).toUInt32).toInt32) &&& (3 : Int32))) (v187 : Int32) (hv187 : v187 = (((p0.toUInt32 >>> ((4 : Int32) &&& 31).toUInt32).toInt32) &&& (3 : Int32))) (v188 : Int32) (hv188 : v188 = (((p0.toUInt32 >>> ((6 : Int32) &&& 31).toUInt32).toInt32) &&& (3 : Int32))) (v666 : Int64) (hv666 : v666 = (q4 ^^^ (-1 : Int64))) (v667 : Int64) (hv667 : v667 = (q5 ^^^ (-1 : Int64))) (hc772 : ((own_upd (own_upd (own_upd (own_g4 q4 q5 v666 v667) v186 q1) v187 q2) v188 q3) 0) = (own_f5 (0 : Int32) (3 : Int32) v186 v187 v188 q1 q2 q3 q4)) (hc778 : ¬ (((own_upd (own_upd (own_upd (own_g4 q4 q5 v666 v667) v186 q1) v187 q2) v188 q3) 1) = (own_f5 (1 : Int32) (3 : Int32) v186 v187 v188 q1 q2 q3 q5))) : False := by
  have gv186 := own_m3 ((p0.toUInt32 >>> ((2 : Int32) &&& 31).toUInt32).toInt32)
  rw [← hv186] at gv186
  clear hv186
  have gv187 := own_m3 ((p0.toUInt32 >>> ((4 : Int32) &&& 31).toUInt32).toInt32)
  rw [← hv187] at gv187
  clear hv187
  have gv188 := own_m3 ((p0.toUInt32 >>> ((6 : Int32) &&& 31).toUInt32).toInt32)
  rw [← hv188] at gv188
  clear hv188
  rcases gv186 with rfl | rfl | rfl | rfl <;> rcases gv187 with rfl | rfl | rfl | rfl <;> rcases gv188 with rfl | rfl | rfl | rfl <;> (apply hc778; simp [own_upd, own_g4, own_f5])
set_option maxRecDepth 65536 in
set_option maxHeartbeats 40000000 in
theorem own_leaf0_20 (p0 : Int32) (q1 : Int64) (q2 : Int64) (q3 : Int64) (q4 : Int64) (q5 : Int64) (hv185 : (3 : Int32) = (p0 &&& (3 : Int32))) (v186 : Int32) (hv186 : v186 = (((p0.toUInt32 >>> ((2 : Int32) &&& 31).toUInt32).toInt32) &&& (3 : Int32))) (v187 : Int32) (hv187 : v187 = (((p0.toUInt32 >>> ((4 : Int32) &&& 31).toUInt32).toInt32) &&& (3 : Int32))) (v188 : Int32) (hv188 : v188 = (((p0.toUInt32 >>> ((6 : Int32) &&& 31).toUInt32).toInt32) &&& (3 : Int32))) (v666 : Int64) (hv666 : v666 = (q4 ^^^ (-1 : Int64))) (v667 : Int64) (hv667 : v667 = (q5 ^^^ (-1 : Int64))) (hc772 : ¬ (((own_upd (own_upd (own_upd (own_g4 q4 q5 v666 v667) v186 q1) v187 q2) v188 q3) 0) = (own_f5 (0 : Int32) (3 : Int32) v186 v187 v188 q1 q2 q3 q4))) : False := by
  have gv186 := own_m3 ((p0.toUInt32 >>> ((2 : Int32) &&& 31).toUInt32).toInt32)
  rw [← hv186] at gv186
  clear hv186
  have gv187 := own_m3 ((p0.toUInt32 >>> ((4 : Int32) &&& 31).toUInt32).toInt32)
  rw [← hv187] at gv187
  clear hv187
  have gv188 := own_m3 ((p0.toUInt32 >>> ((6 : Int32) &&& 31).toUInt32).toInt32)
  rw [← hv188] at gv188
  clear hv188
  rcases gv186 with rfl | rfl | rfl | rfl <;> rcases gv187 with rfl | rfl | rfl | rfl <;> rcases gv188 with rfl | rfl | rfl | rfl <;> (apply hc772; simp [own_upd, own_g4, own_f5])
theorem own_ef0 (m : MethodId) (p0 : Int32) (q1 : Int64) (q2 : Int64) (q3 : Int64) (q4 : Int64) (q5 : Int64) : entryFrame m #[(.int p0), (.long q1), (.long q2), (.long q3), (.long q4), (.long q5)] maxLocals = mkF m 0 #[.val (.int p0), .val (.long q1), .second, .val (.long q2), .second, .val (.long q3), .second, .val (.long q4), .second, .val (.long q5), .second, .unset, .unset, .unset, .unset, .unset, .unset, .unset, .unset, .unset, .unset, .unset, .unset, .unset, .unset, .unset, .unset] [] := by first | (simp [entryFrame, mkF, argsToLocals, Value.category, maxLocals]; done) | rfl
def own_Q0 (Z : State) (p0 : Int32) (q1 : Int64) (q2 : Int64) (q3 : Int64) (q4 : Int64) (q5 : Int64) (h0 : Heap) (n0 : Nat) (v : Option Value) (h : Heap) (L : List Loc) : Prop := v = some (.int 1) ∧ Fr n0 L
set_option maxRecDepth 65536 in
set_option maxHeartbeats 40000000 in
theorem own_rm0 (l : Launch) (Z : State) (av : Array Value) (hw : ∀ d ∈ tables_1, d.before av Z = true) (ws : List Jvm.Cond) (p0 : Int32) (q1 : Int64) (q2 : Int64) (q3 : Int64) (q4 : Int64) (q5 : Int64) (h0 : Heap) (n0 : Nat) (Z0 : n0 ≤ h0.size) :
    MetFree l x (head1 (Jvm.Cond.code x code maxLocals ret :: ws) room_1) (fun a U => a = #[(.int p0), (.long q1), (.long q2), (.long q3), (.long q4), (.long q5)] ∧ Z.Warmed39 U.vm ∧ U.heap = h0) (fun _ _ _ _ _ => True) (fun _ U o U' => ∃ v L, o = .returned v ∧ own_Q0 Z p0 q1 q2 q3 q4 q5 h0 n0 v U'.heap L ∧ FrameEnd U o U' L room_1.cells room_1.slots) := by
  refine MetFree.of_bodySF (plainFor_of_name own_pn64) hisR ?_
  intro p e s m args below meth c s₁ Bd hml0 hP hK
  obtain ⟨rfl, hZ, hh⟩ := hP
  have hx := Bd.exec
  have hby := Bd.bytes
  have hml : c.maxLocals = 27 := hml0
  have hown : s.vm.findClass "com/example/thyme/thyme/engine/RestartWritePinLaw" = some m.cls := findClass_of_methodNamed Bd.named
  have hnm := (name_of_methodNamed Bd.named Bd.method).1
  have X0 : Stand p l e room_1 s m #[(.int p0), (.long q1), (.long q2), (.long q3), (.long q4), (.long q5)] below meth c s₁ [] 0 0 := Stand.of_body Bd
  have e0 : s₁.heap = h0 := by rw [← hh, Bd.state]; rfl
  have N0 := Fr.nil n0
  have pre0 : ∀ t, Steps p.tables e below (s₁.setTop (mkF m 0 #[.val (.int p0), .val (.long q1), .second, .val (.long q2), .second, .val (.long q3), .second, .val (.long q4), .second, .val (.long q5), .second, .unset, .unset, .unset, .unset, .unset, .unset, .unset, .unset, .unset, .unset, .unset, .unset, .unset, .unset, .unset, .unset] [])) t → Steps p.tables e below (s₁.setTop (entryFrame m #[(.int p0), (.long q1), (.long q2), (.long q3), (.long q4), (.long q5)] maxLocals)) t := fun t k => castTop (own_ef0 m p0 q1 q2 q3 q4 q5) k
  obtain ⟨v185, hv185⟩ : ∃ z : Int32, z = (p0 &&& (3 : Int32)) := ⟨_, rfl⟩
  obtain ⟨v186, hv186⟩ : ∃ z : Int32, z = (((p0.toUInt32 >>> ((2 : Int32) &&& 31).toUInt32).toInt32) &&& (3 : Int32)) := ⟨_, rfl⟩
  obtain ⟨v187, hv187⟩ : ∃ z : Int32, z = (((p0.toUInt32 >>> ((4 : Int32) &&& 31).toUInt32).toInt32) &&& (3 : Int32)) := ⟨_, rfl⟩
  obtain ⟨v188, hv188⟩ : ∃ z : Int32, z = (((p0.toUInt32 >>> ((6 : Int32) &&& 31).toUInt32).toInt32) &&& (3 : Int32)) := ⟨_, rfl⟩
  have pre190 : ∀ t, Steps p.tables e below (s₁.setTop (mkF m 27 #[.val (.int p0), .val (.long q1), .second, .val (.long q2), .second, .val (.long q3), .second, .val (.long q4), .second, .val (.long q5), .second, .val (.int v185), .val (.int v186), .val (.int v187), .val (.int v188), .unset, .unset, .unset, .unset, .unset, .unset, .unset, .unset, .unset, .unset, .unset, .unset] [])) t → Steps p.tables e below (s₁.setTop (entryFrame m #[(.int p0), (.long q1), (.long q2), (.long q3), (.long q4), (.long q5)] maxLocals)) t := fun t kk => pre0 t (by
    show Steps p.tables e below (s₁.setTop (mkF m 0 #[.val (.int p0), .val (.long q1), .second, .val (.long q2), .second, .val (.long q3), .second, .val (.long q4), .second, .val (.long q5), .second, .unset, .unset, .unset, .unset, .unset, .unset, .unset, .unset, .unset, .unset, .unset, .unset, .unset, .unset, .unset, .unset] [])) _
    refine XS.iloadN X0.here hx rfl (hb hby at_0) rfl ?_
    show Steps p.tables e below (s₁.setTop (mkF m 1 #[.val (.int p0), .val (.long q1), .second, .val (.long q2), .second, .val (.long q3), .second, .val (.long q4), .second, .val (.long q5), .second, .unset, .unset, .unset, .unset, .unset, .unset, .unset, .unset, .unset, .unset, .unset, .unset, .unset, .unset, .unset, .unset] [(.int p0)])) _
    refine XS.iconst X0.here hx rfl (hb hby at_1) ?_
    show Steps p.tables e below (s₁.setTop (mkF m 2 #[.val (.int p0), .val (.long q1), .second, .val (.long q2), .second, .val (.long q3), .second, .val (.long q4), .second, .val (.long q5), .second, .unset, .unset, .unset, .unset, .unset, .unset, .unset, .unset, .unset, .unset, .unset, .unset, .unset, .unset, .unset, .unset] [(.int (3 : Int32)), (.int p0)])) _
    refine XS.iand X0.here hx rfl (hb hby at_2) rfl ?_
    show Steps p.tables e below (s₁.setTop (mkF m 3 #[.val (.int p0), .val (.long q1), .second, .val (.long q2), .second, .val (.long q3), .second, .val (.long q4), .second, .val (.long q5), .second, .unset, .unset, .unset, .unset, .unset, .unset, .unset, .unset, .unset, .unset, .unset, .unset, .unset, .unset, .unset, .unset] [(.int (p0 &&& (3 : Int32)))])) _
    refine castTop (congrArg (fun z : Int32 => mkF m 3 #[.val (.int p0), .val (.long q1), .second, .val (.long q2), .second, .val (.long q3), .second, .val (.long q4), .second, .val (.long q5), .second, .unset, .unset, .unset, .unset, .unset, .unset, .unset, .unset, .unset, .unset, .unset, .unset, .unset, .unset, .unset, .unset] [(.int z)]) hv185.symm) ?_
    show Steps p.tables e below (s₁.setTop (mkF m 3 #[.val (.int p0), .val (.long q1), .second, .val (.long q2), .second, .val (.long q3), .second, .val (.long q4), .second, .val (.long q5), .second, .unset, .unset, .unset, .unset, .unset, .unset, .unset, .unset, .unset, .unset, .unset, .unset, .unset, .unset, .unset, .unset] [(.int v185)])) _
    refine XS.istore X0.here hx rfl (hb hby at_3) rfl (l' := #[.val (.int p0), .val (.long q1), .second, .val (.long q2), .second, .val (.long q3), .second, .val (.long q4), .second, .val (.long q5), .second, .val (.int v185), .unset, .unset, .unset, .unset, .unset, .unset, .unset, .unset, .unset, .unset, .unset, .unset, .unset, .unset, .unset]) rfl ?_
    show Steps p.tables e below (s₁.setTop (mkF m 5 #[.val (.int p0), .val (.long q1), .second, .val (.long q2), .second, .val (.long q3), .second, .val (.long q4), .second, .val (.long q5), .second, .val (.int v185), .unset, .unset, .unset, .unset, .unset, .unset, .unset, .unset, .unset, .unset, .unset, .unset, .unset, .unset, .unset] [])) _
    refine XS.iloadN X0.here hx rfl (hb hby at_5) rfl ?_
    show Steps p.tables e below (s₁.setTop (mkF m 6 #[.val (.int p0), .val (.long q1), .second, .val (.long q2), .second, .val (.long q3), .second, .val (.long q4), .second, .val (.long q5), .second, .val (.int v185), .unset, .unset, .unset, .unset, .unset, .unset, .unset, .unset, .unset, .unset, .unset, .unset, .unset, .unset, .unset] [(.int p0)])) _
    refine XS.iconst X0.here hx rfl (hb hby at_6) ?_
    show Steps p.tables e below (s₁.setTop (mkF m 7 #[.val (.int p0), .val (.long q1), .second, .val (.long q2), .second, .val (.long q3), .second, .val (.long q4), .second, .val (.long q5), .second, .val (.int v185), .unset, .unset, .unset, .unset, .unset, .unset, .unset, .unset, .unset, .unset, .unset, .unset, .unset, .unset, .unset] [(.int (2 : Int32)), (.int p0)])) _
    refine XS.iushr X0.here hx rfl (hb hby at_7) rfl ?_
    show Steps p.tables e below (s₁.setTop (mkF m 8 #[.val (.int p0), .val (.long q1), .second, .val (.long q2), .second, .val (.long q3), .second, .val (.long q4), .second, .val (.long q5), .second, .val (.int v185), .unset, .unset, .unset, .unset, .unset, .unset, .unset, .unset, .unset, .unset, .unset, .unset, .unset, .unset, .unset] [(.int ((p0.toUInt32 >>> ((2 : Int32) &&& 31).toUInt32).toInt32))])) _
    refine XS.iconst X0.here hx rfl (hb hby at_8) ?_
    show Steps p.tables e below (s₁.setTop (mkF m 9 #[.val (.int p0), .val (.long q1), .second, .val (.long q2), .second, .val (.long q3), .second, .val (.long q4), .second, .val (.long q5), .second, .val (.int v185), .unset, .unset, .unset, .unset, .unset, .unset, .unset, .unset, .unset, .unset, .unset, .unset, .unset, .unset, .unset] [(.int (3 : Int32)), (.int ((p0.toUInt32 >>> ((2 : Int32) &&& 31).toUInt32).toInt32))])) _
    refine XS.iand X0.here hx rfl (hb hby at_9) rfl ?_
    show Steps p.tables e below (s₁.setTop (mkF m 10 #[.val (.int p0), .val (.long q1), .second, .val (.long q2), .second, .val (.long q3), .second, .val (.long q4), .second, .val (.long q5), .second, .val (.int v185), .unset, .unset, .unset, .unset, .unset, .unset, .unset, .unset, .unset, .unset, .unset, .unset, .unset, .unset, .unset] [(.int (((p0.toUInt32 >>> ((2 : Int32) &&& 31).toUInt32).toInt32) &&& (3 : Int32)))])) _
    refine castTop (congrArg (fun z : Int32 => mkF m 10 #[.val (.int p0), .val (.long q1), .second, .val (.long q2), .second, .val (.long q3), .second, .val (.long q4), .second, .val (.long q5), .second, .val (.int v185), .unset, .unset, .unset, .unset, .unset, .unset, .unset, .unset, .unset, .unset, .unset, .unset, .unset, .unset, .unset] [(.int z)]) hv186.symm) ?_
    show Steps p.tables e below (s₁.setTop (mkF m 10 #[.val (.int p0), .val (.long q1), .second, .val (.long q2), .second, .val (.long q3), .second, .val (.long q4), .second, .val (.long q5), .second, .val (.int v185), .unset, .unset, .unset, .unset, .unset, .unset, .unset, .unset, .unset, .unset, .unset, .unset, .unset, .unset, .unset] [(.int v186)])) _
    refine XS.istore X0.here hx rfl (hb hby at_10) rfl (l' := #[.val (.int p0), .val (.long q1), .second, .val (.long q2), .second, .val (.long q3), .second, .val (.long q4), .second, .val (.long q5), .second, .val (.int v185), .val (.int v186), .unset, .unset, .unset, .unset, .unset, .unset, .unset, .unset, .unset, .unset, .unset, .unset, .unset, .unset]) rfl ?_
    show Steps p.tables e below (s₁.setTop (mkF m 12 #[.val (.int p0), .val (.long q1), .second, .val (.long q2), .second, .val (.long q3), .second, .val (.long q4), .second, .val (.long q5), .second, .val (.int v185), .val (.int v186), .unset, .unset, .unset, .unset, .unset, .unset, .unset, .unset, .unset, .unset, .unset, .unset, .unset, .unset] [])) _
    refine XS.iloadN X0.here hx rfl (hb hby at_12) rfl ?_
    show Steps p.tables e below (s₁.setTop (mkF m 13 #[.val (.int p0), .val (.long q1), .second, .val (.long q2), .second, .val (.long q3), .second, .val (.long q4), .second, .val (.long q5), .second, .val (.int v185), .val (.int v186), .unset, .unset, .unset, .unset, .unset, .unset, .unset, .unset, .unset, .unset, .unset, .unset, .unset, .unset] [(.int p0)])) _
    refine XS.iconst X0.here hx rfl (hb hby at_13) ?_
    show Steps p.tables e below (s₁.setTop (mkF m 14 #[.val (.int p0), .val (.long q1), .second, .val (.long q2), .second, .val (.long q3), .second, .val (.long q4), .second, .val (.long q5), .second, .val (.int v185), .val (.int v186), .unset, .unset, .unset, .unset, .unset, .unset, .unset, .unset, .unset, .unset, .unset, .unset, .unset, .unset] [(.int (4 : Int32)), (.int p0)])) _
    refine XS.iushr X0.here hx rfl (hb hby at_14) rfl ?_
    show Steps p.tables e below (s₁.setTop (mkF m 15 #[.val (.int p0), .val (.long q1), .second, .val (.long q2), .second, .val (.long q3), .second, .val (.long q4), .second, .val (.long q5), .second, .val (.int v185), .val (.int v186), .unset, .unset, .unset, .unset, .unset, .unset, .unset, .unset, .unset, .unset, .unset, .unset, .unset, .unset] [(.int ((p0.toUInt32 >>> ((4 : Int32) &&& 31).toUInt32).toInt32))])) _
    refine XS.iconst X0.here hx rfl (hb hby at_15) ?_
    show Steps p.tables e below (s₁.setTop (mkF m 16 #[.val (.int p0), .val (.long q1), .second, .val (.long q2), .second, .val (.long q3), .second, .val (.long q4), .second, .val (.long q5), .second, .val (.int v185), .val (.int v186), .unset, .unset, .unset, .unset, .unset, .unset, .unset, .unset, .unset, .unset, .unset, .unset, .unset, .unset] [(.int (3 : Int32)), (.int ((p0.toUInt32 >>> ((4 : Int32) &&& 31).toUInt32).toInt32))])) _
    refine XS.iand X0.here hx rfl (hb hby at_16) rfl ?_
    show Steps p.tables e below (s₁.setTop (mkF m 17 #[.val (.int p0), .val (.long q1), .second, .val (.long q2), .second, .val (.long q3), .second, .val (.long q4), .second, .val (.long q5), .second, .val (.int v185), .val (.int v186), .unset, .unset, .unset, .unset, .unset, .unset, .unset, .unset, .unset, .unset, .unset, .unset, .unset, .unset] [(.int (((p0.toUInt32 >>> ((4 : Int32) &&& 31).toUInt32).toInt32) &&& (3 : Int32)))])) _
    refine castTop (congrArg (fun z : Int32 => mkF m 17 #[.val (.int p0), .val (.long q1), .second, .val (.long q2), .second, .val (.long q3), .second, .val (.long q4), .second, .val (.long q5), .second, .val (.int v185), .val (.int v186), .unset, .unset, .unset, .unset, .unset, .unset, .unset, .unset, .unset, .unset, .unset, .unset, .unset, .unset] [(.int z)]) hv187.symm) ?_
    show Steps p.tables e below (s₁.setTop (mkF m 17 #[.val (.int p0), .val (.long q1), .second, .val (.long q2), .second, .val (.long q3), .second, .val (.long q4), .second, .val (.long q5), .second, .val (.int v185), .val (.int v186), .unset, .unset, .unset, .unset, .unset, .unset, .unset, .unset, .unset, .unset, .unset, .unset, .unset, .unset] [(.int v187)])) _
    refine XS.istore X0.here hx rfl (hb hby at_17) rfl (l' := #[.val (.int p0), .val (.long q1), .second, .val (.long q2), .second, .val (.long q3), .second, .val (.long q4), .second, .val (.long q5), .second, .val (.int v185), .val (.int v186), .val (.int v187), .unset, .unset, .unset, .unset, .unset, .unset, .unset, .unset, .unset, .unset, .unset, .unset, .unset]) rfl ?_
    show Steps p.tables e below (s₁.setTop (mkF m 19 #[.val (.int p0), .val (.long q1), .second, .val (.long q2), .second, .val (.long q3), .second, .val (.long q4), .second, .val (.long q5), .second, .val (.int v185), .val (.int v186), .val (.int v187), .unset, .unset, .unset, .unset, .unset, .unset, .unset, .unset, .unset, .unset, .unset, .unset, .unset] [])) _
    refine XS.iloadN X0.here hx rfl (hb hby at_19) rfl ?_
    show Steps p.tables e below (s₁.setTop (mkF m 20 #[.val (.int p0), .val (.long q1), .second, .val (.long q2), .second, .val (.long q3), .second, .val (.long q4), .second, .val (.long q5), .second, .val (.int v185), .val (.int v186), .val (.int v187), .unset, .unset, .unset, .unset, .unset, .unset, .unset, .unset, .unset, .unset, .unset, .unset, .unset] [(.int p0)])) _
    refine XS.bipush X0.here hx rfl (hb hby at_20) ?_
    show Steps p.tables e below (s₁.setTop (mkF m 22 #[.val (.int p0), .val (.long q1), .second, .val (.long q2), .second, .val (.long q3), .second, .val (.long q4), .second, .val (.long q5), .second, .val (.int v185), .val (.int v186), .val (.int v187), .unset, .unset, .unset, .unset, .unset, .unset, .unset, .unset, .unset, .unset, .unset, .unset, .unset] [(.int (6 : Int32)), (.int p0)])) _
    refine XS.iushr X0.here hx rfl (hb hby at_22) rfl ?_
    show Steps p.tables e below (s₁.setTop (mkF m 23 #[.val (.int p0), .val (.long q1), .second, .val (.long q2), .second, .val (.long q3), .second, .val (.long q4), .second, .val (.long q5), .second, .val (.int v185), .val (.int v186), .val (.int v187), .unset, .unset, .unset, .unset, .unset, .unset, .unset, .unset, .unset, .unset, .unset, .unset, .unset] [(.int ((p0.toUInt32 >>> ((6 : Int32) &&& 31).toUInt32).toInt32))])) _
    refine XS.iconst X0.here hx rfl (hb hby at_23) ?_
    show Steps p.tables e below (s₁.setTop (mkF m 24 #[.val (.int p0), .val (.long q1), .second, .val (.long q2), .second, .val (.long q3), .second, .val (.long q4), .second, .val (.long q5), .second, .val (.int v185), .val (.int v186), .val (.int v187), .unset, .unset, .unset, .unset, .unset, .unset, .unset, .unset, .unset, .unset, .unset, .unset, .unset] [(.int (3 : Int32)), (.int ((p0.toUInt32 >>> ((6 : Int32) &&& 31).toUInt32).toInt32))])) _
    refine XS.iand X0.here hx rfl (hb hby at_24) rfl ?_
    show Steps p.tables e below (s₁.setTop (mkF m 25 #[.val (.int p0), .val (.long q1), .second, .val (.long q2), .second, .val (.long q3), .second, .val (.long q4), .second, .val (.long q5), .second, .val (.int v185), .val (.int v186), .val (.int v187), .unset, .unset, .unset, .unset, .unset, .unset, .unset, .unset, .unset, .unset, .unset, .unset, .unset] [(.int (((p0.toUInt32 >>> ((6 : Int32) &&& 31).toUInt32).toInt32) &&& (3 : Int32)))])) _
    refine castTop (congrArg (fun z : Int32 => mkF m 25 #[.val (.int p0), .val (.long q1), .second, .val (.long q2), .second, .val (.long q3), .second, .val (.long q4), .second, .val (.long q5), .second, .val (.int v185), .val (.int v186), .val (.int v187), .unset, .unset, .unset, .unset, .unset, .unset, .unset, .unset, .unset, .unset, .unset, .unset, .unset] [(.int z)]) hv188.symm) ?_
    show Steps p.tables e below (s₁.setTop (mkF m 25 #[.val (.int p0), .val (.long q1), .second, .val (.long q2), .second, .val (.long q3), .second, .val (.long q4), .second, .val (.long q5), .second, .val (.int v185), .val (.int v186), .val (.int v187), .unset, .unset, .unset, .unset, .unset, .unset, .unset, .unset, .unset, .unset, .unset, .unset, .unset] [(.int v188)])) _
    refine XS.istore X0.here hx rfl (hb hby at_25) rfl (l' := #[.val (.int p0), .val (.long q1), .second, .val (.long q2), .second, .val (.long q3), .second, .val (.long q4), .second, .val (.long q5), .second, .val (.int v185), .val (.int v186), .val (.int v187), .val (.int v188), .unset, .unset, .unset, .unset, .unset, .unset, .unset, .unset, .unset, .unset, .unset, .unset]) rfl ?_
    exact kk)
  rcases (own_side189 p0 v185 hv185) with hs191 | hs191 | hs191 | hs191
  · subst hs191
    obtain ⟨T192, h192, k192, X192, e192, E192, A192, st192⟩ := newP X0 hx hZ (hw _ (List.mem_of_getElem? (i := 0) rfl)) e0 (g := (mkF m 33 #[.val (.int p0), .val (.long q1), .second, .val (.long q2), .second, .val (.long q3), .second, .val (.long q4), .second, .val (.long q5), .second, .val (.int (0 : Int32)), .val (.int v186), .val (.int v187), .val (.int v188), .unset, .unset, .unset, .unset, .unset, .unset, .unset, .unset, .unset, .unset, .unset, .unset] [(.int (0 : Int32))])) rfl (hb hby at_33) rfl (by decide) (cap := 0) (by decide) (by decide) (by decide) (by decide)
    obtain ⟨b192, g192⟩ : ∃ z, z = h0.size := ⟨_, rfl⟩
    have g_b192 : n0 ≤ b192 := Nat.le_trans Z0 (Nat.le_of_eq g192.symm)
    have sz_b192 : h0.size ≤ b192 := Nat.le_trans (Keep.refl h0 []).1 (Nat.le_of_eq g192.symm)
    rw [← g192] at A192 st192
    have z193 : n0 ≤ h192.size := Nat.le_trans Z0 E192.1
    have K194 : Keep h0 h192 [] := (Keep.refl h0 []).ext E192
    have f195 : Arv Z h192 b192 k192 .int (0 : Int32) [] (.int (0 : Int32)) := (Arv.new A192 (by decide)).pad (pad_rep [] (.int (0 : Int32)) 0)
    obtain ⟨T196, h196, k196, X196, e196, E196, A196, st196⟩ := newP X192 hx hZ (hw _ (List.mem_of_getElem? (i := 1) rfl)) e192 (g := (mkF m 38 #[.val (.int p0), .val (.long q1), .second, .val (.long q2), .second, .val (.long q3), .second, .val (.long q4), .second, .val (.long q5), .second, .val (.int (0 : Int32)), .val (.int v186), .val (.int v187), .val (.int v188), .val (.ref b192), .unset, .unset, .unset, .unset, .unset, .unset, .unset, .unset, .unset, .unset, .unset] [(.int (0 : Int32))])) rfl (hb hby at_38) rfl (by decide) (cap := 0) (by decide) (by decide) (by decide) (by decide)
    obtain ⟨b196, g196⟩ : ∃ z, z = h192.size := ⟨_, rfl⟩
    have ne_b192_b196 : b192 ≠ b196 := Nat.ne_of_lt (Nat.lt_of_lt_of_le f195.lt (Nat.le_of_eq g196.symm))
    have g_b196 : n0 ≤ b196 := Nat.le_trans z193 (Nat.le_of_eq g196.symm)
    have sz_b196 : h0.size ≤ b196 := Nat.le_trans K194.1 (Nat.le_of_eq g196.symm)
    rw [← g196] at A196 st196
    have f197 := f195.ext E196
    have z198 : n0 ≤ h196.size := Nat.le_trans z193 E196.1
    have K199 : Keep h0 h196 [] := K194.ext E196
    have f200 : Arv Z h196 b196 k196 .long (0 : Int32) [] (.long (0 : Int64)) := (Arv.new A196 (by decide)).pad (pad_rep [] (.long (0 : Int64)) 0)
    obtain ⟨v201, hv201⟩ : ∃ z : Int64, z = (q4 ^^^ (-1 : Int64)) := ⟨_, rfl⟩
    obtain ⟨v202, hv202⟩ : ∃ z : Int64, z = (q5 ^^^ (-1 : Int64)) := ⟨_, rfl⟩
    obtain ⟨T203, h203, k203, X203, e203, E203, A203, st203⟩ := newP X196 hx hZ (hw _ (List.mem_of_getElem? (i := 1) rfl)) e196 (g := (mkF m 173 #[.val (.int p0), .val (.long q1), .second, .val (.long q2), .second, .val (.long q3), .second, .val (.long q4), .second, .val (.long q5), .second, .val (.int (0 : Int32)), .val (.int v186), .val (.int v187), .val (.int v188), .val (.ref b192), .val (.ref b196), .val (.long q4), .second, .val (.long q5), .second, .val (.long v201), .second, .val (.long v202), .second, .unset, .unset] [(.int (4 : Int32))])) rfl (hb hby at_173) rfl (by decide) (cap := 4) (by decide) (by decide) (by decide) (by decide)
    obtain ⟨b203, g203⟩ : ∃ z, z = h196.size := ⟨_, rfl⟩
    have ne_b192_b203 : b192 ≠ b203 := Nat.ne_of_lt (Nat.lt_of_lt_of_le f197.lt (Nat.le_of_eq g203.symm))
    have ne_b196_b203 : b196 ≠ b203 := Nat.ne_of_lt (Nat.lt_of_lt_of_le f200.lt (Nat.le_of_eq g203.symm))
    have g_b203 : n0 ≤ b203 := Nat.le_trans z198 (Nat.le_of_eq g203.symm)
    have sz_b203 : h0.size ≤ b203 := Nat.le_trans K199.1 (Nat.le_of_eq g203.symm)
    rw [← g203] at A203 st203
    have f204 := f197.ext E203
    have f205 := f200.ext E203
    have z206 : n0 ≤ h203.size := Nat.le_trans z198 E203.1
    have K207 : Keep h0 h203 [] := K199.ext E203
    have f208 : Arv Z h203 b203 k203 .long (4 : Int32) [(.long (0 : Int64)), (.long (0 : Int64)), (.long (0 : Int64)), (.long (0 : Int64))] (.long (0 : Int64)) := (Arv.new A203 (by decide)).pad (pad_rep [] (.long (0 : Int64)) 4)
    obtain ⟨cl209, Ar209, q209, S209, M209, H209, G209⟩ := id f208
    have hin209 : ¬ ((0 : Int32) < 0 ∨ cl209.slots.size ≤ ((0 : Int32)).toNatClampNeg) := inb_of S209 ⟨by decide, by decide⟩
    obtain ⟨T210, h210, X210, e210, W210, st210⟩ := stJ X203 hx hZ e203 Ar209 (j := (0 : Int32)) hin209 (g := (mkF m 179 #[.val (.int p0), .val (.long q1), .second, .val (.long q2), .second, .val (.long q3), .second, .val (.long q4), .second, .val (.long q5), .second, .val (.int (0 : Int32)), .val (.int v186), .val (.int v187), .val (.int v188), .val (.ref b192), .val (.ref b196), .val (.long q4), .second, .val (.long q5), .second, .val (.long v201), .second, .val (.long v202), .second, .unset, .unset] [(.long q4), (.int (0 : Int32)), (.ref b203), (.ref b203)])) rfl rfl (hb hby at_179)
    have f211 := f204.other W210 ne_b192_b203
    have f212 := f205.other W210 ne_b196_b203
    have K213 : Keep h0 h210 [] := K207.wr W210 (Or.inr sz_b203)
    have z214 : n0 ≤ h210.size := Nat.le_trans z206 (Keep.of_wr W210).1
    have N215 := Fr.snoc X210 N0 g_b203
    have f216 : Arv Z h210 b203 k203 .long (4 : Int32) [(.long q4), (.long (0 : Int64)), (.long (0 : Int64)), (.long (0 : Int64))] (.long (0 : Int64)) := Arv.set Ar209 q209 S209 M209 H209 G209 rfl W210 0 rfl (Nat.le_of_ble_eq_true rfl)
    obtain ⟨cl217, Ar217, q217, S217, M217, H217, G217⟩ := id f216
    have hin217 : ¬ ((1 : Int32) < 0 ∨ cl217.slots.size ≤ ((1 : Int32)).toNatClampNeg) := inb_of S217 ⟨by decide, by decide⟩
    obtain ⟨T218, h218, X218, e218, W218, st218⟩ := stJ X210 hx hZ e210 Ar217 (j := (1 : Int32)) hin217 (g := (mkF m 184 #[.val (.int p0), .val (.long q1), .second, .val (.long q2), .second, .val (.long q3), .second, .val (.long q4), .second, .val (.long q5), .second, .val (.int (0 : Int32)), .val (.int v186), .val (.int v187), .val (.int v188), .val (.ref b192), .val (.ref b196), .val (.long q4), .second, .val (.long q5), .second, .val (.long v201), .second, .val (.long v202), .second, .unset, .unset] [(.long q5), (.int (1 : Int32)), (.ref b203), (.ref b203)])) rfl rfl (hb hby at_184)
    have f219 := f211.other W218 ne_b192_b203
    have f220 := f212.other W218 ne_b196_b203
    have K221 : Keep h0 h218 [] := K213.wr W218 (Or.inr sz_b203)
    have z222 : n0 ≤ h218.size := Nat.le_trans z214 (Keep.of_wr W218).1
    have N223 := Fr.snoc X218 N215 g_b203
    have f224 : Arv Z h218 b203 k203 .long (4 : Int32) [(.long q4), (.long q5), (.long (0 : Int64)), (.long (0 : Int64))] (.long (0 : Int64)) := Arv.set Ar217 q217 S217 M217 H217 G217 rfl W218 1 rfl (Nat.le_of_ble_eq_true rfl)
    obtain ⟨cl225, Ar225, q225, S225, M225, H225, G225⟩ := id f224
    have hin225 : ¬ ((2 : Int32) < 0 ∨ cl225.slots.size ≤ ((2 : Int32)).toNatClampNeg) := inb_of S225 ⟨by decide, by decide⟩
    obtain ⟨T226, h226, X226, e226, W226, st226⟩ := stJ X218 hx hZ e218 Ar225 (j := (2 : Int32)) hin225 (g := (mkF m 189 #[.val (.int p0), .val (.long q1), .second, .val (.long q2), .second, .val (.long q3), .second, .val (.long q4), .second, .val (.long q5), .second, .val (.int (0 : Int32)), .val (.int v186), .val (.int v187), .val (.int v188), .val (.ref b192), .val (.ref b196), .val (.long q4), .second, .val (.long q5), .second, .val (.long v201), .second, .val (.long v202), .second, .unset, .unset] [(.long v201), (.int (2 : Int32)), (.ref b203), (.ref b203)])) rfl rfl (hb hby at_189)
    have f227 := f219.other W226 ne_b192_b203
    have f228 := f220.other W226 ne_b196_b203
    have K229 : Keep h0 h226 [] := K221.wr W226 (Or.inr sz_b203)
    have z230 : n0 ≤ h226.size := Nat.le_trans z222 (Keep.of_wr W226).1
    have N231 := Fr.snoc X226 N223 g_b203
    have f232 : Arv Z h226 b203 k203 .long (4 : Int32) [(.long q4), (.long q5), (.long v201), (.long (0 : Int64))] (.long (0 : Int64)) := Arv.set Ar225 q225 S225 M225 H225 G225 rfl W226 2 rfl (Nat.le_of_ble_eq_true rfl)
    obtain ⟨cl233, Ar233, q233, S233, M233, H233, G233⟩ := id f232
    have hin233 : ¬ ((3 : Int32) < 0 ∨ cl233.slots.size ≤ ((3 : Int32)).toNatClampNeg) := inb_of S233 ⟨by decide, by decide⟩
    obtain ⟨T234, h234, X234, e234, W234, st234⟩ := stJ X226 hx hZ e226 Ar233 (j := (3 : Int32)) hin233 (g := (mkF m 194 #[.val (.int p0), .val (.long q1), .second, .val (.long q2), .second, .val (.long q3), .second, .val (.long q4), .second, .val (.long q5), .second, .val (.int (0 : Int32)), .val (.int v186), .val (.int v187), .val (.int v188), .val (.ref b192), .val (.ref b196), .val (.long q4), .second, .val (.long q5), .second, .val (.long v201), .second, .val (.long v202), .second, .unset, .unset] [(.long v202), (.int (3 : Int32)), (.ref b203), (.ref b203)])) rfl rfl (hb hby at_194)
    have f235 := f227.other W234 ne_b192_b203
    have f236 := f228.other W234 ne_b196_b203
    have K237 : Keep h0 h234 [] := K229.wr W234 (Or.inr sz_b203)
    have z238 : n0 ≤ h234.size := Nat.le_trans z230 (Keep.of_wr W234).1
    have N239 := Fr.snoc X234 N231 g_b203
    have f240 : Arv Z h234 b203 k203 .long (4 : Int32) [(.long q4), (.long q5), (.long v201), (.long v202)] (.long (0 : Int64)) := Arv.set Ar233 q233 S233 M233 H233 G233 rfl W234 3 rfl (Nat.le_of_ble_eq_true rfl)
    obtain ⟨T241, h241, X241, e241, E241, A241, D241, -, st241⟩ := newO X234 hx hZ hown (hw _ (List.mem_of_getElem? (i := 3) rfl)) (hw _ (List.mem_of_getElem? (i := 4) rfl)) (hw _ (List.mem_of_getElem? (i := 5) rfl)) e234 (g := (mkF m 197 #[.val (.int p0), .val (.long q1), .second, .val (.long q2), .second, .val (.long q3), .second, .val (.long q4), .second, .val (.long q5), .second, .val (.int (0 : Int32)), .val (.int v186), .val (.int v187), .val (.int v188), .val (.ref b192), .val (.ref b196), .val (.long q4), .second, .val (.long q5), .second, .val (.long v201), .second, .val (.long v202), .second, .val (.ref b203), .unset] [])) rfl (hb hby at_197) (by decide) (by decide)
    obtain ⟨b241, g241⟩ : ∃ z, z = h234.size := ⟨_, rfl⟩
    have ne_b192_b241 : b192 ≠ b241 := Nat.ne_of_lt (Nat.lt_of_lt_of_le f235.lt (Nat.le_of_eq g241.symm))
    have ne_b196_b241 : b196 ≠ b241 := Nat.ne_of_lt (Nat.lt_of_lt_of_le f236.lt (Nat.le_of_eq g241.symm))
    have ne_b203_b241 : b203 ≠ b241 := Nat.ne_of_lt (Nat.lt_of_lt_of_le f240.lt (Nat.le_of_eq g241.symm))
    have g_b241 : n0 ≤ b241 := Nat.le_trans z238 (Nat.le_of_eq g241.symm)
    have sz_b241 : h0.size ≤ b241 := Nat.le_trans K237.1 (Nat.le_of_eq g241.symm)
    rw [← g241] at A241 D241 st241
    have f242 := f235.ext E241
    have f243 := f236.ext E241
    have f244 := f240.ext E241
    have z245 : n0 ≤ h241.size := Nat.le_trans z238 E241.1
    have K246 : Keep h0 h241 [] := K237.ext E241
    have f247 : Fld Z h241 b241 "com/example/thyme/thyme/engine/Hierarchy$Restart" "slots" "[I" .null := D241 (Or.inr (hw _ (List.mem_of_getElem? (i := 18) rfl))) (ty := (.array .int)) (by decide)
    have f248 : Fld Z h241 b241 "com/example/thyme/thyme/engine/Hierarchy$Restart" "values" "[J" .null := D241 (Or.inr (hw _ (List.mem_of_getElem? (i := 20) rfl))) (ty := (.array .long)) (by decide)
    have f249 : Fld Z h241 b241 "com/example/thyme/thyme/engine/Hierarchy$Restart" "clocks" "[I" .null := D241 (Or.inr (hw _ (List.mem_of_getElem? (i := 22) rfl))) (ty := (.array .int)) (by decide)
    obtain ⟨T250, h250, k250, X250, e250, E250, A250, st250⟩ := newP X241 hx hZ (hw _ (List.mem_of_getElem? (i := 0) rfl)) e241 (g := (mkF m 206 #[.val (.int p0), .val (.long q1), .second, .val (.long q2), .second, .val (.long q3), .second, .val (.long q4), .second, .val (.long q5), .second, .val (.int (0 : Int32)), .val (.int v186), .val (.int v187), .val (.int v188), .val (.ref b192), .val (.ref b196), .val (.long q4), .second, .val (.long q5), .second, .val (.long v201), .second, .val (.long v202), .second, .val (.ref b203), .unset] [(.int (1 : Int32)), (.ref b196), (.ref b192), (.ref b241), (.ref b241)])) rfl (hb hby at_206) rfl (by decide) (cap := 1) (by decide) (by decide) (by decide) (by decide)
    obtain ⟨b250, g250⟩ : ∃ z, z = h241.size := ⟨_, rfl⟩
    have ne_b192_b250 : b192 ≠ b250 := Nat.ne_of_lt (Nat.lt_of_lt_of_le f242.lt (Nat.le_of_eq g250.symm))
    have ne_b196_b250 : b196 ≠ b250 := Nat.ne_of_lt (Nat.lt_of_lt_of_le f243.lt (Nat.le_of_eq g250.symm))
    have ne_b203_b250 : b203 ≠ b250 := Nat.ne_of_lt (Nat.lt_of_lt_of_le f244.lt (Nat.le_of_eq g250.symm))
    have ne_b241_b250 : b241 ≠ b250 := Nat.ne_of_lt (Nat.lt_of_lt_of_le A241.lt (Nat.le_of_eq g250.symm))
    have g_b250 : n0 ≤ b250 := Nat.le_trans z245 (Nat.le_of_eq g250.symm)
    have sz_b250 : h0.size ≤ b250 := Nat.le_trans K246.1 (Nat.le_of_eq g250.symm)
    rw [← g250] at A250 st250
    have f251 := f242.ext E250
    have f252 := f243.ext E250
    have f253 := f244.ext E250
    have f254 := A241.ext E250
    have f255 := f247.ext E250
    have f256 := f248.ext E250
    have f257 := f249.ext E250
    have z258 : n0 ≤ h250.size := Nat.le_trans z245 E250.1
    have K259 : Keep h0 h250 [] := K246.ext E250
    have f260 : Arv Z h250 b250 k250 .int (1 : Int32) [(.int (0 : Int32))] (.int (0 : Int32)) := (Arv.new A250 (by decide)).pad (pad_rep [] (.int (0 : Int32)) 1)
    obtain ⟨cl261, Ar261, q261, S261, M261, H261, G261⟩ := id f260
    have hin261 : ¬ ((0 : Int32) < 0 ∨ cl261.slots.size ≤ ((0 : Int32)).toNatClampNeg) := inb_of S261 ⟨by decide, by decide⟩
    obtain ⟨T262, h262, X262, e262, W262, st262⟩ := stI X250 hx hZ e250 Ar261 (j := (0 : Int32)) hin261 (g := (mkF m 212 #[.val (.int p0), .val (.long q1), .second, .val (.long q2), .second, .val (.long q3), .second, .val (.long q4), .second, .val (.long q5), .second, .val (.int (0 : Int32)), .val (.int v186), .val (.int v187), .val (.int v188), .val (.ref b192), .val (.ref b196), .val (.long q4), .second, .val (.long q5), .second, .val (.long v201), .second, .val (.long v202), .second, .val (.ref b203), .unset] [(.int v188), (.int (0 : Int32)), (.ref b250), (.ref b250), (.ref b196), (.ref b192), (.ref b241), (.ref b241)])) rfl rfl (hb hby at_212)
    have f263 := f251.other W262 ne_b192_b250
    have f264 := f252.other W262 ne_b196_b250
    have f265 := f253.other W262 ne_b203_b250
    have f266 := f254.wr W262
    have f267 := f255.other W262 (Or.inl ne_b241_b250)
    have f268 := f256.other W262 (Or.inl ne_b241_b250)
    have f269 := f257.other W262 (Or.inl ne_b241_b250)
    have K270 : Keep h0 h262 [] := K259.wr W262 (Or.inr sz_b250)
    have z271 : n0 ≤ h262.size := Nat.le_trans z258 (Keep.of_wr W262).1
    have N272 := Fr.snoc X262 N239 g_b250
    have f273 : Arv Z h262 b250 k250 .int (1 : Int32) [(.int v188)] (.int (0 : Int32)) := Arv.set Ar261 q261 S261 M261 H261 G261 rfl W262 0 rfl (Nat.le_of_ble_eq_true rfl)
    obtain ⟨_, _, ⟨T274, L274, k274, n274⟩, -, X274, ⟨Lc274, hQ274, l274, y274, z274⟩, st274⟩ := X262.specialBack hx (y := (⟨"com/example/thyme/thyme/engine/Hierarchy$Restart", "<init>", "([I[J[I)V"⟩ : MethodName)) rfl hown (mvT hZ (hw _ (List.mem_of_getElem? (i := 6) rfl))) (mvT hZ (hw _ (List.mem_of_getElem? (i := 7) rfl))) (mvT hZ (hw _ (List.mem_of_getElem? (i := 8) rfl))) (by decide) (backOf (W := 1) (own_rm1 l Z av hw [] b241 b192 b196 b250 h262 n0 z271 f266 f267 f268 f269 g_b241) hZ (hw _ (List.mem_of_getElem? (i := 8) rfl)) (hw _ (List.mem_of_getElem? (i := 5) rfl)) (by decide) (by decide)) (g := (mkF m 213 #[.val (.int p0), .val (.long q1), .second, .val (.long q2), .second, .val (.long q3), .second, .val (.long q4), .second, .val (.long q5), .second, .val (.int (0 : Int32)), .val (.int v186), .val (.int v187), .val (.int v188), .val (.ref b192), .val (.ref b196), .val (.long q4), .second, .val (.long q5), .second, .val (.long v201), .second, .val (.long v202), .second, .val (.ref b203), .unset] [(.ref b250), (.ref b196), (.ref b192), (.ref b241), (.ref b241)])) rfl (by rw [hml]; rfl) (Steps.refl _) (a := b241) (argsL := [(.ref b192), (.ref b196), (.ref b250)]) (rest := [(.ref b241)]) (lenOf own_pd1 rfl) rfl (by show 2 * 0 + _ ≤ _; exact Nat.le_of_eq rfl) (hb hby at_213) (fun _ _ => ⟨rfl, e262, (by decide : 5 + 0 ≤ _), (by decide : 8 + 0 ≤ _)⟩)
    dsimp only [Pt.U, Pt.locs, Pt.cells, Pt.slots] at X274 l274 y274 z274 st274 hQ274
    subst l274 y274 z274
    obtain ⟨rfl, N274q, K274, f276, f277, f278, f279⟩ := hQ274
    have f280 := f263.keep K274 (ninS ne_b192_b241 nin0)
    have f281 := f264.keep K274 (ninS ne_b196_b241 nin0)
    have f282 := f265.keep K274 (ninS ne_b203_b241 nin0)
    have f283 := f273.keep K274 (ninS (Ne.symm ne_b241_b250) nin0)
    have K284 : Keep h0 T274.heap [] := K270.trans K274 (allS (Or.inr sz_b241) all0)
    have z285 : n0 ≤ T274.heap.size := Nat.le_trans z271 K274.1
    have N275 := Fr.app N272 N274q
    obtain ⟨cq286, kq286, q286a, q286b, q286c⟩ := isOf hZ rfl f276
    obtain ⟨_, _, ⟨T286, L286, k286, n286⟩, -, X286, ⟨Lc286, hQ286, l286, y286, z286⟩, st286⟩ := X274.virtualBack hx (y := (⟨"com/example/thyme/thyme/engine/Hierarchy$Restart", "write", "([J)V"⟩ : MethodName)) (z := (⟨"com/example/thyme/thyme/engine/Hierarchy$Restart", "write", "([J)V"⟩ : MethodName)) hown (mvT hZ (hw _ (List.mem_of_getElem? (i := 23) rfl))) (mvT hZ (hw _ (List.mem_of_getElem? (i := 24) rfl))) (notFace_of_selects (args := #[]) (mvT hZ (hw _ (List.mem_of_getElem? (i := 26) rfl)))) (mvT hZ (hw _ (List.mem_of_getElem? (i := 26) rfl))) (mvT hZ (hw _ (List.mem_of_getElem? (i := 25) rfl))) (by decide) (backOf (W := 0) (own_rmW0 l Z av hw [] b241 b203 (b192) (b196) (k192) ((.int (0 : Int32))) (k196) ((.long (0 : Int64))) T274.heap n0 z285 f277 f278 f280 f281) hZ (hw _ (List.mem_of_getElem? (i := 27) rfl)) (hw _ (List.mem_of_getElem? (i := 5) rfl)) (by decide) (by decide)) q286a q286c (g := (mkF m 222 #[.val (.int p0), .val (.long q1), .second, .val (.long q2), .second, .val (.long q3), .second, .val (.long q4), .second, .val (.long q5), .second, .val (.int (0 : Int32)), .val (.int v186), .val (.int v187), .val (.int v188), .val (.ref b192), .val (.ref b196), .val (.long q4), .second, .val (.long q5), .second, .val (.long v201), .second, .val (.long v202), .second, .val (.ref b203), .val (.ref b241)] [(.ref b203), (.ref b241)])) rfl (by rw [hml]; rfl) (Steps.refl _) (argsL := [(.ref b203)]) (rest := []) (lenOf own_pd2 rfl) rfl (by show 2 * 0 + _ ≤ _; exact Nat.le_of_eq rfl) (hb hby at_222) (fun _ _ => ⟨rfl, rfl, (by decide : 5 + 0 ≤ _), (by decide : 8 + 0 ≤ _)⟩)
    dsimp only [Pt.U, Pt.locs, Pt.cells, Pt.slots] at X286 l286 y286 z286 st286 hQ286
    subst l286 y286 z286
    obtain ⟨rfl, N286q, e288⟩ := hQ286
    have N287 := Fr.app N275 N286q
    obtain ⟨cl289, Ar289, q289, S289, M289, H289, G289⟩ := id f282
    obtain ⟨cl290, Ar290, q290, S290, M290, H290, G290⟩ := id f282
    have hin290 : ¬ ((0 : Int32) < 0 ∨ cl290.slots.size ≤ ((0 : Int32)).toNatClampNeg) := inb_of S290 ⟨by decide, by decide⟩
    have hat290 : cl290.slots[((0 : Int32)).toNatClampNeg]? = some (.long q4) := H290.at hin290 rfl
    obtain ⟨_, _, ⟨T291, L291, k291, n291⟩, -, X291, ⟨Lc291, hQ291, l291, y291, z291⟩, st291⟩ := Jvm.LawKit.callS X286 hx (y := (⟨"com/example/thyme/thyme/engine/RestartWritePinLaw", "expect", "(IIIIIJJJJ)J"⟩ : MethodName)) hown (mvT hZ (hw _ (List.mem_of_getElem? (i := 28) rfl))) (mvT hZ (hw _ (List.mem_of_getElem? (i := 29) rfl))) (mvT hZ (hw _ (List.mem_of_getElem? (i := 30) rfl))) (mvT hZ (hw _ (List.mem_of_getElem? (i := 31) rfl))) (by decide) (backOf (W := 2) (own_rm5 l Z av hw [] (0 : Int32) (0 : Int32) v186 v187 v188 q1 q2 q3 q4 T274.heap n0 z285 ) hZ (hw _ (List.mem_of_getElem? (i := 31) rfl)) (hw _ (List.mem_of_getElem? (i := 30) rfl)) (by decide) (by decide)) (g := (mkF m 251 #[.val (.int p0), .val (.long q1), .second, .val (.long q2), .second, .val (.long q3), .second, .val (.long q4), .second, .val (.long q5), .second, .val (.int (0 : Int32)), .val (.int v186), .val (.int v187), .val (.int v188), .val (.ref b192), .val (.ref b196), .val (.long q4), .second, .val (.long q5), .second, .val (.long v201), .second, .val (.long v202), .second, .val (.ref b203), .val (.ref b241)] [(.long q4), (.long q3), (.long q2), (.long q1), (.int v188), (.int v187), (.int v186), (.int (0 : Int32)), (.int (0 : Int32)), (.long q4)])) rfl (by rw [hml]; rfl) (argsL := [(.int (0 : Int32)), (.int (0 : Int32)), (.int v186), (.int v187), (.int v188), (.long q1), (.long q2), (.long q3), (.long q4)]) (rest := [(.long q4)]) (lenOf own_pd3 rfl) rfl (by show 2 * 0 + _ ≤ _; exact Nat.le_of_eq rfl) (hb hby at_251) (fun _ _ => ⟨rfl, e288, (by decide : 5 + 0 ≤ _), (by decide : 8 + 0 ≤ _)⟩)
    dsimp only [Pt.U, Pt.locs, Pt.cells, Pt.slots] at X291 l291 y291 z291 st291 hQ291
    subst l291 y291 z291
    obtain ⟨rfl, N291q, e293⟩ := hQ291
    have N292 := Fr.app N287 N291q
    have pre294 : ∀ t, Steps p.tables e below (T291.setTop (mkF m 255 #[.val (.int p0), .val (.long q1), .second, .val (.long q2), .second, .val (.long q3), .second, .val (.long q4), .second, .val (.long q5), .second, .val (.int (0 : Int32)), .val (.int v186), .val (.int v187), .val (.int v188), .val (.ref b192), .val (.ref b196), .val (.long q4), .second, .val (.long q5), .second, .val (.long v201), .second, .val (.long v202), .second, .val (.ref b203), .val (.ref b241)] [(.int (lcmpW q4 (own_f5 (0 : Int32) (0 : Int32) v186 v187 v188 q1 q2 q3 q4)))])) t → Steps p.tables e below (s₁.setTop (entryFrame m #[(.int p0), (.long q1), (.long q2), (.long q3), (.long q4), (.long q5)] maxLocals)) t := fun t kk => pre190 t (by
      show Steps p.tables e below (s₁.setTop (mkF m 27 #[.val (.int p0), .val (.long q1), .second, .val (.long q2), .second, .val (.long q3), .second, .val (.long q4), .second, .val (.long q5), .second, .val (.int (0 : Int32)), .val (.int v186), .val (.int v187), .val (.int v188), .unset, .unset, .unset, .unset, .unset, .unset, .unset, .unset, .unset, .unset, .unset, .unset] [])) _
      refine XS.iload X0.here hx rfl (hb hby at_27) rfl ?_
      show Steps p.tables e below (s₁.setTop (mkF m 29 #[.val (.int p0), .val (.long q1), .second, .val (.long q2), .second, .val (.long q3), .second, .val (.long q4), .second, .val (.long q5), .second, .val (.int (0 : Int32)), .val (.int v186), .val (.int v187), .val (.int v188), .unset, .unset, .unset, .unset, .unset, .unset, .unset, .unset, .unset, .unset, .unset, .unset] [(.int (0 : Int32))])) _
      refine XS.ifNo X0.here hx rfl (hb hby at_29) rfl ((if0 _ _).trans (teq (by decide : (0 : Int32) = (0 : Int32))).2) ?_
      show Steps p.tables e below (s₁.setTop (mkF m 32 #[.val (.int p0), .val (.long q1), .second, .val (.long q2), .second, .val (.long q3), .second, .val (.long q4), .second, .val (.long q5), .second, .val (.int (0 : Int32)), .val (.int v186), .val (.int v187), .val (.int v188), .unset, .unset, .unset, .unset, .unset, .unset, .unset, .unset, .unset, .unset, .unset, .unset] [])) _
      refine XS.iconst X0.here hx rfl (hb hby at_32) ?_
      show Steps p.tables e below (s₁.setTop (mkF m 33 #[.val (.int p0), .val (.long q1), .second, .val (.long q2), .second, .val (.long q3), .second, .val (.long q4), .second, .val (.long q5), .second, .val (.int (0 : Int32)), .val (.int v186), .val (.int v187), .val (.int v188), .unset, .unset, .unset, .unset, .unset, .unset, .unset, .unset, .unset, .unset, .unset, .unset] [(.int (0 : Int32))])) _
      refine st192 _ ?_
      show Steps p.tables e below (T192.setTop (mkF m 35 #[.val (.int p0), .val (.long q1), .second, .val (.long q2), .second, .val (.long q3), .second, .val (.long q4), .second, .val (.long q5), .second, .val (.int (0 : Int32)), .val (.int v186), .val (.int v187), .val (.int v188), .unset, .unset, .unset, .unset, .unset, .unset, .unset, .unset, .unset, .unset, .unset, .unset] [(.ref b192)])) _
      refine XS.astore X192.here hx rfl (hb hby at_35) rfl rfl (l' := #[.val (.int p0), .val (.long q1), .second, .val (.long q2), .second, .val (.long q3), .second, .val (.long q4), .second, .val (.long q5), .second, .val (.int (0 : Int32)), .val (.int v186), .val (.int v187), .val (.int v188), .val (.ref b192), .unset, .unset, .unset, .unset, .unset, .unset, .unset, .unset, .unset, .unset, .unset]) rfl ?_
      show Steps p.tables e below (T192.setTop (mkF m 37 #[.val (.int p0), .val (.long q1), .second, .val (.long q2), .second, .val (.long q3), .second, .val (.long q4), .second, .val (.long q5), .second, .val (.int (0 : Int32)), .val (.int v186), .val (.int v187), .val (.int v188), .val (.ref b192), .unset, .unset, .unset, .unset, .unset, .unset, .unset, .unset, .unset, .unset, .unset] [])) _
      refine XS.iconst X192.here hx rfl (hb hby at_37) ?_
      show Steps p.tables e below (T192.setTop (mkF m 38 #[.val (.int p0), .val (.long q1), .second, .val (.long q2), .second, .val (.long q3), .second, .val (.long q4), .second, .val (.long q5), .second, .val (.int (0 : Int32)), .val (.int v186), .val (.int v187), .val (.int v188), .val (.ref b192), .unset, .unset, .unset, .unset, .unset, .unset, .unset, .unset, .unset, .unset, .unset] [(.int (0 : Int32))])) _
      refine st196 _ ?_
      show Steps p.tables e below (T196.setTop (mkF m 40 #[.val (.int p0), .val (.long q1), .second, .val (.long q2), .second, .val (.long q3), .second, .val (.long q4), .second, .val (.long q5), .second, .val (.int (0 : Int32)), .val (.int v186), .val (.int v187), .val (.int v188), .val (.ref b192), .unset, .unset, .unset, .unset, .unset, .unset, .unset, .unset, .unset, .unset, .unset] [(.ref b196)])) _
      refine XS.astore X196.here hx rfl (hb hby at_40) rfl rfl (l' := #[.val (.int p0), .val (.long q1), .second, .val (.long q2), .second, .val (.long q3), .second, .val (.long q4), .second, .val (.long q5), .second, .val (.int (0 : Int32)), .val (.int v186), .val (.int v187), .val (.int v188), .val (.ref b192), .val (.ref b196), .unset, .unset, .unset, .unset, .unset, .unset, .unset, .unset, .unset, .unset]) rfl ?_
      show Steps p.tables e below (T196.setTop (mkF m 42 #[.val (.int p0), .val (.long q1), .second, .val (.long q2), .second, .val (.long q3), .second, .val (.long q4), .second, .val (.long q5), .second, .val (.int (0 : Int32)), .val (.int v186), .val (.int v187), .val (.int v188), .val (.ref b192), .val (.ref b196), .unset, .unset, .unset, .unset, .unset, .unset, .unset, .unset, .unset, .unset] [])) _
      refine XS.goto X196.here hx rfl (pc0 := 42) (pc' := 148) rfl (hb hby at_42) (by decide) (by decide) ?_
      show Steps p.tables e below (T196.setTop (mkF m 148 #[.val (.int p0), .val (.long q1), .second, .val (.long q2), .second, .val (.long q3), .second, .val (.long q4), .second, .val (.long q5), .second, .val (.int (0 : Int32)), .val (.int v186), .val (.int v187), .val (.int v188), .val (.ref b192), .val (.ref b196), .unset, .unset, .unset, .unset, .unset, .unset, .unset, .unset, .unset, .unset] [])) _
      refine XS.lload X196.here hx rfl (hb hby at_148) rfl ?_
      show Steps p.tables e below (T196.setTop (mkF m 150 #[.val (.int p0), .val (.long q1), .second, .val (.long q2), .second, .val (.long q3), .second, .val (.long q4), .second, .val (.long q5), .second, .val (.int (0 : Int32)), .val (.int v186), .val (.int v187), .val (.int v188), .val (.ref b192), .val (.ref b196), .unset, .unset, .unset, .unset, .unset, .unset, .unset, .unset, .unset, .unset] [(.long q4)])) _
      refine XS.lstore X196.here hx rfl (hb hby at_150) rfl (l' := #[.val (.int p0), .val (.long q1), .second, .val (.long q2), .second, .val (.long q3), .second, .val (.long q4), .second, .val (.long q5), .second, .val (.int (0 : Int32)), .val (.int v186), .val (.int v187), .val (.int v188), .val (.ref b192), .val (.ref b196), .val (.long q4), .second, .unset, .unset, .unset, .unset, .unset, .unset, .unset, .unset]) rfl ?_
      show Steps p.tables e below (T196.setTop (mkF m 152 #[.val (.int p0), .val (.long q1), .second, .val (.long q2), .second, .val (.long q3), .second, .val (.long q4), .second, .val (.long q5), .second, .val (.int (0 : Int32)), .val (.int v186), .val (.int v187), .val (.int v188), .val (.ref b192), .val (.ref b196), .val (.long q4), .second, .unset, .unset, .unset, .unset, .unset, .unset, .unset, .unset] [])) _
      refine XS.lload X196.here hx rfl (hb hby at_152) rfl ?_
      show Steps p.tables e below (T196.setTop (mkF m 154 #[.val (.int p0), .val (.long q1), .second, .val (.long q2), .second, .val (.long q3), .second, .val (.long q4), .second, .val (.long q5), .second, .val (.int (0 : Int32)), .val (.int v186), .val (.int v187), .val (.int v188), .val (.ref b192), .val (.ref b196), .val (.long q4), .second, .unset, .unset, .unset, .unset, .unset, .unset, .unset, .unset] [(.long q5)])) _
      refine XS.lstore X196.here hx rfl (hb hby at_154) rfl (l' := #[.val (.int p0), .val (.long q1), .second, .val (.long q2), .second, .val (.long q3), .second, .val (.long q4), .second, .val (.long q5), .second, .val (.int (0 : Int32)), .val (.int v186), .val (.int v187), .val (.int v188), .val (.ref b192), .val (.ref b196), .val (.long q4), .second, .val (.long q5), .second, .unset, .unset, .unset, .unset, .unset, .unset]) rfl ?_
      show Steps p.tables e below (T196.setTop (mkF m 156 #[.val (.int p0), .val (.long q1), .second, .val (.long q2), .second, .val (.long q3), .second, .val (.long q4), .second, .val (.long q5), .second, .val (.int (0 : Int32)), .val (.int v186), .val (.int v187), .val (.int v188), .val (.ref b192), .val (.ref b196), .val (.long q4), .second, .val (.long q5), .second, .unset, .unset, .unset, .unset, .unset, .unset] [])) _
      refine XS.lload X196.here hx rfl (hb hby at_156) rfl ?_
      show Steps p.tables e below (T196.setTop (mkF m 158 #[.val (.int p0), .val (.long q1), .second, .val (.long q2), .second, .val (.long q3), .second, .val (.long q4), .second, .val (.long q5), .second, .val (.int (0 : Int32)), .val (.int v186), .val (.int v187), .val (.int v188), .val (.ref b192), .val (.ref b196), .val (.long q4), .second, .val (.long q5), .second, .unset, .unset, .unset, .unset, .unset, .unset] [(.long q4)])) _
      refine X196.ldc2Long hx hown (mvT hZ (hw _ (List.mem_of_getElem? (i := 2) rfl))) (g := (mkF m 158 #[.val (.int p0), .val (.long q1), .second, .val (.long q2), .second, .val (.long q3), .second, .val (.long q4), .second, .val (.long q5), .second, .val (.int (0 : Int32)), .val (.int v186), .val (.int v187), .val (.int v188), .val (.ref b192), .val (.ref b196), .val (.long q4), .second, .val (.long q5), .second, .unset, .unset, .unset, .unset, .unset, .unset] [(.long q4)])) rfl (hb hby at_158) _ ?_
      show Steps p.tables e below (T196.setTop (mkF m 161 #[.val (.int p0), .val (.long q1), .second, .val (.long q2), .second, .val (.long q3), .second, .val (.long q4), .second, .val (.long q5), .second, .val (.int (0 : Int32)), .val (.int v186), .val (.int v187), .val (.int v188), .val (.ref b192), .val (.ref b196), .val (.long q4), .second, .val (.long q5), .second, .unset, .unset, .unset, .unset, .unset, .unset] [(.long (-1 : Int64)), (.long q4)])) _
      refine XS.lxor X196.here hx rfl (hb hby at_161) rfl ?_
      show Steps p.tables e below (T196.setTop (mkF m 162 #[.val (.int p0), .val (.long q1), .second, .val (.long q2), .second, .val (.long q3), .second, .val (.long q4), .second, .val (.long q5), .second, .val (.int (0 : Int32)), .val (.int v186), .val (.int v187), .val (.int v188), .val (.ref b192), .val (.ref b196), .val (.long q4), .second, .val (.long q5), .second, .unset, .unset, .unset, .unset, .unset, .unset] [(.long (q4 ^^^ (-1 : Int64)))])) _
      refine castTop (congrArg (fun z : Int64 => mkF m 162 #[.val (.int p0), .val (.long q1), .second, .val (.long q2), .second, .val (.long q3), .second, .val (.long q4), .second, .val (.long q5), .second, .val (.int (0 : Int32)), .val (.int v186), .val (.int v187), .val (.int v188), .val (.ref b192), .val (.ref b196), .val (.long q4), .second, .val (.long q5), .second, .unset, .unset, .unset, .unset, .unset, .unset] [(.long z)]) hv201.symm) ?_
      show Steps p.tables e below (T196.setTop (mkF m 162 #[.val (.int p0), .val (.long q1), .second, .val (.long q2), .second, .val (.long q3), .second, .val (.long q4), .second, .val (.long q5), .second, .val (.int (0 : Int32)), .val (.int v186), .val (.int v187), .val (.int v188), .val (.ref b192), .val (.ref b196), .val (.long q4), .second, .val (.long q5), .second, .unset, .unset, .unset, .unset, .unset, .unset] [(.long v201)])) _
      refine XS.lstore X196.here hx rfl (hb hby at_162) rfl (l' := #[.val (.int p0), .val (.long q1), .second, .val (.long q2), .second, .val (.long q3), .second, .val (.long q4), .second, .val (.long q5), .second, .val (.int (0 : Int32)), .val (.int v186), .val (.int v187), .val (.int v188), .val (.ref b192), .val (.ref b196), .val (.long q4), .second, .val (.long q5), .second, .val (.long v201), .second, .unset, .unset, .unset, .unset]) rfl ?_
      show Steps p.tables e below (T196.setTop (mkF m 164 #[.val (.int p0), .val (.long q1), .second, .val (.long q2), .second, .val (.long q3), .second, .val (.long q4), .second, .val (.long q5), .second, .val (.int (0 : Int32)), .val (.int v186), .val (.int v187), .val (.int v188), .val (.ref b192), .val (.ref b196), .val (.long q4), .second, .val (.long q5), .second, .val (.long v201), .second, .unset, .unset, .unset, .unset] [])) _
      refine XS.lload X196.here hx rfl (hb hby at_164) rfl ?_
      show Steps p.tables e below (T196.setTop (mkF m 166 #[.val (.int p0), .val (.long q1), .second, .val (.long q2), .second, .val (.long q3), .second, .val (.long q4), .second, .val (.long q5), .second, .val (.int (0 : Int32)), .val (.int v186), .val (.int v187), .val (.int v188), .val (.ref b192), .val (.ref b196), .val (.long q4), .second, .val (.long q5), .second, .val (.long v201), .second, .unset, .unset, .unset, .unset] [(.long q5)])) _
      refine X196.ldc2Long hx hown (mvT hZ (hw _ (List.mem_of_getElem? (i := 2) rfl))) (g := (mkF m 166 #[.val (.int p0), .val (.long q1), .second, .val (.long q2), .second, .val (.long q3), .second, .val (.long q4), .second, .val (.long q5), .second, .val (.int (0 : Int32)), .val (.int v186), .val (.int v187), .val (.int v188), .val (.ref b192), .val (.ref b196), .val (.long q4), .second, .val (.long q5), .second, .val (.long v201), .second, .unset, .unset, .unset, .unset] [(.long q5)])) rfl (hb hby at_166) _ ?_
      show Steps p.tables e below (T196.setTop (mkF m 169 #[.val (.int p0), .val (.long q1), .second, .val (.long q2), .second, .val (.long q3), .second, .val (.long q4), .second, .val (.long q5), .second, .val (.int (0 : Int32)), .val (.int v186), .val (.int v187), .val (.int v188), .val (.ref b192), .val (.ref b196), .val (.long q4), .second, .val (.long q5), .second, .val (.long v201), .second, .unset, .unset, .unset, .unset] [(.long (-1 : Int64)), (.long q5)])) _
      refine XS.lxor X196.here hx rfl (hb hby at_169) rfl ?_
      show Steps p.tables e below (T196.setTop (mkF m 170 #[.val (.int p0), .val (.long q1), .second, .val (.long q2), .second, .val (.long q3), .second, .val (.long q4), .second, .val (.long q5), .second, .val (.int (0 : Int32)), .val (.int v186), .val (.int v187), .val (.int v188), .val (.ref b192), .val (.ref b196), .val (.long q4), .second, .val (.long q5), .second, .val (.long v201), .second, .unset, .unset, .unset, .unset] [(.long (q5 ^^^ (-1 : Int64)))])) _
      refine castTop (congrArg (fun z : Int64 => mkF m 170 #[.val (.int p0), .val (.long q1), .second, .val (.long q2), .second, .val (.long q3), .second, .val (.long q4), .second, .val (.long q5), .second, .val (.int (0 : Int32)), .val (.int v186), .val (.int v187), .val (.int v188), .val (.ref b192), .val (.ref b196), .val (.long q4), .second, .val (.long q5), .second, .val (.long v201), .second, .unset, .unset, .unset, .unset] [(.long z)]) hv202.symm) ?_
      show Steps p.tables e below (T196.setTop (mkF m 170 #[.val (.int p0), .val (.long q1), .second, .val (.long q2), .second, .val (.long q3), .second, .val (.long q4), .second, .val (.long q5), .second, .val (.int (0 : Int32)), .val (.int v186), .val (.int v187), .val (.int v188), .val (.ref b192), .val (.ref b196), .val (.long q4), .second, .val (.long q5), .second, .val (.long v201), .second, .unset, .unset, .unset, .unset] [(.long v202)])) _
      refine XS.lstore X196.here hx rfl (hb hby at_170) rfl (l' := #[.val (.int p0), .val (.long q1), .second, .val (.long q2), .second, .val (.long q3), .second, .val (.long q4), .second, .val (.long q5), .second, .val (.int (0 : Int32)), .val (.int v186), .val (.int v187), .val (.int v188), .val (.ref b192), .val (.ref b196), .val (.long q4), .second, .val (.long q5), .second, .val (.long v201), .second, .val (.long v202), .second, .unset, .unset]) rfl ?_
      show Steps p.tables e below (T196.setTop (mkF m 172 #[.val (.int p0), .val (.long q1), .second, .val (.long q2), .second, .val (.long q3), .second, .val (.long q4), .second, .val (.long q5), .second, .val (.int (0 : Int32)), .val (.int v186), .val (.int v187), .val (.int v188), .val (.ref b192), .val (.ref b196), .val (.long q4), .second, .val (.long q5), .second, .val (.long v201), .second, .val (.long v202), .second, .unset, .unset] [])) _
      refine XS.iconst X196.here hx rfl (hb hby at_172) ?_
      show Steps p.tables e below (T196.setTop (mkF m 173 #[.val (.int p0), .val (.long q1), .second, .val (.long q2), .second, .val (.long q3), .second, .val (.long q4), .second, .val (.long q5), .second, .val (.int (0 : Int32)), .val (.int v186), .val (.int v187), .val (.int v188), .val (.ref b192), .val (.ref b196), .val (.long q4), .second, .val (.long q5), .second, .val (.long v201), .second, .val (.long v202), .second, .unset, .unset] [(.int (4 : Int32))])) _
      refine st203 _ ?_
      show Steps p.tables e below (T203.setTop (mkF m 175 #[.val (.int p0), .val (.long q1), .second, .val (.long q2), .second, .val (.long q3), .second, .val (.long q4), .second, .val (.long q5), .second, .val (.int (0 : Int32)), .val (.int v186), .val (.int v187), .val (.int v188), .val (.ref b192), .val (.ref b196), .val (.long q4), .second, .val (.long q5), .second, .val (.long v201), .second, .val (.long v202), .second, .unset, .unset] [(.ref b203)])) _
      refine XS.dup X203.here hx rfl (hb hby at_175) rfl rfl ?_
      show Steps p.tables e below (T203.setTop (mkF m 176 #[.val (.int p0), .val (.long q1), .second, .val (.long q2), .second, .val (.long q3), .second, .val (.long q4), .second, .val (.long q5), .second, .val (.int (0 : Int32)), .val (.int v186), .val (.int v187), .val (.int v188), .val (.ref b192), .val (.ref b196), .val (.long q4), .second, .val (.long q5), .second, .val (.long v201), .second, .val (.long v202), .second, .unset, .unset] [(.ref b203), (.ref b203)])) _
      refine XS.iconst X203.here hx rfl (hb hby at_176) ?_
      show Steps p.tables e below (T203.setTop (mkF m 177 #[.val (.int p0), .val (.long q1), .second, .val (.long q2), .second, .val (.long q3), .second, .val (.long q4), .second, .val (.long q5), .second, .val (.int (0 : Int32)), .val (.int v186), .val (.int v187), .val (.int v188), .val (.ref b192), .val (.ref b196), .val (.long q4), .second, .val (.long q5), .second, .val (.long v201), .second, .val (.long v202), .second, .unset, .unset] [(.int (0 : Int32)), (.ref b203), (.ref b203)])) _
      refine XS.lload X203.here hx rfl (hb hby at_177) rfl ?_
      show Steps p.tables e below (T203.setTop (mkF m 179 #[.val (.int p0), .val (.long q1), .second, .val (.long q2), .second, .val (.long q3), .second, .val (.long q4), .second, .val (.long q5), .second, .val (.int (0 : Int32)), .val (.int v186), .val (.int v187), .val (.int v188), .val (.ref b192), .val (.ref b196), .val (.long q4), .second, .val (.long q5), .second, .val (.long v201), .second, .val (.long v202), .second, .unset, .unset] [(.long q4), (.int (0 : Int32)), (.ref b203), (.ref b203)])) _
      refine st210 _ ?_
      show Steps p.tables e below (T210.setTop (mkF m 180 #[.val (.int p0), .val (.long q1), .second, .val (.long q2), .second, .val (.long q3), .second, .val (.long q4), .second, .val (.long q5), .second, .val (.int (0 : Int32)), .val (.int v186), .val (.int v187), .val (.int v188), .val (.ref b192), .val (.ref b196), .val (.long q4), .second, .val (.long q5), .second, .val (.long v201), .second, .val (.long v202), .second, .unset, .unset] [(.ref b203)])) _
      refine XS.dup X210.here hx rfl (hb hby at_180) rfl rfl ?_
      show Steps p.tables e below (T210.setTop (mkF m 181 #[.val (.int p0), .val (.long q1), .second, .val (.long q2), .second, .val (.long q3), .second, .val (.long q4), .second, .val (.long q5), .second, .val (.int (0 : Int32)), .val (.int v186), .val (.int v187), .val (.int v188), .val (.ref b192), .val (.ref b196), .val (.long q4), .second, .val (.long q5), .second, .val (.long v201), .second, .val (.long v202), .second, .unset, .unset] [(.ref b203), (.ref b203)])) _
      refine XS.iconst X210.here hx rfl (hb hby at_181) ?_
      show Steps p.tables e below (T210.setTop (mkF m 182 #[.val (.int p0), .val (.long q1), .second, .val (.long q2), .second, .val (.long q3), .second, .val (.long q4), .second, .val (.long q5), .second, .val (.int (0 : Int32)), .val (.int v186), .val (.int v187), .val (.int v188), .val (.ref b192), .val (.ref b196), .val (.long q4), .second, .val (.long q5), .second, .val (.long v201), .second, .val (.long v202), .second, .unset, .unset] [(.int (1 : Int32)), (.ref b203), (.ref b203)])) _
      refine XS.lload X210.here hx rfl (hb hby at_182) rfl ?_
      show Steps p.tables e below (T210.setTop (mkF m 184 #[.val (.int p0), .val (.long q1), .second, .val (.long q2), .second, .val (.long q3), .second, .val (.long q4), .second, .val (.long q5), .second, .val (.int (0 : Int32)), .val (.int v186), .val (.int v187), .val (.int v188), .val (.ref b192), .val (.ref b196), .val (.long q4), .second, .val (.long q5), .second, .val (.long v201), .second, .val (.long v202), .second, .unset, .unset] [(.long q5), (.int (1 : Int32)), (.ref b203), (.ref b203)])) _
      refine st218 _ ?_
      show Steps p.tables e below (T218.setTop (mkF m 185 #[.val (.int p0), .val (.long q1), .second, .val (.long q2), .second, .val (.long q3), .second, .val (.long q4), .second, .val (.long q5), .second, .val (.int (0 : Int32)), .val (.int v186), .val (.int v187), .val (.int v188), .val (.ref b192), .val (.ref b196), .val (.long q4), .second, .val (.long q5), .second, .val (.long v201), .second, .val (.long v202), .second, .unset, .unset] [(.ref b203)])) _
      refine XS.dup X218.here hx rfl (hb hby at_185) rfl rfl ?_
      show Steps p.tables e below (T218.setTop (mkF m 186 #[.val (.int p0), .val (.long q1), .second, .val (.long q2), .second, .val (.long q3), .second, .val (.long q4), .second, .val (.long q5), .second, .val (.int (0 : Int32)), .val (.int v186), .val (.int v187), .val (.int v188), .val (.ref b192), .val (.ref b196), .val (.long q4), .second, .val (.long q5), .second, .val (.long v201), .second, .val (.long v202), .second, .unset, .unset] [(.ref b203), (.ref b203)])) _
      refine XS.iconst X218.here hx rfl (hb hby at_186) ?_
      show Steps p.tables e below (T218.setTop (mkF m 187 #[.val (.int p0), .val (.long q1), .second, .val (.long q2), .second, .val (.long q3), .second, .val (.long q4), .second, .val (.long q5), .second, .val (.int (0 : Int32)), .val (.int v186), .val (.int v187), .val (.int v188), .val (.ref b192), .val (.ref b196), .val (.long q4), .second, .val (.long q5), .second, .val (.long v201), .second, .val (.long v202), .second, .unset, .unset] [(.int (2 : Int32)), (.ref b203), (.ref b203)])) _
      refine XS.lload X218.here hx rfl (hb hby at_187) rfl ?_
      show Steps p.tables e below (T218.setTop (mkF m 189 #[.val (.int p0), .val (.long q1), .second, .val (.long q2), .second, .val (.long q3), .second, .val (.long q4), .second, .val (.long q5), .second, .val (.int (0 : Int32)), .val (.int v186), .val (.int v187), .val (.int v188), .val (.ref b192), .val (.ref b196), .val (.long q4), .second, .val (.long q5), .second, .val (.long v201), .second, .val (.long v202), .second, .unset, .unset] [(.long v201), (.int (2 : Int32)), (.ref b203), (.ref b203)])) _
      refine st226 _ ?_
      show Steps p.tables e below (T226.setTop (mkF m 190 #[.val (.int p0), .val (.long q1), .second, .val (.long q2), .second, .val (.long q3), .second, .val (.long q4), .second, .val (.long q5), .second, .val (.int (0 : Int32)), .val (.int v186), .val (.int v187), .val (.int v188), .val (.ref b192), .val (.ref b196), .val (.long q4), .second, .val (.long q5), .second, .val (.long v201), .second, .val (.long v202), .second, .unset, .unset] [(.ref b203)])) _
      refine XS.dup X226.here hx rfl (hb hby at_190) rfl rfl ?_
      show Steps p.tables e below (T226.setTop (mkF m 191 #[.val (.int p0), .val (.long q1), .second, .val (.long q2), .second, .val (.long q3), .second, .val (.long q4), .second, .val (.long q5), .second, .val (.int (0 : Int32)), .val (.int v186), .val (.int v187), .val (.int v188), .val (.ref b192), .val (.ref b196), .val (.long q4), .second, .val (.long q5), .second, .val (.long v201), .second, .val (.long v202), .second, .unset, .unset] [(.ref b203), (.ref b203)])) _
      refine XS.iconst X226.here hx rfl (hb hby at_191) ?_
      show Steps p.tables e below (T226.setTop (mkF m 192 #[.val (.int p0), .val (.long q1), .second, .val (.long q2), .second, .val (.long q3), .second, .val (.long q4), .second, .val (.long q5), .second, .val (.int (0 : Int32)), .val (.int v186), .val (.int v187), .val (.int v188), .val (.ref b192), .val (.ref b196), .val (.long q4), .second, .val (.long q5), .second, .val (.long v201), .second, .val (.long v202), .second, .unset, .unset] [(.int (3 : Int32)), (.ref b203), (.ref b203)])) _
      refine XS.lload X226.here hx rfl (hb hby at_192) rfl ?_
      show Steps p.tables e below (T226.setTop (mkF m 194 #[.val (.int p0), .val (.long q1), .second, .val (.long q2), .second, .val (.long q3), .second, .val (.long q4), .second, .val (.long q5), .second, .val (.int (0 : Int32)), .val (.int v186), .val (.int v187), .val (.int v188), .val (.ref b192), .val (.ref b196), .val (.long q4), .second, .val (.long q5), .second, .val (.long v201), .second, .val (.long v202), .second, .unset, .unset] [(.long v202), (.int (3 : Int32)), (.ref b203), (.ref b203)])) _
      refine st234 _ ?_
      show Steps p.tables e below (T234.setTop (mkF m 195 #[.val (.int p0), .val (.long q1), .second, .val (.long q2), .second, .val (.long q3), .second, .val (.long q4), .second, .val (.long q5), .second, .val (.int (0 : Int32)), .val (.int v186), .val (.int v187), .val (.int v188), .val (.ref b192), .val (.ref b196), .val (.long q4), .second, .val (.long q5), .second, .val (.long v201), .second, .val (.long v202), .second, .unset, .unset] [(.ref b203)])) _
      refine XS.astore X234.here hx rfl (hb hby at_195) rfl rfl (l' := #[.val (.int p0), .val (.long q1), .second, .val (.long q2), .second, .val (.long q3), .second, .val (.long q4), .second, .val (.long q5), .second, .val (.int (0 : Int32)), .val (.int v186), .val (.int v187), .val (.int v188), .val (.ref b192), .val (.ref b196), .val (.long q4), .second, .val (.long q5), .second, .val (.long v201), .second, .val (.long v202), .second, .val (.ref b203), .unset]) rfl ?_
      show Steps p.tables e below (T234.setTop (mkF m 197 #[.val (.int p0), .val (.long q1), .second, .val (.long q2), .second, .val (.long q3), .second, .val (.long q4), .second, .val (.long q5), .second, .val (.int (0 : Int32)), .val (.int v186), .val (.int v187), .val (.int v188), .val (.ref b192), .val (.ref b196), .val (.long q4), .second, .val (.long q5), .second, .val (.long v201), .second, .val (.long v202), .second, .val (.ref b203), .unset] [])) _
      refine st241 _ ?_
      show Steps p.tables e below (T241.setTop (mkF m 200 #[.val (.int p0), .val (.long q1), .second, .val (.long q2), .second, .val (.long q3), .second, .val (.long q4), .second, .val (.long q5), .second, .val (.int (0 : Int32)), .val (.int v186), .val (.int v187), .val (.int v188), .val (.ref b192), .val (.ref b196), .val (.long q4), .second, .val (.long q5), .second, .val (.long v201), .second, .val (.long v202), .second, .val (.ref b203), .unset] [(.ref b241)])) _
      refine XS.dup X241.here hx rfl (hb hby at_200) rfl rfl ?_
      show Steps p.tables e below (T241.setTop (mkF m 201 #[.val (.int p0), .val (.long q1), .second, .val (.long q2), .second, .val (.long q3), .second, .val (.long q4), .second, .val (.long q5), .second, .val (.int (0 : Int32)), .val (.int v186), .val (.int v187), .val (.int v188), .val (.ref b192), .val (.ref b196), .val (.long q4), .second, .val (.long q5), .second, .val (.long v201), .second, .val (.long v202), .second, .val (.ref b203), .unset] [(.ref b241), (.ref b241)])) _
      refine XS.aload X241.here hx rfl (hb hby at_201) rfl rfl ?_
      show Steps p.tables e below (T241.setTop (mkF m 203 #[.val (.int p0), .val (.long q1), .second, .val (.long q2), .second, .val (.long q3), .second, .val (.long q4), .second, .val (.long q5), .second, .val (.int (0 : Int32)), .val (.int v186), .val (.int v187), .val (.int v188), .val (.ref b192), .val (.ref b196), .val (.long q4), .second, .val (.long q5), .second, .val (.long v201), .second, .val (.long v202), .second, .val (.ref b203), .unset] [(.ref b192), (.ref b241), (.ref b241)])) _
      refine XS.aload X241.here hx rfl (hb hby at_203) rfl rfl ?_
      show Steps p.tables e below (T241.setTop (mkF m 205 #[.val (.int p0), .val (.long q1), .second, .val (.long q2), .second, .val (.long q3), .second, .val (.long q4), .second, .val (.long q5), .second, .val (.int (0 : Int32)), .val (.int v186), .val (.int v187), .val (.int v188), .val (.ref b192), .val (.ref b196), .val (.long q4), .second, .val (.long q5), .second, .val (.long v201), .second, .val (.long v202), .second, .val (.ref b203), .unset] [(.ref b196), (.ref b192), (.ref b241), (.ref b241)])) _
      refine XS.iconst X241.here hx rfl (hb hby at_205) ?_
      show Steps p.tables e below (T241.setTop (mkF m 206 #[.val (.int p0), .val (.long q1), .second, .val (.long q2), .second, .val (.long q3), .second, .val (.long q4), .second, .val (.long q5), .second, .val (.int (0 : Int32)), .val (.int v186), .val (.int v187), .val (.int v188), .val (.ref b192), .val (.ref b196), .val (.long q4), .second, .val (.long q5), .second, .val (.long v201), .second, .val (.long v202), .second, .val (.ref b203), .unset] [(.int (1 : Int32)), (.ref b196), (.ref b192), (.ref b241), (.ref b241)])) _
      refine st250 _ ?_
      show Steps p.tables e below (T250.setTop (mkF m 208 #[.val (.int p0), .val (.long q1), .second, .val (.long q2), .second, .val (.long q3), .second, .val (.long q4), .second, .val (.long q5), .second, .val (.int (0 : Int32)), .val (.int v186), .val (.int v187), .val (.int v188), .val (.ref b192), .val (.ref b196), .val (.long q4), .second, .val (.long q5), .second, .val (.long v201), .second, .val (.long v202), .second, .val (.ref b203), .unset] [(.ref b250), (.ref b196), (.ref b192), (.ref b241), (.ref b241)])) _
      refine XS.dup X250.here hx rfl (hb hby at_208) rfl rfl ?_
      show Steps p.tables e below (T250.setTop (mkF m 209 #[.val (.int p0), .val (.long q1), .second, .val (.long q2), .second, .val (.long q3), .second, .val (.long q4), .second, .val (.long q5), .second, .val (.int (0 : Int32)), .val (.int v186), .val (.int v187), .val (.int v188), .val (.ref b192), .val (.ref b196), .val (.long q4), .second, .val (.long q5), .second, .val (.long v201), .second, .val (.long v202), .second, .val (.ref b203), .unset] [(.ref b250), (.ref b250), (.ref b196), (.ref b192), (.ref b241), (.ref b241)])) _
      refine XS.iconst X250.here hx rfl (hb hby at_209) ?_
      show Steps p.tables e below (T250.setTop (mkF m 210 #[.val (.int p0), .val (.long q1), .second, .val (.long q2), .second, .val (.long q3), .second, .val (.long q4), .second, .val (.long q5), .second, .val (.int (0 : Int32)), .val (.int v186), .val (.int v187), .val (.int v188), .val (.ref b192), .val (.ref b196), .val (.long q4), .second, .val (.long q5), .second, .val (.long v201), .second, .val (.long v202), .second, .val (.ref b203), .unset] [(.int (0 : Int32)), (.ref b250), (.ref b250), (.ref b196), (.ref b192), (.ref b241), (.ref b241)])) _
      refine XS.iload X250.here hx rfl (hb hby at_210) rfl ?_
      show Steps p.tables e below (T250.setTop (mkF m 212 #[.val (.int p0), .val (.long q1), .second, .val (.long q2), .second, .val (.long q3), .second, .val (.long q4), .second, .val (.long q5), .second, .val (.int (0 : Int32)), .val (.int v186), .val (.int v187), .val (.int v188), .val (.ref b192), .val (.ref b196), .val (.long q4), .second, .val (.long q5), .second, .val (.long v201), .second, .val (.long v202), .second, .val (.ref b203), .unset] [(.int v188), (.int (0 : Int32)), (.ref b250), (.ref b250), (.ref b196), (.ref b192), (.ref b241), (.ref b241)])) _
      refine st262 _ ?_
      show Steps p.tables e below (T262.setTop (mkF m 213 #[.val (.int p0), .val (.long q1), .second, .val (.long q2), .second, .val (.long q3), .second, .val (.long q4), .second, .val (.long q5), .second, .val (.int (0 : Int32)), .val (.int v186), .val (.int v187), .val (.int v188), .val (.ref b192), .val (.ref b196), .val (.long q4), .second, .val (.long q5), .second, .val (.long v201), .second, .val (.long v202), .second, .val (.ref b203), .unset] [(.ref b250), (.ref b196), (.ref b192), (.ref b241), (.ref b241)])) _
      refine st274.trans ?_
      show Steps p.tables e below (T274.setTop (mkF m 216 #[.val (.int p0), .val (.long q1), .second, .val (.long q2), .second, .val (.long q3), .second, .val (.long q4), .second, .val (.long q5), .second, .val (.int (0 : Int32)), .val (.int v186), .val (.int v187), .val (.int v188), .val (.ref b192), .val (.ref b196), .val (.long q4), .second, .val (.long q5), .second, .val (.long v201), .second, .val (.long v202), .second, .val (.ref b203), .unset] [(.ref b241)])) _
      refine XS.astore X274.here hx rfl (hb hby at_216) rfl rfl (l' := #[.val (.int p0), .val (.long q1), .second, .val (.long q2), .second, .val (.long q3), .second, .val (.long q4), .second, .val (.long q5), .second, .val (.int (0 : Int32)), .val (.int v186), .val (.int v187), .val (.int v188), .val (.ref b192), .val (.ref b196), .val (.long q4), .second, .val (.long q5), .second, .val (.long v201), .second, .val (.long v202), .second, .val (.ref b203), .val (.ref b241)]) rfl ?_
      show Steps p.tables e below (T274.setTop (mkF m 218 #[.val (.int p0), .val (.long q1), .second, .val (.long q2), .second, .val (.long q3), .second, .val (.long q4), .second, .val (.long q5), .second, .val (.int (0 : Int32)), .val (.int v186), .val (.int v187), .val (.int v188), .val (.ref b192), .val (.ref b196), .val (.long q4), .second, .val (.long q5), .second, .val (.long v201), .second, .val (.long v202), .second, .val (.ref b203), .val (.ref b241)] [])) _
      refine XS.aload X274.here hx rfl (hb hby at_218) rfl rfl ?_
      show Steps p.tables e below (T274.setTop (mkF m 220 #[.val (.int p0), .val (.long q1), .second, .val (.long q2), .second, .val (.long q3), .second, .val (.long q4), .second, .val (.long q5), .second, .val (.int (0 : Int32)), .val (.int v186), .val (.int v187), .val (.int v188), .val (.ref b192), .val (.ref b196), .val (.long q4), .second, .val (.long q5), .second, .val (.long v201), .second, .val (.long v202), .second, .val (.ref b203), .val (.ref b241)] [(.ref b241)])) _
      refine XS.aload X274.here hx rfl (hb hby at_220) rfl rfl ?_
      show Steps p.tables e below (T274.setTop (mkF m 222 #[.val (.int p0), .val (.long q1), .second, .val (.long q2), .second, .val (.long q3), .second, .val (.long q4), .second, .val (.long q5), .second, .val (.int (0 : Int32)), .val (.int v186), .val (.int v187), .val (.int v188), .val (.ref b192), .val (.ref b196), .val (.long q4), .second, .val (.long q5), .second, .val (.long v201), .second, .val (.long v202), .second, .val (.ref b203), .val (.ref b241)] [(.ref b203), (.ref b241)])) _
      refine st286.trans ?_
      show Steps p.tables e below (T286.setTop (mkF m 225 #[.val (.int p0), .val (.long q1), .second, .val (.long q2), .second, .val (.long q3), .second, .val (.long q4), .second, .val (.long q5), .second, .val (.int (0 : Int32)), .val (.int v186), .val (.int v187), .val (.int v188), .val (.ref b192), .val (.ref b196), .val (.long q4), .second, .val (.long q5), .second, .val (.long v201), .second, .val (.long v202), .second, .val (.ref b203), .val (.ref b241)] [])) _
      refine XS.aload X286.here hx rfl (hb hby at_225) rfl rfl ?_
      show Steps p.tables e below (T286.setTop (mkF m 227 #[.val (.int p0), .val (.long q1), .second, .val (.long q2), .second, .val (.long q3), .second, .val (.long q4), .second, .val (.long q5), .second, .val (.int (0 : Int32)), .val (.int v186), .val (.int v187), .val (.int v188), .val (.ref b192), .val (.ref b196), .val (.long q4), .second, .val (.long q5), .second, .val (.long v201), .second, .val (.long v202), .second, .val (.ref b203), .val (.ref b241)] [(.ref b203)])) _
      refine X286.arraylength hx (by rw [e288]; exact Ar289.1) (State.isArrayOf_alike hZ.alike Ar289.2.1) (g := (mkF m 227 #[.val (.int p0), .val (.long q1), .second, .val (.long q2), .second, .val (.long q3), .second, .val (.long q4), .second, .val (.long q5), .second, .val (.int (0 : Int32)), .val (.int v186), .val (.int v187), .val (.int v188), .val (.ref b192), .val (.ref b196), .val (.long q4), .second, .val (.long q5), .second, .val (.long v201), .second, .val (.long v202), .second, .val (.ref b203), .val (.ref b241)] [(.ref b203)])) rfl rfl (hb hby at_227) _ ?_
      rw [len_of S289 M289]
      show Steps p.tables e below (T286.setTop (mkF m 228 #[.val (.int p0), .val (.long q1), .second, .val (.long q2), .second, .val (.long q3), .second, .val (.long q4), .second, .val (.long q5), .second, .val (.int (0 : Int32)), .val (.int v186), .val (.int v187), .val (.int v188), .val (.ref b192), .val (.ref b196), .val (.long q4), .second, .val (.long q5), .second, .val (.long v201), .second, .val (.long v202), .second, .val (.ref b203), .val (.ref b241)] [(.int (4 : Int32))])) _
      refine XS.iconst X286.here hx rfl (hb hby at_228) ?_
      show Steps p.tables e below (T286.setTop (mkF m 229 #[.val (.int p0), .val (.long q1), .second, .val (.long q2), .second, .val (.long q3), .second, .val (.long q4), .second, .val (.long q5), .second, .val (.int (0 : Int32)), .val (.int v186), .val (.int v187), .val (.int v188), .val (.ref b192), .val (.ref b196), .val (.long q4), .second, .val (.long q5), .second, .val (.long v201), .second, .val (.long v202), .second, .val (.ref b203), .val (.ref b241)] [(.int (4 : Int32)), (.int (4 : Int32))])) _
      refine XS.icmpNo X286.here hx rfl (hb hby at_229) rfl (teq (by decide : (4 : Int32) = (4 : Int32))).2 ?_
      show Steps p.tables e below (T286.setTop (mkF m 232 #[.val (.int p0), .val (.long q1), .second, .val (.long q2), .second, .val (.long q3), .second, .val (.long q4), .second, .val (.long q5), .second, .val (.int (0 : Int32)), .val (.int v186), .val (.int v187), .val (.int v188), .val (.ref b192), .val (.ref b196), .val (.long q4), .second, .val (.long q5), .second, .val (.long v201), .second, .val (.long v202), .second, .val (.ref b203), .val (.ref b241)] [])) _
      refine XS.aload X286.here hx rfl (hb hby at_232) rfl rfl ?_
      show Steps p.tables e below (T286.setTop (mkF m 234 #[.val (.int p0), .val (.long q1), .second, .val (.long q2), .second, .val (.long q3), .second, .val (.long q4), .second, .val (.long q5), .second, .val (.int (0 : Int32)), .val (.int v186), .val (.int v187), .val (.int v188), .val (.ref b192), .val (.ref b196), .val (.long q4), .second, .val (.long q5), .second, .val (.long v201), .second, .val (.long v202), .second, .val (.ref b203), .val (.ref b241)] [(.ref b203)])) _
      refine XS.iconst X286.here hx rfl (hb hby at_234) ?_
      show Steps p.tables e below (T286.setTop (mkF m 235 #[.val (.int p0), .val (.long q1), .second, .val (.long q2), .second, .val (.long q3), .second, .val (.long q4), .second, .val (.long q5), .second, .val (.int (0 : Int32)), .val (.int v186), .val (.int v187), .val (.int v188), .val (.ref b192), .val (.ref b196), .val (.long q4), .second, .val (.long q5), .second, .val (.long v201), .second, .val (.long v202), .second, .val (.ref b203), .val (.ref b241)] [(.int (0 : Int32)), (.ref b203)])) _
      refine X286.laload hx (j := (0 : Int32)) (v := (.long q4)) (by rw [e288]; exact Ar290.1) (State.isArrayOf_alike hZ.alike Ar290.2.1) Ar290.2.2 hin290 hat290 (g := (mkF m 235 #[.val (.int p0), .val (.long q1), .second, .val (.long q2), .second, .val (.long q3), .second, .val (.long q4), .second, .val (.long q5), .second, .val (.int (0 : Int32)), .val (.int v186), .val (.int v187), .val (.int v188), .val (.ref b192), .val (.ref b196), .val (.long q4), .second, .val (.long q5), .second, .val (.long v201), .second, .val (.long v202), .second, .val (.ref b203), .val (.ref b241)] [(.int (0 : Int32)), (.ref b203)])) rfl rfl (hb hby at_235) _ ?_
      show Steps p.tables e below (T286.setTop (mkF m 236 #[.val (.int p0), .val (.long q1), .second, .val (.long q2), .second, .val (.long q3), .second, .val (.long q4), .second, .val (.long q5), .second, .val (.int (0 : Int32)), .val (.int v186), .val (.int v187), .val (.int v188), .val (.ref b192), .val (.ref b196), .val (.long q4), .second, .val (.long q5), .second, .val (.long v201), .second, .val (.long v202), .second, .val (.ref b203), .val (.ref b241)] [(.long q4)])) _
      refine XS.iconst X286.here hx rfl (hb hby at_236) ?_
      show Steps p.tables e below (T286.setTop (mkF m 237 #[.val (.int p0), .val (.long q1), .second, .val (.long q2), .second, .val (.long q3), .second, .val (.long q4), .second, .val (.long q5), .second, .val (.int (0 : Int32)), .val (.int v186), .val (.int v187), .val (.int v188), .val (.ref b192), .val (.ref b196), .val (.long q4), .second, .val (.long q5), .second, .val (.long v201), .second, .val (.long v202), .second, .val (.ref b203), .val (.ref b241)] [(.int (0 : Int32)), (.long q4)])) _
      refine XS.iload X286.here hx rfl (hb hby at_237) rfl ?_
      show Steps p.tables e below (T286.setTop (mkF m 239 #[.val (.int p0), .val (.long q1), .second, .val (.long q2), .second, .val (.long q3), .second, .val (.long q4), .second, .val (.long q5), .second, .val (.int (0 : Int32)), .val (.int v186), .val (.int v187), .val (.int v188), .val (.ref b192), .val (.ref b196), .val (.long q4), .second, .val (.long q5), .second, .val (.long v201), .second, .val (.long v202), .second, .val (.ref b203), .val (.ref b241)] [(.int (0 : Int32)), (.int (0 : Int32)), (.long q4)])) _
      refine XS.iload X286.here hx rfl (hb hby at_239) rfl ?_
      show Steps p.tables e below (T286.setTop (mkF m 241 #[.val (.int p0), .val (.long q1), .second, .val (.long q2), .second, .val (.long q3), .second, .val (.long q4), .second, .val (.long q5), .second, .val (.int (0 : Int32)), .val (.int v186), .val (.int v187), .val (.int v188), .val (.ref b192), .val (.ref b196), .val (.long q4), .second, .val (.long q5), .second, .val (.long v201), .second, .val (.long v202), .second, .val (.ref b203), .val (.ref b241)] [(.int v186), (.int (0 : Int32)), (.int (0 : Int32)), (.long q4)])) _
      refine XS.iload X286.here hx rfl (hb hby at_241) rfl ?_
      show Steps p.tables e below (T286.setTop (mkF m 243 #[.val (.int p0), .val (.long q1), .second, .val (.long q2), .second, .val (.long q3), .second, .val (.long q4), .second, .val (.long q5), .second, .val (.int (0 : Int32)), .val (.int v186), .val (.int v187), .val (.int v188), .val (.ref b192), .val (.ref b196), .val (.long q4), .second, .val (.long q5), .second, .val (.long v201), .second, .val (.long v202), .second, .val (.ref b203), .val (.ref b241)] [(.int v187), (.int v186), (.int (0 : Int32)), (.int (0 : Int32)), (.long q4)])) _
      refine XS.iload X286.here hx rfl (hb hby at_243) rfl ?_
      show Steps p.tables e below (T286.setTop (mkF m 245 #[.val (.int p0), .val (.long q1), .second, .val (.long q2), .second, .val (.long q3), .second, .val (.long q4), .second, .val (.long q5), .second, .val (.int (0 : Int32)), .val (.int v186), .val (.int v187), .val (.int v188), .val (.ref b192), .val (.ref b196), .val (.long q4), .second, .val (.long q5), .second, .val (.long v201), .second, .val (.long v202), .second, .val (.ref b203), .val (.ref b241)] [(.int v188), (.int v187), (.int v186), (.int (0 : Int32)), (.int (0 : Int32)), (.long q4)])) _
      refine XS.lloadN X286.here hx rfl (hb hby at_245) rfl ?_
      show Steps p.tables e below (T286.setTop (mkF m 246 #[.val (.int p0), .val (.long q1), .second, .val (.long q2), .second, .val (.long q3), .second, .val (.long q4), .second, .val (.long q5), .second, .val (.int (0 : Int32)), .val (.int v186), .val (.int v187), .val (.int v188), .val (.ref b192), .val (.ref b196), .val (.long q4), .second, .val (.long q5), .second, .val (.long v201), .second, .val (.long v202), .second, .val (.ref b203), .val (.ref b241)] [(.long q1), (.int v188), (.int v187), (.int v186), (.int (0 : Int32)), (.int (0 : Int32)), (.long q4)])) _
      refine XS.lloadN X286.here hx rfl (hb hby at_246) rfl ?_
      show Steps p.tables e below (T286.setTop (mkF m 247 #[.val (.int p0), .val (.long q1), .second, .val (.long q2), .second, .val (.long q3), .second, .val (.long q4), .second, .val (.long q5), .second, .val (.int (0 : Int32)), .val (.int v186), .val (.int v187), .val (.int v188), .val (.ref b192), .val (.ref b196), .val (.long q4), .second, .val (.long q5), .second, .val (.long v201), .second, .val (.long v202), .second, .val (.ref b203), .val (.ref b241)] [(.long q2), (.long q1), (.int v188), (.int v187), (.int v186), (.int (0 : Int32)), (.int (0 : Int32)), (.long q4)])) _
      refine XS.lload X286.here hx rfl (hb hby at_247) rfl ?_
      show Steps p.tables e below (T286.setTop (mkF m 249 #[.val (.int p0), .val (.long q1), .second, .val (.long q2), .second, .val (.long q3), .second, .val (.long q4), .second, .val (.long q5), .second, .val (.int (0 : Int32)), .val (.int v186), .val (.int v187), .val (.int v188), .val (.ref b192), .val (.ref b196), .val (.long q4), .second, .val (.long q5), .second, .val (.long v201), .second, .val (.long v202), .second, .val (.ref b203), .val (.ref b241)] [(.long q3), (.long q2), (.long q1), (.int v188), (.int v187), (.int v186), (.int (0 : Int32)), (.int (0 : Int32)), (.long q4)])) _
      refine XS.lload X286.here hx rfl (hb hby at_249) rfl ?_
      show Steps p.tables e below (T286.setTop (mkF m 251 #[.val (.int p0), .val (.long q1), .second, .val (.long q2), .second, .val (.long q3), .second, .val (.long q4), .second, .val (.long q5), .second, .val (.int (0 : Int32)), .val (.int v186), .val (.int v187), .val (.int v188), .val (.ref b192), .val (.ref b196), .val (.long q4), .second, .val (.long q5), .second, .val (.long v201), .second, .val (.long v202), .second, .val (.ref b203), .val (.ref b241)] [(.long q4), (.long q3), (.long q2), (.long q1), (.int v188), (.int v187), (.int v186), (.int (0 : Int32)), (.int (0 : Int32)), (.long q4)])) _
      refine st291 _ ?_
      show Steps p.tables e below (T291.setTop (mkF m 254 #[.val (.int p0), .val (.long q1), .second, .val (.long q2), .second, .val (.long q3), .second, .val (.long q4), .second, .val (.long q5), .second, .val (.int (0 : Int32)), .val (.int v186), .val (.int v187), .val (.int v188), .val (.ref b192), .val (.ref b196), .val (.long q4), .second, .val (.long q5), .second, .val (.long v201), .second, .val (.long v202), .second, .val (.ref b203), .val (.ref b241)] [(.long (own_f5 (0 : Int32) (0 : Int32) v186 v187 v188 q1 q2 q3 q4)), (.long q4)])) _
      refine XS.lcmp X291.here hx rfl (hb hby at_254) rfl ?_
      show Steps p.tables e below (T291.setTop (mkF m 255 #[.val (.int p0), .val (.long q1), .second, .val (.long q2), .second, .val (.long q3), .second, .val (.long q4), .second, .val (.long q5), .second, .val (.int (0 : Int32)), .val (.int v186), .val (.int v187), .val (.int v188), .val (.ref b192), .val (.ref b196), .val (.long q4), .second, .val (.long q5), .second, .val (.long v201), .second, .val (.long v202), .second, .val (.ref b203), .val (.ref b241)] [(.int (lcmpW q4 (own_f5 (0 : Int32) (0 : Int32) v186 v187 v188 q1 q2 q3 q4)))])) _
      exact kk)
    by_cases hc295 : q4 = (own_f5 (0 : Int32) (0 : Int32) v186 v187 v188 q1 q2 q3 q4)
    · obtain ⟨cl296, Ar296, q296, S296, M296, H296, G296⟩ := id f282
      have hin296 : ¬ ((1 : Int32) < 0 ∨ cl296.slots.size ≤ ((1 : Int32)).toNatClampNeg) := inb_of S296 ⟨by decide, by decide⟩
      have hat296 : cl296.slots[((1 : Int32)).toNatClampNeg]? = some (.long q5) := H296.at hin296 rfl
      obtain ⟨_, _, ⟨T297, L297, k297, n297⟩, -, X297, ⟨Lc297, hQ297, l297, y297, z297⟩, st297⟩ := Jvm.LawKit.callS X291 hx (y := (⟨"com/example/thyme/thyme/engine/RestartWritePinLaw", "expect", "(IIIIIJJJJ)J"⟩ : MethodName)) hown (mvT hZ (hw _ (List.mem_of_getElem? (i := 28) rfl))) (mvT hZ (hw _ (List.mem_of_getElem? (i := 29) rfl))) (mvT hZ (hw _ (List.mem_of_getElem? (i := 30) rfl))) (mvT hZ (hw _ (List.mem_of_getElem? (i := 31) rfl))) (by decide) (backOf (W := 2) (own_rm5 l Z av hw [] (1 : Int32) (0 : Int32) v186 v187 v188 q1 q2 q3 q5 T274.heap n0 z285 ) hZ (hw _ (List.mem_of_getElem? (i := 31) rfl)) (hw _ (List.mem_of_getElem? (i := 30) rfl)) (by decide) (by decide)) (g := (mkF m 277 #[.val (.int p0), .val (.long q1), .second, .val (.long q2), .second, .val (.long q3), .second, .val (.long q4), .second, .val (.long q5), .second, .val (.int (0 : Int32)), .val (.int v186), .val (.int v187), .val (.int v188), .val (.ref b192), .val (.ref b196), .val (.long q4), .second, .val (.long q5), .second, .val (.long v201), .second, .val (.long v202), .second, .val (.ref b203), .val (.ref b241)] [(.long q5), (.long q3), (.long q2), (.long q1), (.int v188), (.int v187), (.int v186), (.int (0 : Int32)), (.int (1 : Int32)), (.long q5)])) rfl (by rw [hml]; rfl) (argsL := [(.int (1 : Int32)), (.int (0 : Int32)), (.int v186), (.int v187), (.int v188), (.long q1), (.long q2), (.long q3), (.long q5)]) (rest := [(.long q5)]) (lenOf own_pd3 rfl) rfl (by show 2 * 0 + _ ≤ _; exact Nat.le_of_eq rfl) (hb hby at_277) (fun _ _ => ⟨rfl, e293, (by decide : 5 + 0 ≤ _), (by decide : 8 + 0 ≤ _)⟩)
      dsimp only [Pt.U, Pt.locs, Pt.cells, Pt.slots] at X297 l297 y297 z297 st297 hQ297
      subst l297 y297 z297
      obtain ⟨rfl, N297q, e299⟩ := hQ297
      have N298 := Fr.app N292 N297q
      have pre300 : ∀ t, Steps p.tables e below (T297.setTop (mkF m 281 #[.val (.int p0), .val (.long q1), .second, .val (.long q2), .second, .val (.long q3), .second, .val (.long q4), .second, .val (.long q5), .second, .val (.int (0 : Int32)), .val (.int v186), .val (.int v187), .val (.int v188), .val (.ref b192), .val (.ref b196), .val (.long q4), .second, .val (.long q5), .second, .val (.long v201), .second, .val (.long v202), .second, .val (.ref b203), .val (.ref b241)] [(.int (lcmpW q5 (own_f5 (1 : Int32) (0 : Int32) v186 v187 v188 q1 q2 q3 q5)))])) t → Steps p.tables e below (s₁.setTop (entryFrame m #[(.int p0), (.long q1), (.long q2), (.long q3), (.long q4), (.long q5)] maxLocals)) t := fun t kk => pre294 t (by
        show Steps p.tables e below (T291.setTop (mkF m 255 #[.val (.int p0), .val (.long q1), .second, .val (.long q2), .second, .val (.long q3), .second, .val (.long q4), .second, .val (.long q5), .second, .val (.int (0 : Int32)), .val (.int v186), .val (.int v187), .val (.int v188), .val (.ref b192), .val (.ref b196), .val (.long q4), .second, .val (.long q5), .second, .val (.long v201), .second, .val (.long v202), .second, .val (.ref b203), .val (.ref b241)] [(.int (lcmpW q4 (own_f5 (0 : Int32) (0 : Int32) v186 v187 v188 q1 q2 q3 q4)))])) _
        refine XS.ifNo X291.here hx rfl (hb hby at_255) rfl ((if0 _ _).trans (teq ((lw_eq q4 (own_f5 (0 : Int32) (0 : Int32) v186 v187 v188 q1 q2 q3 q4)).mpr hc295)).2) ?_
        show Steps p.tables e below (T291.setTop (mkF m 258 #[.val (.int p0), .val (.long q1), .second, .val (.long q2), .second, .val (.long q3), .second, .val (.long q4), .second, .val (.long q5), .second, .val (.int (0 : Int32)), .val (.int v186), .val (.int v187), .val (.int v188), .val (.ref b192), .val (.ref b196), .val (.long q4), .second, .val (.long q5), .second, .val (.long v201), .second, .val (.long v202), .second, .val (.ref b203), .val (.ref b241)] [])) _
        refine XS.aload X291.here hx rfl (hb hby at_258) rfl rfl ?_
        show Steps p.tables e below (T291.setTop (mkF m 260 #[.val (.int p0), .val (.long q1), .second, .val (.long q2), .second, .val (.long q3), .second, .val (.long q4), .second, .val (.long q5), .second, .val (.int (0 : Int32)), .val (.int v186), .val (.int v187), .val (.int v188), .val (.ref b192), .val (.ref b196), .val (.long q4), .second, .val (.long q5), .second, .val (.long v201), .second, .val (.long v202), .second, .val (.ref b203), .val (.ref b241)] [(.ref b203)])) _
        refine XS.iconst X291.here hx rfl (hb hby at_260) ?_
        show Steps p.tables e below (T291.setTop (mkF m 261 #[.val (.int p0), .val (.long q1), .second, .val (.long q2), .second, .val (.long q3), .second, .val (.long q4), .second, .val (.long q5), .second, .val (.int (0 : Int32)), .val (.int v186), .val (.int v187), .val (.int v188), .val (.ref b192), .val (.ref b196), .val (.long q4), .second, .val (.long q5), .second, .val (.long v201), .second, .val (.long v202), .second, .val (.ref b203), .val (.ref b241)] [(.int (1 : Int32)), (.ref b203)])) _
        refine X291.laload hx (j := (1 : Int32)) (v := (.long q5)) (by rw [e293]; exact Ar296.1) (State.isArrayOf_alike hZ.alike Ar296.2.1) Ar296.2.2 hin296 hat296 (g := (mkF m 261 #[.val (.int p0), .val (.long q1), .second, .val (.long q2), .second, .val (.long q3), .second, .val (.long q4), .second, .val (.long q5), .second, .val (.int (0 : Int32)), .val (.int v186), .val (.int v187), .val (.int v188), .val (.ref b192), .val (.ref b196), .val (.long q4), .second, .val (.long q5), .second, .val (.long v201), .second, .val (.long v202), .second, .val (.ref b203), .val (.ref b241)] [(.int (1 : Int32)), (.ref b203)])) rfl rfl (hb hby at_261) _ ?_
        show Steps p.tables e below (T291.setTop (mkF m 262 #[.val (.int p0), .val (.long q1), .second, .val (.long q2), .second, .val (.long q3), .second, .val (.long q4), .second, .val (.long q5), .second, .val (.int (0 : Int32)), .val (.int v186), .val (.int v187), .val (.int v188), .val (.ref b192), .val (.ref b196), .val (.long q4), .second, .val (.long q5), .second, .val (.long v201), .second, .val (.long v202), .second, .val (.ref b203), .val (.ref b241)] [(.long q5)])) _
        refine XS.iconst X291.here hx rfl (hb hby at_262) ?_
        show Steps p.tables e below (T291.setTop (mkF m 263 #[.val (.int p0), .val (.long q1), .second, .val (.long q2), .second, .val (.long q3), .second, .val (.long q4), .second, .val (.long q5), .second, .val (.int (0 : Int32)), .val (.int v186), .val (.int v187), .val (.int v188), .val (.ref b192), .val (.ref b196), .val (.long q4), .second, .val (.long q5), .second, .val (.long v201), .second, .val (.long v202), .second, .val (.ref b203), .val (.ref b241)] [(.int (1 : Int32)), (.long q5)])) _
        refine XS.iload X291.here hx rfl (hb hby at_263) rfl ?_
        show Steps p.tables e below (T291.setTop (mkF m 265 #[.val (.int p0), .val (.long q1), .second, .val (.long q2), .second, .val (.long q3), .second, .val (.long q4), .second, .val (.long q5), .second, .val (.int (0 : Int32)), .val (.int v186), .val (.int v187), .val (.int v188), .val (.ref b192), .val (.ref b196), .val (.long q4), .second, .val (.long q5), .second, .val (.long v201), .second, .val (.long v202), .second, .val (.ref b203), .val (.ref b241)] [(.int (0 : Int32)), (.int (1 : Int32)), (.long q5)])) _
        refine XS.iload X291.here hx rfl (hb hby at_265) rfl ?_
        show Steps p.tables e below (T291.setTop (mkF m 267 #[.val (.int p0), .val (.long q1), .second, .val (.long q2), .second, .val (.long q3), .second, .val (.long q4), .second, .val (.long q5), .second, .val (.int (0 : Int32)), .val (.int v186), .val (.int v187), .val (.int v188), .val (.ref b192), .val (.ref b196), .val (.long q4), .second, .val (.long q5), .second, .val (.long v201), .second, .val (.long v202), .second, .val (.ref b203), .val (.ref b241)] [(.int v186), (.int (0 : Int32)), (.int (1 : Int32)), (.long q5)])) _
        refine XS.iload X291.here hx rfl (hb hby at_267) rfl ?_
        show Steps p.tables e below (T291.setTop (mkF m 269 #[.val (.int p0), .val (.long q1), .second, .val (.long q2), .second, .val (.long q3), .second, .val (.long q4), .second, .val (.long q5), .second, .val (.int (0 : Int32)), .val (.int v186), .val (.int v187), .val (.int v188), .val (.ref b192), .val (.ref b196), .val (.long q4), .second, .val (.long q5), .second, .val (.long v201), .second, .val (.long v202), .second, .val (.ref b203), .val (.ref b241)] [(.int v187), (.int v186), (.int (0 : Int32)), (.int (1 : Int32)), (.long q5)])) _
        refine XS.iload X291.here hx rfl (hb hby at_269) rfl ?_
        show Steps p.tables e below (T291.setTop (mkF m 271 #[.val (.int p0), .val (.long q1), .second, .val (.long q2), .second, .val (.long q3), .second, .val (.long q4), .second, .val (.long q5), .second, .val (.int (0 : Int32)), .val (.int v186), .val (.int v187), .val (.int v188), .val (.ref b192), .val (.ref b196), .val (.long q4), .second, .val (.long q5), .second, .val (.long v201), .second, .val (.long v202), .second, .val (.ref b203), .val (.ref b241)] [(.int v188), (.int v187), (.int v186), (.int (0 : Int32)), (.int (1 : Int32)), (.long q5)])) _
        refine XS.lloadN X291.here hx rfl (hb hby at_271) rfl ?_
        show Steps p.tables e below (T291.setTop (mkF m 272 #[.val (.int p0), .val (.long q1), .second, .val (.long q2), .second, .val (.long q3), .second, .val (.long q4), .second, .val (.long q5), .second, .val (.int (0 : Int32)), .val (.int v186), .val (.int v187), .val (.int v188), .val (.ref b192), .val (.ref b196), .val (.long q4), .second, .val (.long q5), .second, .val (.long v201), .second, .val (.long v202), .second, .val (.ref b203), .val (.ref b241)] [(.long q1), (.int v188), (.int v187), (.int v186), (.int (0 : Int32)), (.int (1 : Int32)), (.long q5)])) _
        refine XS.lloadN X291.here hx rfl (hb hby at_272) rfl ?_
        show Steps p.tables e below (T291.setTop (mkF m 273 #[.val (.int p0), .val (.long q1), .second, .val (.long q2), .second, .val (.long q3), .second, .val (.long q4), .second, .val (.long q5), .second, .val (.int (0 : Int32)), .val (.int v186), .val (.int v187), .val (.int v188), .val (.ref b192), .val (.ref b196), .val (.long q4), .second, .val (.long q5), .second, .val (.long v201), .second, .val (.long v202), .second, .val (.ref b203), .val (.ref b241)] [(.long q2), (.long q1), (.int v188), (.int v187), (.int v186), (.int (0 : Int32)), (.int (1 : Int32)), (.long q5)])) _
        refine XS.lload X291.here hx rfl (hb hby at_273) rfl ?_
        show Steps p.tables e below (T291.setTop (mkF m 275 #[.val (.int p0), .val (.long q1), .second, .val (.long q2), .second, .val (.long q3), .second, .val (.long q4), .second, .val (.long q5), .second, .val (.int (0 : Int32)), .val (.int v186), .val (.int v187), .val (.int v188), .val (.ref b192), .val (.ref b196), .val (.long q4), .second, .val (.long q5), .second, .val (.long v201), .second, .val (.long v202), .second, .val (.ref b203), .val (.ref b241)] [(.long q3), (.long q2), (.long q1), (.int v188), (.int v187), (.int v186), (.int (0 : Int32)), (.int (1 : Int32)), (.long q5)])) _
        refine XS.lload X291.here hx rfl (hb hby at_275) rfl ?_
        show Steps p.tables e below (T291.setTop (mkF m 277 #[.val (.int p0), .val (.long q1), .second, .val (.long q2), .second, .val (.long q3), .second, .val (.long q4), .second, .val (.long q5), .second, .val (.int (0 : Int32)), .val (.int v186), .val (.int v187), .val (.int v188), .val (.ref b192), .val (.ref b196), .val (.long q4), .second, .val (.long q5), .second, .val (.long v201), .second, .val (.long v202), .second, .val (.ref b203), .val (.ref b241)] [(.long q5), (.long q3), (.long q2), (.long q1), (.int v188), (.int v187), (.int v186), (.int (0 : Int32)), (.int (1 : Int32)), (.long q5)])) _
        refine st297 _ ?_
        show Steps p.tables e below (T297.setTop (mkF m 280 #[.val (.int p0), .val (.long q1), .second, .val (.long q2), .second, .val (.long q3), .second, .val (.long q4), .second, .val (.long q5), .second, .val (.int (0 : Int32)), .val (.int v186), .val (.int v187), .val (.int v188), .val (.ref b192), .val (.ref b196), .val (.long q4), .second, .val (.long q5), .second, .val (.long v201), .second, .val (.long v202), .second, .val (.ref b203), .val (.ref b241)] [(.long (own_f5 (1 : Int32) (0 : Int32) v186 v187 v188 q1 q2 q3 q5)), (.long q5)])) _
        refine XS.lcmp X297.here hx rfl (hb hby at_280) rfl ?_
        show Steps p.tables e below (T297.setTop (mkF m 281 #[.val (.int p0), .val (.long q1), .second, .val (.long q2), .second, .val (.long q3), .second, .val (.long q4), .second, .val (.long q5), .second, .val (.int (0 : Int32)), .val (.int v186), .val (.int v187), .val (.int v188), .val (.ref b192), .val (.ref b196), .val (.long q4), .second, .val (.long q5), .second, .val (.long v201), .second, .val (.long v202), .second, .val (.ref b203), .val (.ref b241)] [(.int (lcmpW q5 (own_f5 (1 : Int32) (0 : Int32) v186 v187 v188 q1 q2 q3 q5)))])) _
        exact kk)
      by_cases hc301 : q5 = (own_f5 (1 : Int32) (0 : Int32) v186 v187 v188 q1 q2 q3 q5)
      · obtain ⟨cl302, Ar302, q302, S302, M302, H302, G302⟩ := id f282
        have hin302 : ¬ ((2 : Int32) < 0 ∨ cl302.slots.size ≤ ((2 : Int32)).toNatClampNeg) := inb_of S302 ⟨by decide, by decide⟩
        have hat302 : cl302.slots[((2 : Int32)).toNatClampNeg]? = some (.long v201) := H302.at hin302 rfl
        obtain ⟨_, _, ⟨T303, L303, k303, n303⟩, -, X303, ⟨Lc303, hQ303, l303, y303, z303⟩, st303⟩ := Jvm.LawKit.callS X297 hx (y := (⟨"com/example/thyme/thyme/engine/RestartWritePinLaw", "expect", "(IIIIIJJJJ)J"⟩ : MethodName)) hown (mvT hZ (hw _ (List.mem_of_getElem? (i := 28) rfl))) (mvT hZ (hw _ (List.mem_of_getElem? (i := 29) rfl))) (mvT hZ (hw _ (List.mem_of_getElem? (i := 30) rfl))) (mvT hZ (hw _ (List.mem_of_getElem? (i := 31) rfl))) (by decide) (backOf (W := 2) (own_rm5 l Z av hw [] (2 : Int32) (0 : Int32) v186 v187 v188 q1 q2 q3 v201 T274.heap n0 z285 ) hZ (hw _ (List.mem_of_getElem? (i := 31) rfl)) (hw _ (List.mem_of_getElem? (i := 30) rfl)) (by decide) (by decide)) (g := (mkF m 303 #[.val (.int p0), .val (.long q1), .second, .val (.long q2), .second, .val (.long q3), .second, .val (.long q4), .second, .val (.long q5), .second, .val (.int (0 : Int32)), .val (.int v186), .val (.int v187), .val (.int v188), .val (.ref b192), .val (.ref b196), .val (.long q4), .second, .val (.long q5), .second, .val (.long v201), .second, .val (.long v202), .second, .val (.ref b203), .val (.ref b241)] [(.long v201), (.long q3), (.long q2), (.long q1), (.int v188), (.int v187), (.int v186), (.int (0 : Int32)), (.int (2 : Int32)), (.long v201)])) rfl (by rw [hml]; rfl) (argsL := [(.int (2 : Int32)), (.int (0 : Int32)), (.int v186), (.int v187), (.int v188), (.long q1), (.long q2), (.long q3), (.long v201)]) (rest := [(.long v201)]) (lenOf own_pd3 rfl) rfl (by show 2 * 0 + _ ≤ _; exact Nat.le_of_eq rfl) (hb hby at_303) (fun _ _ => ⟨rfl, e299, (by decide : 5 + 0 ≤ _), (by decide : 8 + 0 ≤ _)⟩)
        dsimp only [Pt.U, Pt.locs, Pt.cells, Pt.slots] at X303 l303 y303 z303 st303 hQ303
        subst l303 y303 z303
        obtain ⟨rfl, N303q, e305⟩ := hQ303
        have N304 := Fr.app N298 N303q
        have pre306 : ∀ t, Steps p.tables e below (T303.setTop (mkF m 307 #[.val (.int p0), .val (.long q1), .second, .val (.long q2), .second, .val (.long q3), .second, .val (.long q4), .second, .val (.long q5), .second, .val (.int (0 : Int32)), .val (.int v186), .val (.int v187), .val (.int v188), .val (.ref b192), .val (.ref b196), .val (.long q4), .second, .val (.long q5), .second, .val (.long v201), .second, .val (.long v202), .second, .val (.ref b203), .val (.ref b241)] [(.int (lcmpW v201 (own_f5 (2 : Int32) (0 : Int32) v186 v187 v188 q1 q2 q3 v201)))])) t → Steps p.tables e below (s₁.setTop (entryFrame m #[(.int p0), (.long q1), (.long q2), (.long q3), (.long q4), (.long q5)] maxLocals)) t := fun t kk => pre300 t (by
          show Steps p.tables e below (T297.setTop (mkF m 281 #[.val (.int p0), .val (.long q1), .second, .val (.long q2), .second, .val (.long q3), .second, .val (.long q4), .second, .val (.long q5), .second, .val (.int (0 : Int32)), .val (.int v186), .val (.int v187), .val (.int v188), .val (.ref b192), .val (.ref b196), .val (.long q4), .second, .val (.long q5), .second, .val (.long v201), .second, .val (.long v202), .second, .val (.ref b203), .val (.ref b241)] [(.int (lcmpW q5 (own_f5 (1 : Int32) (0 : Int32) v186 v187 v188 q1 q2 q3 q5)))])) _
          refine XS.ifNo X297.here hx rfl (hb hby at_281) rfl ((if0 _ _).trans (teq ((lw_eq q5 (own_f5 (1 : Int32) (0 : Int32) v186 v187 v188 q1 q2 q3 q5)).mpr hc301)).2) ?_
          show Steps p.tables e below (T297.setTop (mkF m 284 #[.val (.int p0), .val (.long q1), .second, .val (.long q2), .second, .val (.long q3), .second, .val (.long q4), .second, .val (.long q5), .second, .val (.int (0 : Int32)), .val (.int v186), .val (.int v187), .val (.int v188), .val (.ref b192), .val (.ref b196), .val (.long q4), .second, .val (.long q5), .second, .val (.long v201), .second, .val (.long v202), .second, .val (.ref b203), .val (.ref b241)] [])) _
          refine XS.aload X297.here hx rfl (hb hby at_284) rfl rfl ?_
          show Steps p.tables e below (T297.setTop (mkF m 286 #[.val (.int p0), .val (.long q1), .second, .val (.long q2), .second, .val (.long q3), .second, .val (.long q4), .second, .val (.long q5), .second, .val (.int (0 : Int32)), .val (.int v186), .val (.int v187), .val (.int v188), .val (.ref b192), .val (.ref b196), .val (.long q4), .second, .val (.long q5), .second, .val (.long v201), .second, .val (.long v202), .second, .val (.ref b203), .val (.ref b241)] [(.ref b203)])) _
          refine XS.iconst X297.here hx rfl (hb hby at_286) ?_
          show Steps p.tables e below (T297.setTop (mkF m 287 #[.val (.int p0), .val (.long q1), .second, .val (.long q2), .second, .val (.long q3), .second, .val (.long q4), .second, .val (.long q5), .second, .val (.int (0 : Int32)), .val (.int v186), .val (.int v187), .val (.int v188), .val (.ref b192), .val (.ref b196), .val (.long q4), .second, .val (.long q5), .second, .val (.long v201), .second, .val (.long v202), .second, .val (.ref b203), .val (.ref b241)] [(.int (2 : Int32)), (.ref b203)])) _
          refine X297.laload hx (j := (2 : Int32)) (v := (.long v201)) (by rw [e299]; exact Ar302.1) (State.isArrayOf_alike hZ.alike Ar302.2.1) Ar302.2.2 hin302 hat302 (g := (mkF m 287 #[.val (.int p0), .val (.long q1), .second, .val (.long q2), .second, .val (.long q3), .second, .val (.long q4), .second, .val (.long q5), .second, .val (.int (0 : Int32)), .val (.int v186), .val (.int v187), .val (.int v188), .val (.ref b192), .val (.ref b196), .val (.long q4), .second, .val (.long q5), .second, .val (.long v201), .second, .val (.long v202), .second, .val (.ref b203), .val (.ref b241)] [(.int (2 : Int32)), (.ref b203)])) rfl rfl (hb hby at_287) _ ?_
          show Steps p.tables e below (T297.setTop (mkF m 288 #[.val (.int p0), .val (.long q1), .second, .val (.long q2), .second, .val (.long q3), .second, .val (.long q4), .second, .val (.long q5), .second, .val (.int (0 : Int32)), .val (.int v186), .val (.int v187), .val (.int v188), .val (.ref b192), .val (.ref b196), .val (.long q4), .second, .val (.long q5), .second, .val (.long v201), .second, .val (.long v202), .second, .val (.ref b203), .val (.ref b241)] [(.long v201)])) _
          refine XS.iconst X297.here hx rfl (hb hby at_288) ?_
          show Steps p.tables e below (T297.setTop (mkF m 289 #[.val (.int p0), .val (.long q1), .second, .val (.long q2), .second, .val (.long q3), .second, .val (.long q4), .second, .val (.long q5), .second, .val (.int (0 : Int32)), .val (.int v186), .val (.int v187), .val (.int v188), .val (.ref b192), .val (.ref b196), .val (.long q4), .second, .val (.long q5), .second, .val (.long v201), .second, .val (.long v202), .second, .val (.ref b203), .val (.ref b241)] [(.int (2 : Int32)), (.long v201)])) _
          refine XS.iload X297.here hx rfl (hb hby at_289) rfl ?_
          show Steps p.tables e below (T297.setTop (mkF m 291 #[.val (.int p0), .val (.long q1), .second, .val (.long q2), .second, .val (.long q3), .second, .val (.long q4), .second, .val (.long q5), .second, .val (.int (0 : Int32)), .val (.int v186), .val (.int v187), .val (.int v188), .val (.ref b192), .val (.ref b196), .val (.long q4), .second, .val (.long q5), .second, .val (.long v201), .second, .val (.long v202), .second, .val (.ref b203), .val (.ref b241)] [(.int (0 : Int32)), (.int (2 : Int32)), (.long v201)])) _
          refine XS.iload X297.here hx rfl (hb hby at_291) rfl ?_
          show Steps p.tables e below (T297.setTop (mkF m 293 #[.val (.int p0), .val (.long q1), .second, .val (.long q2), .second, .val (.long q3), .second, .val (.long q4), .second, .val (.long q5), .second, .val (.int (0 : Int32)), .val (.int v186), .val (.int v187), .val (.int v188), .val (.ref b192), .val (.ref b196), .val (.long q4), .second, .val (.long q5), .second, .val (.long v201), .second, .val (.long v202), .second, .val (.ref b203), .val (.ref b241)] [(.int v186), (.int (0 : Int32)), (.int (2 : Int32)), (.long v201)])) _
          refine XS.iload X297.here hx rfl (hb hby at_293) rfl ?_
          show Steps p.tables e below (T297.setTop (mkF m 295 #[.val (.int p0), .val (.long q1), .second, .val (.long q2), .second, .val (.long q3), .second, .val (.long q4), .second, .val (.long q5), .second, .val (.int (0 : Int32)), .val (.int v186), .val (.int v187), .val (.int v188), .val (.ref b192), .val (.ref b196), .val (.long q4), .second, .val (.long q5), .second, .val (.long v201), .second, .val (.long v202), .second, .val (.ref b203), .val (.ref b241)] [(.int v187), (.int v186), (.int (0 : Int32)), (.int (2 : Int32)), (.long v201)])) _
          refine XS.iload X297.here hx rfl (hb hby at_295) rfl ?_
          show Steps p.tables e below (T297.setTop (mkF m 297 #[.val (.int p0), .val (.long q1), .second, .val (.long q2), .second, .val (.long q3), .second, .val (.long q4), .second, .val (.long q5), .second, .val (.int (0 : Int32)), .val (.int v186), .val (.int v187), .val (.int v188), .val (.ref b192), .val (.ref b196), .val (.long q4), .second, .val (.long q5), .second, .val (.long v201), .second, .val (.long v202), .second, .val (.ref b203), .val (.ref b241)] [(.int v188), (.int v187), (.int v186), (.int (0 : Int32)), (.int (2 : Int32)), (.long v201)])) _
          refine XS.lloadN X297.here hx rfl (hb hby at_297) rfl ?_
          show Steps p.tables e below (T297.setTop (mkF m 298 #[.val (.int p0), .val (.long q1), .second, .val (.long q2), .second, .val (.long q3), .second, .val (.long q4), .second, .val (.long q5), .second, .val (.int (0 : Int32)), .val (.int v186), .val (.int v187), .val (.int v188), .val (.ref b192), .val (.ref b196), .val (.long q4), .second, .val (.long q5), .second, .val (.long v201), .second, .val (.long v202), .second, .val (.ref b203), .val (.ref b241)] [(.long q1), (.int v188), (.int v187), (.int v186), (.int (0 : Int32)), (.int (2 : Int32)), (.long v201)])) _
          refine XS.lloadN X297.here hx rfl (hb hby at_298) rfl ?_
          show Steps p.tables e below (T297.setTop (mkF m 299 #[.val (.int p0), .val (.long q1), .second, .val (.long q2), .second, .val (.long q3), .second, .val (.long q4), .second, .val (.long q5), .second, .val (.int (0 : Int32)), .val (.int v186), .val (.int v187), .val (.int v188), .val (.ref b192), .val (.ref b196), .val (.long q4), .second, .val (.long q5), .second, .val (.long v201), .second, .val (.long v202), .second, .val (.ref b203), .val (.ref b241)] [(.long q2), (.long q1), (.int v188), (.int v187), (.int v186), (.int (0 : Int32)), (.int (2 : Int32)), (.long v201)])) _
          refine XS.lload X297.here hx rfl (hb hby at_299) rfl ?_
          show Steps p.tables e below (T297.setTop (mkF m 301 #[.val (.int p0), .val (.long q1), .second, .val (.long q2), .second, .val (.long q3), .second, .val (.long q4), .second, .val (.long q5), .second, .val (.int (0 : Int32)), .val (.int v186), .val (.int v187), .val (.int v188), .val (.ref b192), .val (.ref b196), .val (.long q4), .second, .val (.long q5), .second, .val (.long v201), .second, .val (.long v202), .second, .val (.ref b203), .val (.ref b241)] [(.long q3), (.long q2), (.long q1), (.int v188), (.int v187), (.int v186), (.int (0 : Int32)), (.int (2 : Int32)), (.long v201)])) _
          refine XS.lload X297.here hx rfl (hb hby at_301) rfl ?_
          show Steps p.tables e below (T297.setTop (mkF m 303 #[.val (.int p0), .val (.long q1), .second, .val (.long q2), .second, .val (.long q3), .second, .val (.long q4), .second, .val (.long q5), .second, .val (.int (0 : Int32)), .val (.int v186), .val (.int v187), .val (.int v188), .val (.ref b192), .val (.ref b196), .val (.long q4), .second, .val (.long q5), .second, .val (.long v201), .second, .val (.long v202), .second, .val (.ref b203), .val (.ref b241)] [(.long v201), (.long q3), (.long q2), (.long q1), (.int v188), (.int v187), (.int v186), (.int (0 : Int32)), (.int (2 : Int32)), (.long v201)])) _
          refine st303 _ ?_
          show Steps p.tables e below (T303.setTop (mkF m 306 #[.val (.int p0), .val (.long q1), .second, .val (.long q2), .second, .val (.long q3), .second, .val (.long q4), .second, .val (.long q5), .second, .val (.int (0 : Int32)), .val (.int v186), .val (.int v187), .val (.int v188), .val (.ref b192), .val (.ref b196), .val (.long q4), .second, .val (.long q5), .second, .val (.long v201), .second, .val (.long v202), .second, .val (.ref b203), .val (.ref b241)] [(.long (own_f5 (2 : Int32) (0 : Int32) v186 v187 v188 q1 q2 q3 v201)), (.long v201)])) _
          refine XS.lcmp X303.here hx rfl (hb hby at_306) rfl ?_
          show Steps p.tables e below (T303.setTop (mkF m 307 #[.val (.int p0), .val (.long q1), .second, .val (.long q2), .second, .val (.long q3), .second, .val (.long q4), .second, .val (.long q5), .second, .val (.int (0 : Int32)), .val (.int v186), .val (.int v187), .val (.int v188), .val (.ref b192), .val (.ref b196), .val (.long q4), .second, .val (.long q5), .second, .val (.long v201), .second, .val (.long v202), .second, .val (.ref b203), .val (.ref b241)] [(.int (lcmpW v201 (own_f5 (2 : Int32) (0 : Int32) v186 v187 v188 q1 q2 q3 v201)))])) _
          exact kk)
        by_cases hc307 : v201 = (own_f5 (2 : Int32) (0 : Int32) v186 v187 v188 q1 q2 q3 v201)
        · obtain ⟨cl308, Ar308, q308, S308, M308, H308, G308⟩ := id f282
          have hin308 : ¬ ((3 : Int32) < 0 ∨ cl308.slots.size ≤ ((3 : Int32)).toNatClampNeg) := inb_of S308 ⟨by decide, by decide⟩
          have hat308 : cl308.slots[((3 : Int32)).toNatClampNeg]? = some (.long v202) := H308.at hin308 rfl
          obtain ⟨_, _, ⟨T309, L309, k309, n309⟩, -, X309, ⟨Lc309, hQ309, l309, y309, z309⟩, st309⟩ := Jvm.LawKit.callS X303 hx (y := (⟨"com/example/thyme/thyme/engine/RestartWritePinLaw", "expect", "(IIIIIJJJJ)J"⟩ : MethodName)) hown (mvT hZ (hw _ (List.mem_of_getElem? (i := 28) rfl))) (mvT hZ (hw _ (List.mem_of_getElem? (i := 29) rfl))) (mvT hZ (hw _ (List.mem_of_getElem? (i := 30) rfl))) (mvT hZ (hw _ (List.mem_of_getElem? (i := 31) rfl))) (by decide) (backOf (W := 2) (own_rm5 l Z av hw [] (3 : Int32) (0 : Int32) v186 v187 v188 q1 q2 q3 v202 T274.heap n0 z285 ) hZ (hw _ (List.mem_of_getElem? (i := 31) rfl)) (hw _ (List.mem_of_getElem? (i := 30) rfl)) (by decide) (by decide)) (g := (mkF m 329 #[.val (.int p0), .val (.long q1), .second, .val (.long q2), .second, .val (.long q3), .second, .val (.long q4), .second, .val (.long q5), .second, .val (.int (0 : Int32)), .val (.int v186), .val (.int v187), .val (.int v188), .val (.ref b192), .val (.ref b196), .val (.long q4), .second, .val (.long q5), .second, .val (.long v201), .second, .val (.long v202), .second, .val (.ref b203), .val (.ref b241)] [(.long v202), (.long q3), (.long q2), (.long q1), (.int v188), (.int v187), (.int v186), (.int (0 : Int32)), (.int (3 : Int32)), (.long v202)])) rfl (by rw [hml]; rfl) (argsL := [(.int (3 : Int32)), (.int (0 : Int32)), (.int v186), (.int v187), (.int v188), (.long q1), (.long q2), (.long q3), (.long v202)]) (rest := [(.long v202)]) (lenOf own_pd3 rfl) rfl (by show 2 * 0 + _ ≤ _; exact Nat.le_of_eq rfl) (hb hby at_329) (fun _ _ => ⟨rfl, e305, (by decide : 5 + 0 ≤ _), (by decide : 8 + 0 ≤ _)⟩)
          dsimp only [Pt.U, Pt.locs, Pt.cells, Pt.slots] at X309 l309 y309 z309 st309 hQ309
          subst l309 y309 z309
          obtain ⟨rfl, N309q, e311⟩ := hQ309
          have N310 := Fr.app N304 N309q
          have pre312 : ∀ t, Steps p.tables e below (T309.setTop (mkF m 333 #[.val (.int p0), .val (.long q1), .second, .val (.long q2), .second, .val (.long q3), .second, .val (.long q4), .second, .val (.long q5), .second, .val (.int (0 : Int32)), .val (.int v186), .val (.int v187), .val (.int v188), .val (.ref b192), .val (.ref b196), .val (.long q4), .second, .val (.long q5), .second, .val (.long v201), .second, .val (.long v202), .second, .val (.ref b203), .val (.ref b241)] [(.int (lcmpW v202 (own_f5 (3 : Int32) (0 : Int32) v186 v187 v188 q1 q2 q3 v202)))])) t → Steps p.tables e below (s₁.setTop (entryFrame m #[(.int p0), (.long q1), (.long q2), (.long q3), (.long q4), (.long q5)] maxLocals)) t := fun t kk => pre306 t (by
            show Steps p.tables e below (T303.setTop (mkF m 307 #[.val (.int p0), .val (.long q1), .second, .val (.long q2), .second, .val (.long q3), .second, .val (.long q4), .second, .val (.long q5), .second, .val (.int (0 : Int32)), .val (.int v186), .val (.int v187), .val (.int v188), .val (.ref b192), .val (.ref b196), .val (.long q4), .second, .val (.long q5), .second, .val (.long v201), .second, .val (.long v202), .second, .val (.ref b203), .val (.ref b241)] [(.int (lcmpW v201 (own_f5 (2 : Int32) (0 : Int32) v186 v187 v188 q1 q2 q3 v201)))])) _
            refine XS.ifNo X303.here hx rfl (hb hby at_307) rfl ((if0 _ _).trans (teq ((lw_eq v201 (own_f5 (2 : Int32) (0 : Int32) v186 v187 v188 q1 q2 q3 v201)).mpr hc307)).2) ?_
            show Steps p.tables e below (T303.setTop (mkF m 310 #[.val (.int p0), .val (.long q1), .second, .val (.long q2), .second, .val (.long q3), .second, .val (.long q4), .second, .val (.long q5), .second, .val (.int (0 : Int32)), .val (.int v186), .val (.int v187), .val (.int v188), .val (.ref b192), .val (.ref b196), .val (.long q4), .second, .val (.long q5), .second, .val (.long v201), .second, .val (.long v202), .second, .val (.ref b203), .val (.ref b241)] [])) _
            refine XS.aload X303.here hx rfl (hb hby at_310) rfl rfl ?_
            show Steps p.tables e below (T303.setTop (mkF m 312 #[.val (.int p0), .val (.long q1), .second, .val (.long q2), .second, .val (.long q3), .second, .val (.long q4), .second, .val (.long q5), .second, .val (.int (0 : Int32)), .val (.int v186), .val (.int v187), .val (.int v188), .val (.ref b192), .val (.ref b196), .val (.long q4), .second, .val (.long q5), .second, .val (.long v201), .second, .val (.long v202), .second, .val (.ref b203), .val (.ref b241)] [(.ref b203)])) _
            refine XS.iconst X303.here hx rfl (hb hby at_312) ?_
            show Steps p.tables e below (T303.setTop (mkF m 313 #[.val (.int p0), .val (.long q1), .second, .val (.long q2), .second, .val (.long q3), .second, .val (.long q4), .second, .val (.long q5), .second, .val (.int (0 : Int32)), .val (.int v186), .val (.int v187), .val (.int v188), .val (.ref b192), .val (.ref b196), .val (.long q4), .second, .val (.long q5), .second, .val (.long v201), .second, .val (.long v202), .second, .val (.ref b203), .val (.ref b241)] [(.int (3 : Int32)), (.ref b203)])) _
            refine X303.laload hx (j := (3 : Int32)) (v := (.long v202)) (by rw [e305]; exact Ar308.1) (State.isArrayOf_alike hZ.alike Ar308.2.1) Ar308.2.2 hin308 hat308 (g := (mkF m 313 #[.val (.int p0), .val (.long q1), .second, .val (.long q2), .second, .val (.long q3), .second, .val (.long q4), .second, .val (.long q5), .second, .val (.int (0 : Int32)), .val (.int v186), .val (.int v187), .val (.int v188), .val (.ref b192), .val (.ref b196), .val (.long q4), .second, .val (.long q5), .second, .val (.long v201), .second, .val (.long v202), .second, .val (.ref b203), .val (.ref b241)] [(.int (3 : Int32)), (.ref b203)])) rfl rfl (hb hby at_313) _ ?_
            show Steps p.tables e below (T303.setTop (mkF m 314 #[.val (.int p0), .val (.long q1), .second, .val (.long q2), .second, .val (.long q3), .second, .val (.long q4), .second, .val (.long q5), .second, .val (.int (0 : Int32)), .val (.int v186), .val (.int v187), .val (.int v188), .val (.ref b192), .val (.ref b196), .val (.long q4), .second, .val (.long q5), .second, .val (.long v201), .second, .val (.long v202), .second, .val (.ref b203), .val (.ref b241)] [(.long v202)])) _
            refine XS.iconst X303.here hx rfl (hb hby at_314) ?_
            show Steps p.tables e below (T303.setTop (mkF m 315 #[.val (.int p0), .val (.long q1), .second, .val (.long q2), .second, .val (.long q3), .second, .val (.long q4), .second, .val (.long q5), .second, .val (.int (0 : Int32)), .val (.int v186), .val (.int v187), .val (.int v188), .val (.ref b192), .val (.ref b196), .val (.long q4), .second, .val (.long q5), .second, .val (.long v201), .second, .val (.long v202), .second, .val (.ref b203), .val (.ref b241)] [(.int (3 : Int32)), (.long v202)])) _
            refine XS.iload X303.here hx rfl (hb hby at_315) rfl ?_
            show Steps p.tables e below (T303.setTop (mkF m 317 #[.val (.int p0), .val (.long q1), .second, .val (.long q2), .second, .val (.long q3), .second, .val (.long q4), .second, .val (.long q5), .second, .val (.int (0 : Int32)), .val (.int v186), .val (.int v187), .val (.int v188), .val (.ref b192), .val (.ref b196), .val (.long q4), .second, .val (.long q5), .second, .val (.long v201), .second, .val (.long v202), .second, .val (.ref b203), .val (.ref b241)] [(.int (0 : Int32)), (.int (3 : Int32)), (.long v202)])) _
            refine XS.iload X303.here hx rfl (hb hby at_317) rfl ?_
            show Steps p.tables e below (T303.setTop (mkF m 319 #[.val (.int p0), .val (.long q1), .second, .val (.long q2), .second, .val (.long q3), .second, .val (.long q4), .second, .val (.long q5), .second, .val (.int (0 : Int32)), .val (.int v186), .val (.int v187), .val (.int v188), .val (.ref b192), .val (.ref b196), .val (.long q4), .second, .val (.long q5), .second, .val (.long v201), .second, .val (.long v202), .second, .val (.ref b203), .val (.ref b241)] [(.int v186), (.int (0 : Int32)), (.int (3 : Int32)), (.long v202)])) _
            refine XS.iload X303.here hx rfl (hb hby at_319) rfl ?_
            show Steps p.tables e below (T303.setTop (mkF m 321 #[.val (.int p0), .val (.long q1), .second, .val (.long q2), .second, .val (.long q3), .second, .val (.long q4), .second, .val (.long q5), .second, .val (.int (0 : Int32)), .val (.int v186), .val (.int v187), .val (.int v188), .val (.ref b192), .val (.ref b196), .val (.long q4), .second, .val (.long q5), .second, .val (.long v201), .second, .val (.long v202), .second, .val (.ref b203), .val (.ref b241)] [(.int v187), (.int v186), (.int (0 : Int32)), (.int (3 : Int32)), (.long v202)])) _
            refine XS.iload X303.here hx rfl (hb hby at_321) rfl ?_
            show Steps p.tables e below (T303.setTop (mkF m 323 #[.val (.int p0), .val (.long q1), .second, .val (.long q2), .second, .val (.long q3), .second, .val (.long q4), .second, .val (.long q5), .second, .val (.int (0 : Int32)), .val (.int v186), .val (.int v187), .val (.int v188), .val (.ref b192), .val (.ref b196), .val (.long q4), .second, .val (.long q5), .second, .val (.long v201), .second, .val (.long v202), .second, .val (.ref b203), .val (.ref b241)] [(.int v188), (.int v187), (.int v186), (.int (0 : Int32)), (.int (3 : Int32)), (.long v202)])) _
            refine XS.lloadN X303.here hx rfl (hb hby at_323) rfl ?_
            show Steps p.tables e below (T303.setTop (mkF m 324 #[.val (.int p0), .val (.long q1), .second, .val (.long q2), .second, .val (.long q3), .second, .val (.long q4), .second, .val (.long q5), .second, .val (.int (0 : Int32)), .val (.int v186), .val (.int v187), .val (.int v188), .val (.ref b192), .val (.ref b196), .val (.long q4), .second, .val (.long q5), .second, .val (.long v201), .second, .val (.long v202), .second, .val (.ref b203), .val (.ref b241)] [(.long q1), (.int v188), (.int v187), (.int v186), (.int (0 : Int32)), (.int (3 : Int32)), (.long v202)])) _
            refine XS.lloadN X303.here hx rfl (hb hby at_324) rfl ?_
            show Steps p.tables e below (T303.setTop (mkF m 325 #[.val (.int p0), .val (.long q1), .second, .val (.long q2), .second, .val (.long q3), .second, .val (.long q4), .second, .val (.long q5), .second, .val (.int (0 : Int32)), .val (.int v186), .val (.int v187), .val (.int v188), .val (.ref b192), .val (.ref b196), .val (.long q4), .second, .val (.long q5), .second, .val (.long v201), .second, .val (.long v202), .second, .val (.ref b203), .val (.ref b241)] [(.long q2), (.long q1), (.int v188), (.int v187), (.int v186), (.int (0 : Int32)), (.int (3 : Int32)), (.long v202)])) _
            refine XS.lload X303.here hx rfl (hb hby at_325) rfl ?_
            show Steps p.tables e below (T303.setTop (mkF m 327 #[.val (.int p0), .val (.long q1), .second, .val (.long q2), .second, .val (.long q3), .second, .val (.long q4), .second, .val (.long q5), .second, .val (.int (0 : Int32)), .val (.int v186), .val (.int v187), .val (.int v188), .val (.ref b192), .val (.ref b196), .val (.long q4), .second, .val (.long q5), .second, .val (.long v201), .second, .val (.long v202), .second, .val (.ref b203), .val (.ref b241)] [(.long q3), (.long q2), (.long q1), (.int v188), (.int v187), (.int v186), (.int (0 : Int32)), (.int (3 : Int32)), (.long v202)])) _
            refine XS.lload X303.here hx rfl (hb hby at_327) rfl ?_
            show Steps p.tables e below (T303.setTop (mkF m 329 #[.val (.int p0), .val (.long q1), .second, .val (.long q2), .second, .val (.long q3), .second, .val (.long q4), .second, .val (.long q5), .second, .val (.int (0 : Int32)), .val (.int v186), .val (.int v187), .val (.int v188), .val (.ref b192), .val (.ref b196), .val (.long q4), .second, .val (.long q5), .second, .val (.long v201), .second, .val (.long v202), .second, .val (.ref b203), .val (.ref b241)] [(.long v202), (.long q3), (.long q2), (.long q1), (.int v188), (.int v187), (.int v186), (.int (0 : Int32)), (.int (3 : Int32)), (.long v202)])) _
            refine st309 _ ?_
            show Steps p.tables e below (T309.setTop (mkF m 332 #[.val (.int p0), .val (.long q1), .second, .val (.long q2), .second, .val (.long q3), .second, .val (.long q4), .second, .val (.long q5), .second, .val (.int (0 : Int32)), .val (.int v186), .val (.int v187), .val (.int v188), .val (.ref b192), .val (.ref b196), .val (.long q4), .second, .val (.long q5), .second, .val (.long v201), .second, .val (.long v202), .second, .val (.ref b203), .val (.ref b241)] [(.long (own_f5 (3 : Int32) (0 : Int32) v186 v187 v188 q1 q2 q3 v202)), (.long v202)])) _
            refine XS.lcmp X309.here hx rfl (hb hby at_332) rfl ?_
            show Steps p.tables e below (T309.setTop (mkF m 333 #[.val (.int p0), .val (.long q1), .second, .val (.long q2), .second, .val (.long q3), .second, .val (.long q4), .second, .val (.long q5), .second, .val (.int (0 : Int32)), .val (.int v186), .val (.int v187), .val (.int v188), .val (.ref b192), .val (.ref b196), .val (.long q4), .second, .val (.long q5), .second, .val (.long v201), .second, .val (.long v202), .second, .val (.ref b203), .val (.ref b241)] [(.int (lcmpW v202 (own_f5 (3 : Int32) (0 : Int32) v186 v187 v188 q1 q2 q3 v202)))])) _
            exact kk)
          by_cases hc313 : v202 = (own_f5 (3 : Int32) (0 : Int32) v186 v187 v188 q1 q2 q3 v202)
          · obtain ⟨fs, hr, hrun, hended, hW, hsame⟩ := X309.leave (v := some (.int (1 : Int32))) (fun h => by rw [Bd.returns] at h; cases h)
            refine ⟨_, _, pre312 _ ?_, hrun, hended, _, _, rfl, ?_, ⟨_, rfl⟩, hW, hsame.mono (by decide) (by decide)⟩
            · show Steps p.tables e below (T309.setTop (mkF m 333 #[.val (.int p0), .val (.long q1), .second, .val (.long q2), .second, .val (.long q3), .second, .val (.long q4), .second, .val (.long q5), .second, .val (.int (0 : Int32)), .val (.int v186), .val (.int v187), .val (.int v188), .val (.ref b192), .val (.ref b196), .val (.long q4), .second, .val (.long q5), .second, .val (.long v201), .second, .val (.long v202), .second, .val (.ref b203), .val (.ref b241)] [(.int (lcmpW v202 (own_f5 (3 : Int32) (0 : Int32) v186 v187 v188 q1 q2 q3 v202)))])) _
              refine XS.ifNo X309.here hx rfl (hb hby at_333) rfl ((if0 _ _).trans (teq ((lw_eq v202 (own_f5 (3 : Int32) (0 : Int32) v186 v187 v188 q1 q2 q3 v202)).mpr hc313)).2) ?_
              show Steps p.tables e below (T309.setTop (mkF m 336 #[.val (.int p0), .val (.long q1), .second, .val (.long q2), .second, .val (.long q3), .second, .val (.long q4), .second, .val (.long q5), .second, .val (.int (0 : Int32)), .val (.int v186), .val (.int v187), .val (.int v188), .val (.ref b192), .val (.ref b196), .val (.long q4), .second, .val (.long q5), .second, .val (.long v201), .second, .val (.long v202), .second, .val (.ref b203), .val (.ref b241)] [])) _
              refine XS.iconst X309.here hx rfl (hb hby at_336) ?_
              show Steps p.tables e below (T309.setTop (mkF m 337 #[.val (.int p0), .val (.long q1), .second, .val (.long q2), .second, .val (.long q3), .second, .val (.long q4), .second, .val (.long q5), .second, .val (.int (0 : Int32)), .val (.int v186), .val (.int v187), .val (.int v188), .val (.ref b192), .val (.ref b196), .val (.long q4), .second, .val (.long q5), .second, .val (.long v201), .second, .val (.long v202), .second, .val (.ref b203), .val (.ref b241)] [(.int (1 : Int32))])) _
              refine XS.goto X309.here hx rfl (pc0 := 337) (pc' := 341) rfl (hb hby at_337) (by decide) (by decide) ?_
              show Steps p.tables e below (T309.setTop (mkF m 341 #[.val (.int p0), .val (.long q1), .second, .val (.long q2), .second, .val (.long q3), .second, .val (.long q4), .second, .val (.long q5), .second, .val (.int (0 : Int32)), .val (.int v186), .val (.int v187), .val (.int v188), .val (.ref b192), .val (.ref b196), .val (.long q4), .second, .val (.long q5), .second, .val (.long v201), .second, .val (.long v202), .second, .val (.ref b203), .val (.ref b241)] [(.int (1 : Int32))])) _
              exact retN X309 hx (t := .boolean) Bd.returns (by simp) (hb hby at_341) hr
            · show own_Q0 Z p0 q1 q2 q3 q4 q5 h0 n0 _ T309.heap _
              rw [e311]
              exact ⟨rfl, N310⟩
          · exact (own_leaf0_2 p0 q1 q2 q3 q5 hv185 v186 hv186 v187 hv187 v188 hv188 v202 hv202 hc301 hc313).elim
        · exact (own_leaf0_3 p0 q1 q2 q3 q4 hv185 v186 hv186 v187 hv187 v188 hv188 v201 hv201 hc295 hc307).elim
      · exact (own_leaf0_4 p0 q1 q2 q3 q5 hv185 v186 hv186 v187 hv187 v188 hv188 hc301).elim
    · exact (own_leaf0_5 p0 q1 q2 q3 q4 hv185 v186 hv186 v187 hv187 v188 hv188 hc295).elim
  · subst hs191
    obtain ⟨T314, h314, k314, X314, e314, E314, A314, st314⟩ := newP X0 hx hZ (hw _ (List.mem_of_getElem? (i := 0) rfl)) e0 (g := (mkF m 52 #[.val (.int p0), .val (.long q1), .second, .val (.long q2), .second, .val (.long q3), .second, .val (.long q4), .second, .val (.long q5), .second, .val (.int (1 : Int32)), .val (.int v186), .val (.int v187), .val (.int v188), .unset, .unset, .unset, .unset, .unset, .unset, .unset, .unset, .unset, .unset, .unset, .unset] [(.int (1 : Int32))])) rfl (hb hby at_52) rfl (by decide) (cap := 1) (by decide) (by decide) (by decide) (by decide)
    obtain ⟨b314, g314⟩ : ∃ z, z = h0.size := ⟨_, rfl⟩
    have g_b314 : n0 ≤ b314 := Nat.le_trans Z0 (Nat.le_of_eq g314.symm)
    have sz_b314 : h0.size ≤ b314 := Nat.le_trans (Keep.refl h0 []).1 (Nat.le_of_eq g314.symm)
    rw [← g314] at A314 st314
    have z315 : n0 ≤ h314.size := Nat.le_trans Z0 E314.1
    have K316 : Keep h0 h314 [] := (Keep.refl h0 []).ext E314
    have f317 : Arv Z h314 b314 k314 .int (1 : Int32) [(.int (0 : Int32))] (.int (0 : Int32)) := (Arv.new A314 (by decide)).pad (pad_rep [] (.int (0 : Int32)) 1)
    obtain ⟨cl318, Ar318, q318, S318, M318, H318, G318⟩ := id f317
    have hin318 : ¬ ((0 : Int32) < 0 ∨ cl318.slots.size ≤ ((0 : Int32)).toNatClampNeg) := inb_of S318 ⟨by decide, by decide⟩
    obtain ⟨T319, h319, X319, e319, W319, st319⟩ := stI X314 hx hZ e314 Ar318 (j := (0 : Int32)) hin318 (g := (mkF m 58 #[.val (.int p0), .val (.long q1), .second, .val (.long q2), .second, .val (.long q3), .second, .val (.long q4), .second, .val (.long q5), .second, .val (.int (1 : Int32)), .val (.int v186), .val (.int v187), .val (.int v188), .unset, .unset, .unset, .unset, .unset, .unset, .unset, .unset, .unset, .unset, .unset, .unset] [(.int v186), (.int (0 : Int32)), (.ref b314), (.ref b314)])) rfl rfl (hb hby at_58)
    have K320 : Keep h0 h319 [] := K316.wr W319 (Or.inr sz_b314)
    have z321 : n0 ≤ h319.size := Nat.le_trans z315 (Keep.of_wr W319).1
    have N322 := Fr.snoc X319 N0 g_b314
    have f323 : Arv Z h319 b314 k314 .int (1 : Int32) [(.int v186)] (.int (0 : Int32)) := Arv.set Ar318 q318 S318 M318 H318 G318 rfl W319 0 rfl (Nat.le_of_ble_eq_true rfl)
    obtain ⟨T324, h324, k324, X324, e324, E324, A324, st324⟩ := newP X319 hx hZ (hw _ (List.mem_of_getElem? (i := 1) rfl)) e319 (g := (mkF m 62 #[.val (.int p0), .val (.long q1), .second, .val (.long q2), .second, .val (.long q3), .second, .val (.long q4), .second, .val (.long q5), .second, .val (.int (1 : Int32)), .val (.int v186), .val (.int v187), .val (.int v188), .val (.ref b314), .unset, .unset, .unset, .unset, .unset, .unset, .unset, .unset, .unset, .unset, .unset] [(.int (1 : Int32))])) rfl (hb hby at_62) rfl (by decide) (cap := 1) (by decide) (by decide) (by decide) (by decide)
    obtain ⟨b324, g324⟩ : ∃ z, z = h319.size := ⟨_, rfl⟩
    have ne_b314_b324 : b314 ≠ b324 := Nat.ne_of_lt (Nat.lt_of_lt_of_le f323.lt (Nat.le_of_eq g324.symm))
    have g_b324 : n0 ≤ b324 := Nat.le_trans z321 (Nat.le_of_eq g324.symm)
    have sz_b324 : h0.size ≤ b324 := Nat.le_trans K320.1 (Nat.le_of_eq g324.symm)
    rw [← g324] at A324 st324
    have f325 := f323.ext E324
    have z326 : n0 ≤ h324.size := Nat.le_trans z321 E324.1
    have K327 : Keep h0 h324 [] := K320.ext E324
    have f328 : Arv Z h324 b324 k324 .long (1 : Int32) [(.long (0 : Int64))] (.long (0 : Int64)) := (Arv.new A324 (by decide)).pad (pad_rep [] (.long (0 : Int64)) 1)
    obtain ⟨cl329, Ar329, q329, S329, M329, H329, G329⟩ := id f328
    have hin329 : ¬ ((0 : Int32) < 0 ∨ cl329.slots.size ≤ ((0 : Int32)).toNatClampNeg) := inb_of S329 ⟨by decide, by decide⟩
    obtain ⟨T330, h330, X330, e330, W330, st330⟩ := stJ X324 hx hZ e324 Ar329 (j := (0 : Int32)) hin329 (g := (mkF m 67 #[.val (.int p0), .val (.long q1), .second, .val (.long q2), .second, .val (.long q3), .second, .val (.long q4), .second, .val (.long q5), .second, .val (.int (1 : Int32)), .val (.int v186), .val (.int v187), .val (.int v188), .val (.ref b314), .unset, .unset, .unset, .unset, .unset, .unset, .unset, .unset, .unset, .unset, .unset] [(.long q1), (.int (0 : Int32)), (.ref b324), (.ref b324)])) rfl rfl (hb hby at_67)
    have f331 := f325.other W330 ne_b314_b324
    have K332 : Keep h0 h330 [] := K327.wr W330 (Or.inr sz_b324)
    have z333 : n0 ≤ h330.size := Nat.le_trans z326 (Keep.of_wr W330).1
    have N334 := Fr.snoc X330 N322 g_b324
    have f335 : Arv Z h330 b324 k324 .long (1 : Int32) [(.long q1)] (.long (0 : Int64)) := Arv.set Ar329 q329 S329 M329 H329 G329 rfl W330 0 rfl (Nat.le_of_ble_eq_true rfl)
    obtain ⟨v336, hv336⟩ : ∃ z : Int64, z = (q4 ^^^ (-1 : Int64)) := ⟨_, rfl⟩
    obtain ⟨v337, hv337⟩ : ∃ z : Int64, z = (q5 ^^^ (-1 : Int64)) := ⟨_, rfl⟩
    obtain ⟨T338, h338, k338, X338, e338, E338, A338, st338⟩ := newP X330 hx hZ (hw _ (List.mem_of_getElem? (i := 1) rfl)) e330 (g := (mkF m 173 #[.val (.int p0), .val (.long q1), .second, .val (.long q2), .second, .val (.long q3), .second, .val (.long q4), .second, .val (.long q5), .second, .val (.int (1 : Int32)), .val (.int v186), .val (.int v187), .val (.int v188), .val (.ref b314), .val (.ref b324), .val (.long q4), .second, .val (.long q5), .second, .val (.long v336), .second, .val (.long v337), .second, .unset, .unset] [(.int (4 : Int32))])) rfl (hb hby at_173) rfl (by decide) (cap := 4) (by decide) (by decide) (by decide) (by decide)
    obtain ⟨b338, g338⟩ : ∃ z, z = h330.size := ⟨_, rfl⟩
    have ne_b314_b338 : b314 ≠ b338 := Nat.ne_of_lt (Nat.lt_of_lt_of_le f331.lt (Nat.le_of_eq g338.symm))
    have ne_b324_b338 : b324 ≠ b338 := Nat.ne_of_lt (Nat.lt_of_lt_of_le f335.lt (Nat.le_of_eq g338.symm))
    have g_b338 : n0 ≤ b338 := Nat.le_trans z333 (Nat.le_of_eq g338.symm)
    have sz_b338 : h0.size ≤ b338 := Nat.le_trans K332.1 (Nat.le_of_eq g338.symm)
    rw [← g338] at A338 st338
    have f339 := f331.ext E338
    have f340 := f335.ext E338
    have z341 : n0 ≤ h338.size := Nat.le_trans z333 E338.1
    have K342 : Keep h0 h338 [] := K332.ext E338
    have f343 : Arv Z h338 b338 k338 .long (4 : Int32) [(.long (0 : Int64)), (.long (0 : Int64)), (.long (0 : Int64)), (.long (0 : Int64))] (.long (0 : Int64)) := (Arv.new A338 (by decide)).pad (pad_rep [] (.long (0 : Int64)) 4)
    obtain ⟨cl344, Ar344, q344, S344, M344, H344, G344⟩ := id f343
    have hin344 : ¬ ((0 : Int32) < 0 ∨ cl344.slots.size ≤ ((0 : Int32)).toNatClampNeg) := inb_of S344 ⟨by decide, by decide⟩
    obtain ⟨T345, h345, X345, e345, W345, st345⟩ := stJ X338 hx hZ e338 Ar344 (j := (0 : Int32)) hin344 (g := (mkF m 179 #[.val (.int p0), .val (.long q1), .second, .val (.long q2), .second, .val (.long q3), .second, .val (.long q4), .second, .val (.long q5), .second, .val (.int (1 : Int32)), .val (.int v186), .val (.int v187), .val (.int v188), .val (.ref b314), .val (.ref b324), .val (.long q4), .second, .val (.long q5), .second, .val (.long v336), .second, .val (.long v337), .second, .unset, .unset] [(.long q4), (.int (0 : Int32)), (.ref b338), (.ref b338)])) rfl rfl (hb hby at_179)
    have f346 := f339.other W345 ne_b314_b338
    have f347 := f340.other W345 ne_b324_b338
    have K348 : Keep h0 h345 [] := K342.wr W345 (Or.inr sz_b338)
    have z349 : n0 ≤ h345.size := Nat.le_trans z341 (Keep.of_wr W345).1
    have N350 := Fr.snoc X345 N334 g_b338
    have f351 : Arv Z h345 b338 k338 .long (4 : Int32) [(.long q4), (.long (0 : Int64)), (.long (0 : Int64)), (.long (0 : Int64))] (.long (0 : Int64)) := Arv.set Ar344 q344 S344 M344 H344 G344 rfl W345 0 rfl (Nat.le_of_ble_eq_true rfl)
    obtain ⟨cl352, Ar352, q352, S352, M352, H352, G352⟩ := id f351
    have hin352 : ¬ ((1 : Int32) < 0 ∨ cl352.slots.size ≤ ((1 : Int32)).toNatClampNeg) := inb_of S352 ⟨by decide, by decide⟩
    obtain ⟨T353, h353, X353, e353, W353, st353⟩ := stJ X345 hx hZ e345 Ar352 (j := (1 : Int32)) hin352 (g := (mkF m 184 #[.val (.int p0), .val (.long q1), .second, .val (.long q2), .second, .val (.long q3), .second, .val (.long q4), .second, .val (.long q5), .second, .val (.int (1 : Int32)), .val (.int v186), .val (.int v187), .val (.int v188), .val (.ref b314), .val (.ref b324), .val (.long q4), .second, .val (.long q5), .second, .val (.long v336), .second, .val (.long v337), .second, .unset, .unset] [(.long q5), (.int (1 : Int32)), (.ref b338), (.ref b338)])) rfl rfl (hb hby at_184)
    have f354 := f346.other W353 ne_b314_b338
    have f355 := f347.other W353 ne_b324_b338
    have K356 : Keep h0 h353 [] := K348.wr W353 (Or.inr sz_b338)
    have z357 : n0 ≤ h353.size := Nat.le_trans z349 (Keep.of_wr W353).1
    have N358 := Fr.snoc X353 N350 g_b338
    have f359 : Arv Z h353 b338 k338 .long (4 : Int32) [(.long q4), (.long q5), (.long (0 : Int64)), (.long (0 : Int64))] (.long (0 : Int64)) := Arv.set Ar352 q352 S352 M352 H352 G352 rfl W353 1 rfl (Nat.le_of_ble_eq_true rfl)
    obtain ⟨cl360, Ar360, q360, S360, M360, H360, G360⟩ := id f359
    have hin360 : ¬ ((2 : Int32) < 0 ∨ cl360.slots.size ≤ ((2 : Int32)).toNatClampNeg) := inb_of S360 ⟨by decide, by decide⟩
    obtain ⟨T361, h361, X361, e361, W361, st361⟩ := stJ X353 hx hZ e353 Ar360 (j := (2 : Int32)) hin360 (g := (mkF m 189 #[.val (.int p0), .val (.long q1), .second, .val (.long q2), .second, .val (.long q3), .second, .val (.long q4), .second, .val (.long q5), .second, .val (.int (1 : Int32)), .val (.int v186), .val (.int v187), .val (.int v188), .val (.ref b314), .val (.ref b324), .val (.long q4), .second, .val (.long q5), .second, .val (.long v336), .second, .val (.long v337), .second, .unset, .unset] [(.long v336), (.int (2 : Int32)), (.ref b338), (.ref b338)])) rfl rfl (hb hby at_189)
    have f362 := f354.other W361 ne_b314_b338
    have f363 := f355.other W361 ne_b324_b338
    have K364 : Keep h0 h361 [] := K356.wr W361 (Or.inr sz_b338)
    have z365 : n0 ≤ h361.size := Nat.le_trans z357 (Keep.of_wr W361).1
    have N366 := Fr.snoc X361 N358 g_b338
    have f367 : Arv Z h361 b338 k338 .long (4 : Int32) [(.long q4), (.long q5), (.long v336), (.long (0 : Int64))] (.long (0 : Int64)) := Arv.set Ar360 q360 S360 M360 H360 G360 rfl W361 2 rfl (Nat.le_of_ble_eq_true rfl)
    obtain ⟨cl368, Ar368, q368, S368, M368, H368, G368⟩ := id f367
    have hin368 : ¬ ((3 : Int32) < 0 ∨ cl368.slots.size ≤ ((3 : Int32)).toNatClampNeg) := inb_of S368 ⟨by decide, by decide⟩
    obtain ⟨T369, h369, X369, e369, W369, st369⟩ := stJ X361 hx hZ e361 Ar368 (j := (3 : Int32)) hin368 (g := (mkF m 194 #[.val (.int p0), .val (.long q1), .second, .val (.long q2), .second, .val (.long q3), .second, .val (.long q4), .second, .val (.long q5), .second, .val (.int (1 : Int32)), .val (.int v186), .val (.int v187), .val (.int v188), .val (.ref b314), .val (.ref b324), .val (.long q4), .second, .val (.long q5), .second, .val (.long v336), .second, .val (.long v337), .second, .unset, .unset] [(.long v337), (.int (3 : Int32)), (.ref b338), (.ref b338)])) rfl rfl (hb hby at_194)
    have f370 := f362.other W369 ne_b314_b338
    have f371 := f363.other W369 ne_b324_b338
    have K372 : Keep h0 h369 [] := K364.wr W369 (Or.inr sz_b338)
    have z373 : n0 ≤ h369.size := Nat.le_trans z365 (Keep.of_wr W369).1
    have N374 := Fr.snoc X369 N366 g_b338
    have f375 : Arv Z h369 b338 k338 .long (4 : Int32) [(.long q4), (.long q5), (.long v336), (.long v337)] (.long (0 : Int64)) := Arv.set Ar368 q368 S368 M368 H368 G368 rfl W369 3 rfl (Nat.le_of_ble_eq_true rfl)
    obtain ⟨T376, h376, X376, e376, E376, A376, D376, -, st376⟩ := newO X369 hx hZ hown (hw _ (List.mem_of_getElem? (i := 3) rfl)) (hw _ (List.mem_of_getElem? (i := 4) rfl)) (hw _ (List.mem_of_getElem? (i := 5) rfl)) e369 (g := (mkF m 197 #[.val (.int p0), .val (.long q1), .second, .val (.long q2), .second, .val (.long q3), .second, .val (.long q4), .second, .val (.long q5), .second, .val (.int (1 : Int32)), .val (.int v186), .val (.int v187), .val (.int v188), .val (.ref b314), .val (.ref b324), .val (.long q4), .second, .val (.long q5), .second, .val (.long v336), .second, .val (.long v337), .second, .val (.ref b338), .unset] [])) rfl (hb hby at_197) (by decide) (by decide)
    obtain ⟨b376, g376⟩ : ∃ z, z = h369.size := ⟨_, rfl⟩
    have ne_b314_b376 : b314 ≠ b376 := Nat.ne_of_lt (Nat.lt_of_lt_of_le f370.lt (Nat.le_of_eq g376.symm))
    have ne_b324_b376 : b324 ≠ b376 := Nat.ne_of_lt (Nat.lt_of_lt_of_le f371.lt (Nat.le_of_eq g376.symm))
    have ne_b338_b376 : b338 ≠ b376 := Nat.ne_of_lt (Nat.lt_of_lt_of_le f375.lt (Nat.le_of_eq g376.symm))
    have g_b376 : n0 ≤ b376 := Nat.le_trans z373 (Nat.le_of_eq g376.symm)
    have sz_b376 : h0.size ≤ b376 := Nat.le_trans K372.1 (Nat.le_of_eq g376.symm)
    rw [← g376] at A376 D376 st376
    have f377 := f370.ext E376
    have f378 := f371.ext E376
    have f379 := f375.ext E376
    have z380 : n0 ≤ h376.size := Nat.le_trans z373 E376.1
    have K381 : Keep h0 h376 [] := K372.ext E376
    have f382 : Fld Z h376 b376 "com/example/thyme/thyme/engine/Hierarchy$Restart" "slots" "[I" .null := D376 (Or.inr (hw _ (List.mem_of_getElem? (i := 18) rfl))) (ty := (.array .int)) (by decide)
    have f383 : Fld Z h376 b376 "com/example/thyme/thyme/engine/Hierarchy$Restart" "values" "[J" .null := D376 (Or.inr (hw _ (List.mem_of_getElem? (i := 20) rfl))) (ty := (.array .long)) (by decide)
    have f384 : Fld Z h376 b376 "com/example/thyme/thyme/engine/Hierarchy$Restart" "clocks" "[I" .null := D376 (Or.inr (hw _ (List.mem_of_getElem? (i := 22) rfl))) (ty := (.array .int)) (by decide)
    obtain ⟨T385, h385, k385, X385, e385, E385, A385, st385⟩ := newP X376 hx hZ (hw _ (List.mem_of_getElem? (i := 0) rfl)) e376 (g := (mkF m 206 #[.val (.int p0), .val (.long q1), .second, .val (.long q2), .second, .val (.long q3), .second, .val (.long q4), .second, .val (.long q5), .second, .val (.int (1 : Int32)), .val (.int v186), .val (.int v187), .val (.int v188), .val (.ref b314), .val (.ref b324), .val (.long q4), .second, .val (.long q5), .second, .val (.long v336), .second, .val (.long v337), .second, .val (.ref b338), .unset] [(.int (1 : Int32)), (.ref b324), (.ref b314), (.ref b376), (.ref b376)])) rfl (hb hby at_206) rfl (by decide) (cap := 1) (by decide) (by decide) (by decide) (by decide)
    obtain ⟨b385, g385⟩ : ∃ z, z = h376.size := ⟨_, rfl⟩
    have ne_b314_b385 : b314 ≠ b385 := Nat.ne_of_lt (Nat.lt_of_lt_of_le f377.lt (Nat.le_of_eq g385.symm))
    have ne_b324_b385 : b324 ≠ b385 := Nat.ne_of_lt (Nat.lt_of_lt_of_le f378.lt (Nat.le_of_eq g385.symm))
    have ne_b338_b385 : b338 ≠ b385 := Nat.ne_of_lt (Nat.lt_of_lt_of_le f379.lt (Nat.le_of_eq g385.symm))
    have ne_b376_b385 : b376 ≠ b385 := Nat.ne_of_lt (Nat.lt_of_lt_of_le A376.lt (Nat.le_of_eq g385.symm))
    have g_b385 : n0 ≤ b385 := Nat.le_trans z380 (Nat.le_of_eq g385.symm)
    have sz_b385 : h0.size ≤ b385 := Nat.le_trans K381.1 (Nat.le_of_eq g385.symm)
    rw [← g385] at A385 st385
    have f386 := f377.ext E385
    have f387 := f378.ext E385
    have f388 := f379.ext E385
    have f389 := A376.ext E385
    have f390 := f382.ext E385
    have f391 := f383.ext E385
    have f392 := f384.ext E385
    have z393 : n0 ≤ h385.size := Nat.le_trans z380 E385.1
    have K394 : Keep h0 h385 [] := K381.ext E385
    have f395 : Arv Z h385 b385 k385 .int (1 : Int32) [(.int (0 : Int32))] (.int (0 : Int32)) := (Arv.new A385 (by decide)).pad (pad_rep [] (.int (0 : Int32)) 1)
    obtain ⟨cl396, Ar396, q396, S396, M396, H396, G396⟩ := id f395
    have hin396 : ¬ ((0 : Int32) < 0 ∨ cl396.slots.size ≤ ((0 : Int32)).toNatClampNeg) := inb_of S396 ⟨by decide, by decide⟩
    obtain ⟨T397, h397, X397, e397, W397, st397⟩ := stI X385 hx hZ e385 Ar396 (j := (0 : Int32)) hin396 (g := (mkF m 212 #[.val (.int p0), .val (.long q1), .second, .val (.long q2), .second, .val (.long q3), .second, .val (.long q4), .second, .val (.long q5), .second, .val (.int (1 : Int32)), .val (.int v186), .val (.int v187), .val (.int v188), .val (.ref b314), .val (.ref b324), .val (.long q4), .second, .val (.long q5), .second, .val (.long v336), .second, .val (.long v337), .second, .val (.ref b338), .unset] [(.int v188), (.int (0 : Int32)), (.ref b385), (.ref b385), (.ref b324), (.ref b314), (.ref b376), (.ref b376)])) rfl rfl (hb hby at_212)
    have f398 := f386.other W397 ne_b314_b385
    have f399 := f387.other W397 ne_b324_b385
    have f400 := f388.other W397 ne_b338_b385
    have f401 := f389.wr W397
    have f402 := f390.other W397 (Or.inl ne_b376_b385)
    have f403 := f391.other W397 (Or.inl ne_b376_b385)
    have f404 := f392.other W397 (Or.inl ne_b376_b385)
    have K405 : Keep h0 h397 [] := K394.wr W397 (Or.inr sz_b385)
    have z406 : n0 ≤ h397.size := Nat.le_trans z393 (Keep.of_wr W397).1
    have N407 := Fr.snoc X397 N374 g_b385
    have f408 : Arv Z h397 b385 k385 .int (1 : Int32) [(.int v188)] (.int (0 : Int32)) := Arv.set Ar396 q396 S396 M396 H396 G396 rfl W397 0 rfl (Nat.le_of_ble_eq_true rfl)
    obtain ⟨_, _, ⟨T409, L409, k409, n409⟩, -, X409, ⟨Lc409, hQ409, l409, y409, z409⟩, st409⟩ := X397.specialBack hx (y := (⟨"com/example/thyme/thyme/engine/Hierarchy$Restart", "<init>", "([I[J[I)V"⟩ : MethodName)) rfl hown (mvT hZ (hw _ (List.mem_of_getElem? (i := 6) rfl))) (mvT hZ (hw _ (List.mem_of_getElem? (i := 7) rfl))) (mvT hZ (hw _ (List.mem_of_getElem? (i := 8) rfl))) (by decide) (backOf (W := 1) (own_rm1 l Z av hw [] b376 b314 b324 b385 h397 n0 z406 f401 f402 f403 f404 g_b376) hZ (hw _ (List.mem_of_getElem? (i := 8) rfl)) (hw _ (List.mem_of_getElem? (i := 5) rfl)) (by decide) (by decide)) (g := (mkF m 213 #[.val (.int p0), .val (.long q1), .second, .val (.long q2), .second, .val (.long q3), .second, .val (.long q4), .second, .val (.long q5), .second, .val (.int (1 : Int32)), .val (.int v186), .val (.int v187), .val (.int v188), .val (.ref b314), .val (.ref b324), .val (.long q4), .second, .val (.long q5), .second, .val (.long v336), .second, .val (.long v337), .second, .val (.ref b338), .unset] [(.ref b385), (.ref b324), (.ref b314), (.ref b376), (.ref b376)])) rfl (by rw [hml]; rfl) (Steps.refl _) (a := b376) (argsL := [(.ref b314), (.ref b324), (.ref b385)]) (rest := [(.ref b376)]) (lenOf own_pd1 rfl) rfl (by show 2 * 0 + _ ≤ _; exact Nat.le_of_eq rfl) (hb hby at_213) (fun _ _ => ⟨rfl, e397, (by decide : 5 + 0 ≤ _), (by decide : 10 + 0 ≤ _)⟩)
    dsimp only [Pt.U, Pt.locs, Pt.cells, Pt.slots] at X409 l409 y409 z409 st409 hQ409
    subst l409 y409 z409
    obtain ⟨rfl, N409q, K409, f411, f412, f413, f414⟩ := hQ409
    have f415 := f398.keep K409 (ninS ne_b314_b376 nin0)
    have f416 := f399.keep K409 (ninS ne_b324_b376 nin0)
    have f417 := f400.keep K409 (ninS ne_b338_b376 nin0)
    have f418 := f408.keep K409 (ninS (Ne.symm ne_b376_b385) nin0)
    have K419 : Keep h0 T409.heap [] := K405.trans K409 (allS (Or.inr sz_b376) all0)
    have z420 : n0 ≤ T409.heap.size := Nat.le_trans z406 K409.1
    have N410 := Fr.app N407 N409q
    obtain ⟨cq421, kq421, q421a, q421b, q421c⟩ := isOf hZ rfl f411
    obtain ⟨_, _, ⟨T421, L421, k421, n421⟩, -, X421, ⟨Lc421, hQ421, l421, y421, z421⟩, st421⟩ := X409.virtualBack hx (y := (⟨"com/example/thyme/thyme/engine/Hierarchy$Restart", "write", "([J)V"⟩ : MethodName)) (z := (⟨"com/example/thyme/thyme/engine/Hierarchy$Restart", "write", "([J)V"⟩ : MethodName)) hown (mvT hZ (hw _ (List.mem_of_getElem? (i := 23) rfl))) (mvT hZ (hw _ (List.mem_of_getElem? (i := 24) rfl))) (notFace_of_selects (args := #[]) (mvT hZ (hw _ (List.mem_of_getElem? (i := 26) rfl)))) (mvT hZ (hw _ (List.mem_of_getElem? (i := 26) rfl))) (mvT hZ (hw _ (List.mem_of_getElem? (i := 25) rfl))) (by decide) (backOf (W := 0) (own_rmW1 l Z av hw [] b376 b338 (b314) (b324) (k314) ((.int (0 : Int32))) (k324) ((.long (0 : Int64))) (k338) ((.long (0 : Int64))) ((own_g4 q4 q5 v336 v337)) (v186) (q1) T409.heap n0 z420 f412 f413 f415 f416 f417 g_b338 (Ne.symm ne_b338_b376) ne_b314_b338 ne_b324_b338 ((own_side422 p0 hv185 v186 hv186))) hZ (hw _ (List.mem_of_getElem? (i := 27) rfl)) (hw _ (List.mem_of_getElem? (i := 5) rfl)) (by decide) (by decide)) q421a q421c (g := (mkF m 222 #[.val (.int p0), .val (.long q1), .second, .val (.long q2), .second, .val (.long q3), .second, .val (.long q4), .second, .val (.long q5), .second, .val (.int (1 : Int32)), .val (.int v186), .val (.int v187), .val (.int v188), .val (.ref b314), .val (.ref b324), .val (.long q4), .second, .val (.long q5), .second, .val (.long v336), .second, .val (.long v337), .second, .val (.ref b338), .val (.ref b376)] [(.ref b338), (.ref b376)])) rfl (by rw [hml]; rfl) (Steps.refl _) (argsL := [(.ref b338)]) (rest := []) (lenOf own_pd2 rfl) rfl (by show 2 * 0 + _ ≤ _; exact Nat.le_of_eq rfl) (hb hby at_222) (fun _ _ => ⟨rfl, rfl, (by decide : 5 + 0 ≤ _), (by decide : 10 + 0 ≤ _)⟩)
    dsimp only [Pt.U, Pt.locs, Pt.cells, Pt.slots] at X421 l421 y421 z421 st421 hQ421
    subst l421 y421 z421
    obtain ⟨rfl, N421q, K421, f424⟩ := hQ421
    have f425 := f415.keep K421 (ninS ne_b314_b338 nin0)
    have f426 := f416.keep K421 (ninS ne_b324_b338 nin0)
    have f427 := f418.keep K421 (ninS (Ne.symm ne_b338_b385) nin0)
    have f428 := f411.keep K421
    have f429 := f412.keep K421 (ninS (Ne.symm ne_b338_b376) nin0)
    have f430 := f413.keep K421 (ninS (Ne.symm ne_b338_b376) nin0)
    have f431 := f414.keep K421 (ninS (Ne.symm ne_b338_b376) nin0)
    have K432 : Keep h0 T421.heap [] := K419.trans K421 (allS (Or.inr sz_b338) all0)
    have z433 : n0 ≤ T421.heap.size := Nat.le_trans z420 K421.1
    have N423 := Fr.app N410 N421q
    obtain ⟨cl434, Ar434, q434, S434, M434, H434, G434⟩ := id f424
    obtain ⟨cl435, Ar435, q435, S435, M435, H435, G435⟩ := id f424
    have hin435 : ¬ ((0 : Int32) < 0 ∨ cl435.slots.size ≤ ((0 : Int32)).toNatClampNeg) := inb_of S435 ⟨by decide, by decide⟩
    have hat435 : cl435.slots[((0 : Int32)).toNatClampNeg]? = some (.long ((own_upd (own_g4 q4 q5 v336 v337) v186 q1) 0)) := H435.at hin435 rfl
    obtain ⟨_, _, ⟨T436, L436, k436, n436⟩, -, X436, ⟨Lc436, hQ436, l436, y436, z436⟩, st436⟩ := Jvm.LawKit.callS X421 hx (y := (⟨"com/example/thyme/thyme/engine/RestartWritePinLaw", "expect", "(IIIIIJJJJ)J"⟩ : MethodName)) hown (mvT hZ (hw _ (List.mem_of_getElem? (i := 28) rfl))) (mvT hZ (hw _ (List.mem_of_getElem? (i := 29) rfl))) (mvT hZ (hw _ (List.mem_of_getElem? (i := 30) rfl))) (mvT hZ (hw _ (List.mem_of_getElem? (i := 31) rfl))) (by decide) (backOf (W := 2) (own_rm5 l Z av hw [] (0 : Int32) (1 : Int32) v186 v187 v188 q1 q2 q3 q4 T421.heap n0 z433 ) hZ (hw _ (List.mem_of_getElem? (i := 31) rfl)) (hw _ (List.mem_of_getElem? (i := 30) rfl)) (by decide) (by decide)) (g := (mkF m 251 #[.val (.int p0), .val (.long q1), .second, .val (.long q2), .second, .val (.long q3), .second, .val (.long q4), .second, .val (.long q5), .second, .val (.int (1 : Int32)), .val (.int v186), .val (.int v187), .val (.int v188), .val (.ref b314), .val (.ref b324), .val (.long q4), .second, .val (.long q5), .second, .val (.long v336), .second, .val (.long v337), .second, .val (.ref b338), .val (.ref b376)] [(.long q4), (.long q3), (.long q2), (.long q1), (.int v188), (.int v187), (.int v186), (.int (1 : Int32)), (.int (0 : Int32)), (.long ((own_upd (own_g4 q4 q5 v336 v337) v186 q1) 0))])) rfl (by rw [hml]; rfl) (argsL := [(.int (0 : Int32)), (.int (1 : Int32)), (.int v186), (.int v187), (.int v188), (.long q1), (.long q2), (.long q3), (.long q4)]) (rest := [(.long ((own_upd (own_g4 q4 q5 v336 v337) v186 q1) 0))]) (lenOf own_pd3 rfl) rfl (by show 2 * 0 + _ ≤ _; exact Nat.le_of_eq rfl) (hb hby at_251) (fun _ _ => ⟨rfl, rfl, (by decide : 5 + 0 ≤ _), (by decide : 10 + 0 ≤ _)⟩)
    dsimp only [Pt.U, Pt.locs, Pt.cells, Pt.slots] at X436 l436 y436 z436 st436 hQ436
    subst l436 y436 z436
    obtain ⟨rfl, N436q, e438⟩ := hQ436
    have N437 := Fr.app N423 N436q
    have pre439 : ∀ t, Steps p.tables e below (T436.setTop (mkF m 255 #[.val (.int p0), .val (.long q1), .second, .val (.long q2), .second, .val (.long q3), .second, .val (.long q4), .second, .val (.long q5), .second, .val (.int (1 : Int32)), .val (.int v186), .val (.int v187), .val (.int v188), .val (.ref b314), .val (.ref b324), .val (.long q4), .second, .val (.long q5), .second, .val (.long v336), .second, .val (.long v337), .second, .val (.ref b338), .val (.ref b376)] [(.int (lcmpW ((own_upd (own_g4 q4 q5 v336 v337) v186 q1) 0) (own_f5 (0 : Int32) (1 : Int32) v186 v187 v188 q1 q2 q3 q4)))])) t → Steps p.tables e below (s₁.setTop (entryFrame m #[(.int p0), (.long q1), (.long q2), (.long q3), (.long q4), (.long q5)] maxLocals)) t := fun t kk => pre190 t (by
      show Steps p.tables e below (s₁.setTop (mkF m 27 #[.val (.int p0), .val (.long q1), .second, .val (.long q2), .second, .val (.long q3), .second, .val (.long q4), .second, .val (.long q5), .second, .val (.int (1 : Int32)), .val (.int v186), .val (.int v187), .val (.int v188), .unset, .unset, .unset, .unset, .unset, .unset, .unset, .unset, .unset, .unset, .unset, .unset] [])) _
      refine XS.iload X0.here hx rfl (hb hby at_27) rfl ?_
      show Steps p.tables e below (s₁.setTop (mkF m 29 #[.val (.int p0), .val (.long q1), .second, .val (.long q2), .second, .val (.long q3), .second, .val (.long q4), .second, .val (.long q5), .second, .val (.int (1 : Int32)), .val (.int v186), .val (.int v187), .val (.int v188), .unset, .unset, .unset, .unset, .unset, .unset, .unset, .unset, .unset, .unset, .unset, .unset] [(.int (1 : Int32))])) _
      refine XS.ifYes X0.here hx rfl (pc0 := 29) (pc' := 45) rfl (hb hby at_29) rfl ((if0 _ _).trans (feq (by decide : ¬ ((1 : Int32) = (0 : Int32)))).2) (by decide) (by decide) ?_
      show Steps p.tables e below (s₁.setTop (mkF m 45 #[.val (.int p0), .val (.long q1), .second, .val (.long q2), .second, .val (.long q3), .second, .val (.long q4), .second, .val (.long q5), .second, .val (.int (1 : Int32)), .val (.int v186), .val (.int v187), .val (.int v188), .unset, .unset, .unset, .unset, .unset, .unset, .unset, .unset, .unset, .unset, .unset, .unset] [])) _
      refine XS.iload X0.here hx rfl (hb hby at_45) rfl ?_
      show Steps p.tables e below (s₁.setTop (mkF m 47 #[.val (.int p0), .val (.long q1), .second, .val (.long q2), .second, .val (.long q3), .second, .val (.long q4), .second, .val (.long q5), .second, .val (.int (1 : Int32)), .val (.int v186), .val (.int v187), .val (.int v188), .unset, .unset, .unset, .unset, .unset, .unset, .unset, .unset, .unset, .unset, .unset, .unset] [(.int (1 : Int32))])) _
      refine XS.iconst X0.here hx rfl (hb hby at_47) ?_
      show Steps p.tables e below (s₁.setTop (mkF m 48 #[.val (.int p0), .val (.long q1), .second, .val (.long q2), .second, .val (.long q3), .second, .val (.long q4), .second, .val (.long q5), .second, .val (.int (1 : Int32)), .val (.int v186), .val (.int v187), .val (.int v188), .unset, .unset, .unset, .unset, .unset, .unset, .unset, .unset, .unset, .unset, .unset, .unset] [(.int (1 : Int32)), (.int (1 : Int32))])) _
      refine XS.icmpNo X0.here hx rfl (hb hby at_48) rfl (teq (by decide : (1 : Int32) = (1 : Int32))).2 ?_
      show Steps p.tables e below (s₁.setTop (mkF m 51 #[.val (.int p0), .val (.long q1), .second, .val (.long q2), .second, .val (.long q3), .second, .val (.long q4), .second, .val (.long q5), .second, .val (.int (1 : Int32)), .val (.int v186), .val (.int v187), .val (.int v188), .unset, .unset, .unset, .unset, .unset, .unset, .unset, .unset, .unset, .unset, .unset, .unset] [])) _
      refine XS.iconst X0.here hx rfl (hb hby at_51) ?_
      show Steps p.tables e below (s₁.setTop (mkF m 52 #[.val (.int p0), .val (.long q1), .second, .val (.long q2), .second, .val (.long q3), .second, .val (.long q4), .second, .val (.long q5), .second, .val (.int (1 : Int32)), .val (.int v186), .val (.int v187), .val (.int v188), .unset, .unset, .unset, .unset, .unset, .unset, .unset, .unset, .unset, .unset, .unset, .unset] [(.int (1 : Int32))])) _
      refine st314 _ ?_
      show Steps p.tables e below (T314.setTop (mkF m 54 #[.val (.int p0), .val (.long q1), .second, .val (.long q2), .second, .val (.long q3), .second, .val (.long q4), .second, .val (.long q5), .second, .val (.int (1 : Int32)), .val (.int v186), .val (.int v187), .val (.int v188), .unset, .unset, .unset, .unset, .unset, .unset, .unset, .unset, .unset, .unset, .unset, .unset] [(.ref b314)])) _
      refine XS.dup X314.here hx rfl (hb hby at_54) rfl rfl ?_
      show Steps p.tables e below (T314.setTop (mkF m 55 #[.val (.int p0), .val (.long q1), .second, .val (.long q2), .second, .val (.long q3), .second, .val (.long q4), .second, .val (.long q5), .second, .val (.int (1 : Int32)), .val (.int v186), .val (.int v187), .val (.int v188), .unset, .unset, .unset, .unset, .unset, .unset, .unset, .unset, .unset, .unset, .unset, .unset] [(.ref b314), (.ref b314)])) _
      refine XS.iconst X314.here hx rfl (hb hby at_55) ?_
      show Steps p.tables e below (T314.setTop (mkF m 56 #[.val (.int p0), .val (.long q1), .second, .val (.long q2), .second, .val (.long q3), .second, .val (.long q4), .second, .val (.long q5), .second, .val (.int (1 : Int32)), .val (.int v186), .val (.int v187), .val (.int v188), .unset, .unset, .unset, .unset, .unset, .unset, .unset, .unset, .unset, .unset, .unset, .unset] [(.int (0 : Int32)), (.ref b314), (.ref b314)])) _
      refine XS.iload X314.here hx rfl (hb hby at_56) rfl ?_
      show Steps p.tables e below (T314.setTop (mkF m 58 #[.val (.int p0), .val (.long q1), .second, .val (.long q2), .second, .val (.long q3), .second, .val (.long q4), .second, .val (.long q5), .second, .val (.int (1 : Int32)), .val (.int v186), .val (.int v187), .val (.int v188), .unset, .unset, .unset, .unset, .unset, .unset, .unset, .unset, .unset, .unset, .unset, .unset] [(.int v186), (.int (0 : Int32)), (.ref b314), (.ref b314)])) _
      refine st319 _ ?_
      show Steps p.tables e below (T319.setTop (mkF m 59 #[.val (.int p0), .val (.long q1), .second, .val (.long q2), .second, .val (.long q3), .second, .val (.long q4), .second, .val (.long q5), .second, .val (.int (1 : Int32)), .val (.int v186), .val (.int v187), .val (.int v188), .unset, .unset, .unset, .unset, .unset, .unset, .unset, .unset, .unset, .unset, .unset, .unset] [(.ref b314)])) _
      refine XS.astore X319.here hx rfl (hb hby at_59) rfl rfl (l' := #[.val (.int p0), .val (.long q1), .second, .val (.long q2), .second, .val (.long q3), .second, .val (.long q4), .second, .val (.long q5), .second, .val (.int (1 : Int32)), .val (.int v186), .val (.int v187), .val (.int v188), .val (.ref b314), .unset, .unset, .unset, .unset, .unset, .unset, .unset, .unset, .unset, .unset, .unset]) rfl ?_
      show Steps p.tables e below (T319.setTop (mkF m 61 #[.val (.int p0), .val (.long q1), .second, .val (.long q2), .second, .val (.long q3), .second, .val (.long q4), .second, .val (.long q5), .second, .val (.int (1 : Int32)), .val (.int v186), .val (.int v187), .val (.int v188), .val (.ref b314), .unset, .unset, .unset, .unset, .unset, .unset, .unset, .unset, .unset, .unset, .unset] [])) _
      refine XS.iconst X319.here hx rfl (hb hby at_61) ?_
      show Steps p.tables e below (T319.setTop (mkF m 62 #[.val (.int p0), .val (.long q1), .second, .val (.long q2), .second, .val (.long q3), .second, .val (.long q4), .second, .val (.long q5), .second, .val (.int (1 : Int32)), .val (.int v186), .val (.int v187), .val (.int v188), .val (.ref b314), .unset, .unset, .unset, .unset, .unset, .unset, .unset, .unset, .unset, .unset, .unset] [(.int (1 : Int32))])) _
      refine st324 _ ?_
      show Steps p.tables e below (T324.setTop (mkF m 64 #[.val (.int p0), .val (.long q1), .second, .val (.long q2), .second, .val (.long q3), .second, .val (.long q4), .second, .val (.long q5), .second, .val (.int (1 : Int32)), .val (.int v186), .val (.int v187), .val (.int v188), .val (.ref b314), .unset, .unset, .unset, .unset, .unset, .unset, .unset, .unset, .unset, .unset, .unset] [(.ref b324)])) _
      refine XS.dup X324.here hx rfl (hb hby at_64) rfl rfl ?_
      show Steps p.tables e below (T324.setTop (mkF m 65 #[.val (.int p0), .val (.long q1), .second, .val (.long q2), .second, .val (.long q3), .second, .val (.long q4), .second, .val (.long q5), .second, .val (.int (1 : Int32)), .val (.int v186), .val (.int v187), .val (.int v188), .val (.ref b314), .unset, .unset, .unset, .unset, .unset, .unset, .unset, .unset, .unset, .unset, .unset] [(.ref b324), (.ref b324)])) _
      refine XS.iconst X324.here hx rfl (hb hby at_65) ?_
      show Steps p.tables e below (T324.setTop (mkF m 66 #[.val (.int p0), .val (.long q1), .second, .val (.long q2), .second, .val (.long q3), .second, .val (.long q4), .second, .val (.long q5), .second, .val (.int (1 : Int32)), .val (.int v186), .val (.int v187), .val (.int v188), .val (.ref b314), .unset, .unset, .unset, .unset, .unset, .unset, .unset, .unset, .unset, .unset, .unset] [(.int (0 : Int32)), (.ref b324), (.ref b324)])) _
      refine XS.lloadN X324.here hx rfl (hb hby at_66) rfl ?_
      show Steps p.tables e below (T324.setTop (mkF m 67 #[.val (.int p0), .val (.long q1), .second, .val (.long q2), .second, .val (.long q3), .second, .val (.long q4), .second, .val (.long q5), .second, .val (.int (1 : Int32)), .val (.int v186), .val (.int v187), .val (.int v188), .val (.ref b314), .unset, .unset, .unset, .unset, .unset, .unset, .unset, .unset, .unset, .unset, .unset] [(.long q1), (.int (0 : Int32)), (.ref b324), (.ref b324)])) _
      refine st330 _ ?_
      show Steps p.tables e below (T330.setTop (mkF m 68 #[.val (.int p0), .val (.long q1), .second, .val (.long q2), .second, .val (.long q3), .second, .val (.long q4), .second, .val (.long q5), .second, .val (.int (1 : Int32)), .val (.int v186), .val (.int v187), .val (.int v188), .val (.ref b314), .unset, .unset, .unset, .unset, .unset, .unset, .unset, .unset, .unset, .unset, .unset] [(.ref b324)])) _
      refine XS.astore X330.here hx rfl (hb hby at_68) rfl rfl (l' := #[.val (.int p0), .val (.long q1), .second, .val (.long q2), .second, .val (.long q3), .second, .val (.long q4), .second, .val (.long q5), .second, .val (.int (1 : Int32)), .val (.int v186), .val (.int v187), .val (.int v188), .val (.ref b314), .val (.ref b324), .unset, .unset, .unset, .unset, .unset, .unset, .unset, .unset, .unset, .unset]) rfl ?_
      show Steps p.tables e below (T330.setTop (mkF m 70 #[.val (.int p0), .val (.long q1), .second, .val (.long q2), .second, .val (.long q3), .second, .val (.long q4), .second, .val (.long q5), .second, .val (.int (1 : Int32)), .val (.int v186), .val (.int v187), .val (.int v188), .val (.ref b314), .val (.ref b324), .unset, .unset, .unset, .unset, .unset, .unset, .unset, .unset, .unset, .unset] [])) _
      refine XS.goto X330.here hx rfl (pc0 := 70) (pc' := 148) rfl (hb hby at_70) (by decide) (by decide) ?_
      show Steps p.tables e below (T330.setTop (mkF m 148 #[.val (.int p0), .val (.long q1), .second, .val (.long q2), .second, .val (.long q3), .second, .val (.long q4), .second, .val (.long q5), .second, .val (.int (1 : Int32)), .val (.int v186), .val (.int v187), .val (.int v188), .val (.ref b314), .val (.ref b324), .unset, .unset, .unset, .unset, .unset, .unset, .unset, .unset, .unset, .unset] [])) _
      refine XS.lload X330.here hx rfl (hb hby at_148) rfl ?_
      show Steps p.tables e below (T330.setTop (mkF m 150 #[.val (.int p0), .val (.long q1), .second, .val (.long q2), .second, .val (.long q3), .second, .val (.long q4), .second, .val (.long q5), .second, .val (.int (1 : Int32)), .val (.int v186), .val (.int v187), .val (.int v188), .val (.ref b314), .val (.ref b324), .unset, .unset, .unset, .unset, .unset, .unset, .unset, .unset, .unset, .unset] [(.long q4)])) _
      refine XS.lstore X330.here hx rfl (hb hby at_150) rfl (l' := #[.val (.int p0), .val (.long q1), .second, .val (.long q2), .second, .val (.long q3), .second, .val (.long q4), .second, .val (.long q5), .second, .val (.int (1 : Int32)), .val (.int v186), .val (.int v187), .val (.int v188), .val (.ref b314), .val (.ref b324), .val (.long q4), .second, .unset, .unset, .unset, .unset, .unset, .unset, .unset, .unset]) rfl ?_
      show Steps p.tables e below (T330.setTop (mkF m 152 #[.val (.int p0), .val (.long q1), .second, .val (.long q2), .second, .val (.long q3), .second, .val (.long q4), .second, .val (.long q5), .second, .val (.int (1 : Int32)), .val (.int v186), .val (.int v187), .val (.int v188), .val (.ref b314), .val (.ref b324), .val (.long q4), .second, .unset, .unset, .unset, .unset, .unset, .unset, .unset, .unset] [])) _
      refine XS.lload X330.here hx rfl (hb hby at_152) rfl ?_
      show Steps p.tables e below (T330.setTop (mkF m 154 #[.val (.int p0), .val (.long q1), .second, .val (.long q2), .second, .val (.long q3), .second, .val (.long q4), .second, .val (.long q5), .second, .val (.int (1 : Int32)), .val (.int v186), .val (.int v187), .val (.int v188), .val (.ref b314), .val (.ref b324), .val (.long q4), .second, .unset, .unset, .unset, .unset, .unset, .unset, .unset, .unset] [(.long q5)])) _
      refine XS.lstore X330.here hx rfl (hb hby at_154) rfl (l' := #[.val (.int p0), .val (.long q1), .second, .val (.long q2), .second, .val (.long q3), .second, .val (.long q4), .second, .val (.long q5), .second, .val (.int (1 : Int32)), .val (.int v186), .val (.int v187), .val (.int v188), .val (.ref b314), .val (.ref b324), .val (.long q4), .second, .val (.long q5), .second, .unset, .unset, .unset, .unset, .unset, .unset]) rfl ?_
      show Steps p.tables e below (T330.setTop (mkF m 156 #[.val (.int p0), .val (.long q1), .second, .val (.long q2), .second, .val (.long q3), .second, .val (.long q4), .second, .val (.long q5), .second, .val (.int (1 : Int32)), .val (.int v186), .val (.int v187), .val (.int v188), .val (.ref b314), .val (.ref b324), .val (.long q4), .second, .val (.long q5), .second, .unset, .unset, .unset, .unset, .unset, .unset] [])) _
      refine XS.lload X330.here hx rfl (hb hby at_156) rfl ?_
      show Steps p.tables e below (T330.setTop (mkF m 158 #[.val (.int p0), .val (.long q1), .second, .val (.long q2), .second, .val (.long q3), .second, .val (.long q4), .second, .val (.long q5), .second, .val (.int (1 : Int32)), .val (.int v186), .val (.int v187), .val (.int v188), .val (.ref b314), .val (.ref b324), .val (.long q4), .second, .val (.long q5), .second, .unset, .unset, .unset, .unset, .unset, .unset] [(.long q4)])) _
      refine X330.ldc2Long hx hown (mvT hZ (hw _ (List.mem_of_getElem? (i := 2) rfl))) (g := (mkF m 158 #[.val (.int p0), .val (.long q1), .second, .val (.long q2), .second, .val (.long q3), .second, .val (.long q4), .second, .val (.long q5), .second, .val (.int (1 : Int32)), .val (.int v186), .val (.int v187), .val (.int v188), .val (.ref b314), .val (.ref b324), .val (.long q4), .second, .val (.long q5), .second, .unset, .unset, .unset, .unset, .unset, .unset] [(.long q4)])) rfl (hb hby at_158) _ ?_
      show Steps p.tables e below (T330.setTop (mkF m 161 #[.val (.int p0), .val (.long q1), .second, .val (.long q2), .second, .val (.long q3), .second, .val (.long q4), .second, .val (.long q5), .second, .val (.int (1 : Int32)), .val (.int v186), .val (.int v187), .val (.int v188), .val (.ref b314), .val (.ref b324), .val (.long q4), .second, .val (.long q5), .second, .unset, .unset, .unset, .unset, .unset, .unset] [(.long (-1 : Int64)), (.long q4)])) _
      refine XS.lxor X330.here hx rfl (hb hby at_161) rfl ?_
      show Steps p.tables e below (T330.setTop (mkF m 162 #[.val (.int p0), .val (.long q1), .second, .val (.long q2), .second, .val (.long q3), .second, .val (.long q4), .second, .val (.long q5), .second, .val (.int (1 : Int32)), .val (.int v186), .val (.int v187), .val (.int v188), .val (.ref b314), .val (.ref b324), .val (.long q4), .second, .val (.long q5), .second, .unset, .unset, .unset, .unset, .unset, .unset] [(.long (q4 ^^^ (-1 : Int64)))])) _
      refine castTop (congrArg (fun z : Int64 => mkF m 162 #[.val (.int p0), .val (.long q1), .second, .val (.long q2), .second, .val (.long q3), .second, .val (.long q4), .second, .val (.long q5), .second, .val (.int (1 : Int32)), .val (.int v186), .val (.int v187), .val (.int v188), .val (.ref b314), .val (.ref b324), .val (.long q4), .second, .val (.long q5), .second, .unset, .unset, .unset, .unset, .unset, .unset] [(.long z)]) hv336.symm) ?_
      show Steps p.tables e below (T330.setTop (mkF m 162 #[.val (.int p0), .val (.long q1), .second, .val (.long q2), .second, .val (.long q3), .second, .val (.long q4), .second, .val (.long q5), .second, .val (.int (1 : Int32)), .val (.int v186), .val (.int v187), .val (.int v188), .val (.ref b314), .val (.ref b324), .val (.long q4), .second, .val (.long q5), .second, .unset, .unset, .unset, .unset, .unset, .unset] [(.long v336)])) _
      refine XS.lstore X330.here hx rfl (hb hby at_162) rfl (l' := #[.val (.int p0), .val (.long q1), .second, .val (.long q2), .second, .val (.long q3), .second, .val (.long q4), .second, .val (.long q5), .second, .val (.int (1 : Int32)), .val (.int v186), .val (.int v187), .val (.int v188), .val (.ref b314), .val (.ref b324), .val (.long q4), .second, .val (.long q5), .second, .val (.long v336), .second, .unset, .unset, .unset, .unset]) rfl ?_
      show Steps p.tables e below (T330.setTop (mkF m 164 #[.val (.int p0), .val (.long q1), .second, .val (.long q2), .second, .val (.long q3), .second, .val (.long q4), .second, .val (.long q5), .second, .val (.int (1 : Int32)), .val (.int v186), .val (.int v187), .val (.int v188), .val (.ref b314), .val (.ref b324), .val (.long q4), .second, .val (.long q5), .second, .val (.long v336), .second, .unset, .unset, .unset, .unset] [])) _
      refine XS.lload X330.here hx rfl (hb hby at_164) rfl ?_
      show Steps p.tables e below (T330.setTop (mkF m 166 #[.val (.int p0), .val (.long q1), .second, .val (.long q2), .second, .val (.long q3), .second, .val (.long q4), .second, .val (.long q5), .second, .val (.int (1 : Int32)), .val (.int v186), .val (.int v187), .val (.int v188), .val (.ref b314), .val (.ref b324), .val (.long q4), .second, .val (.long q5), .second, .val (.long v336), .second, .unset, .unset, .unset, .unset] [(.long q5)])) _
      refine X330.ldc2Long hx hown (mvT hZ (hw _ (List.mem_of_getElem? (i := 2) rfl))) (g := (mkF m 166 #[.val (.int p0), .val (.long q1), .second, .val (.long q2), .second, .val (.long q3), .second, .val (.long q4), .second, .val (.long q5), .second, .val (.int (1 : Int32)), .val (.int v186), .val (.int v187), .val (.int v188), .val (.ref b314), .val (.ref b324), .val (.long q4), .second, .val (.long q5), .second, .val (.long v336), .second, .unset, .unset, .unset, .unset] [(.long q5)])) rfl (hb hby at_166) _ ?_
      show Steps p.tables e below (T330.setTop (mkF m 169 #[.val (.int p0), .val (.long q1), .second, .val (.long q2), .second, .val (.long q3), .second, .val (.long q4), .second, .val (.long q5), .second, .val (.int (1 : Int32)), .val (.int v186), .val (.int v187), .val (.int v188), .val (.ref b314), .val (.ref b324), .val (.long q4), .second, .val (.long q5), .second, .val (.long v336), .second, .unset, .unset, .unset, .unset] [(.long (-1 : Int64)), (.long q5)])) _
      refine XS.lxor X330.here hx rfl (hb hby at_169) rfl ?_
      show Steps p.tables e below (T330.setTop (mkF m 170 #[.val (.int p0), .val (.long q1), .second, .val (.long q2), .second, .val (.long q3), .second, .val (.long q4), .second, .val (.long q5), .second, .val (.int (1 : Int32)), .val (.int v186), .val (.int v187), .val (.int v188), .val (.ref b314), .val (.ref b324), .val (.long q4), .second, .val (.long q5), .second, .val (.long v336), .second, .unset, .unset, .unset, .unset] [(.long (q5 ^^^ (-1 : Int64)))])) _
      refine castTop (congrArg (fun z : Int64 => mkF m 170 #[.val (.int p0), .val (.long q1), .second, .val (.long q2), .second, .val (.long q3), .second, .val (.long q4), .second, .val (.long q5), .second, .val (.int (1 : Int32)), .val (.int v186), .val (.int v187), .val (.int v188), .val (.ref b314), .val (.ref b324), .val (.long q4), .second, .val (.long q5), .second, .val (.long v336), .second, .unset, .unset, .unset, .unset] [(.long z)]) hv337.symm) ?_
      show Steps p.tables e below (T330.setTop (mkF m 170 #[.val (.int p0), .val (.long q1), .second, .val (.long q2), .second, .val (.long q3), .second, .val (.long q4), .second, .val (.long q5), .second, .val (.int (1 : Int32)), .val (.int v186), .val (.int v187), .val (.int v188), .val (.ref b314), .val (.ref b324), .val (.long q4), .second, .val (.long q5), .second, .val (.long v336), .second, .unset, .unset, .unset, .unset] [(.long v337)])) _
      refine XS.lstore X330.here hx rfl (hb hby at_170) rfl (l' := #[.val (.int p0), .val (.long q1), .second, .val (.long q2), .second, .val (.long q3), .second, .val (.long q4), .second, .val (.long q5), .second, .val (.int (1 : Int32)), .val (.int v186), .val (.int v187), .val (.int v188), .val (.ref b314), .val (.ref b324), .val (.long q4), .second, .val (.long q5), .second, .val (.long v336), .second, .val (.long v337), .second, .unset, .unset]) rfl ?_
      show Steps p.tables e below (T330.setTop (mkF m 172 #[.val (.int p0), .val (.long q1), .second, .val (.long q2), .second, .val (.long q3), .second, .val (.long q4), .second, .val (.long q5), .second, .val (.int (1 : Int32)), .val (.int v186), .val (.int v187), .val (.int v188), .val (.ref b314), .val (.ref b324), .val (.long q4), .second, .val (.long q5), .second, .val (.long v336), .second, .val (.long v337), .second, .unset, .unset] [])) _
      refine XS.iconst X330.here hx rfl (hb hby at_172) ?_
      show Steps p.tables e below (T330.setTop (mkF m 173 #[.val (.int p0), .val (.long q1), .second, .val (.long q2), .second, .val (.long q3), .second, .val (.long q4), .second, .val (.long q5), .second, .val (.int (1 : Int32)), .val (.int v186), .val (.int v187), .val (.int v188), .val (.ref b314), .val (.ref b324), .val (.long q4), .second, .val (.long q5), .second, .val (.long v336), .second, .val (.long v337), .second, .unset, .unset] [(.int (4 : Int32))])) _
      refine st338 _ ?_
      show Steps p.tables e below (T338.setTop (mkF m 175 #[.val (.int p0), .val (.long q1), .second, .val (.long q2), .second, .val (.long q3), .second, .val (.long q4), .second, .val (.long q5), .second, .val (.int (1 : Int32)), .val (.int v186), .val (.int v187), .val (.int v188), .val (.ref b314), .val (.ref b324), .val (.long q4), .second, .val (.long q5), .second, .val (.long v336), .second, .val (.long v337), .second, .unset, .unset] [(.ref b338)])) _
      refine XS.dup X338.here hx rfl (hb hby at_175) rfl rfl ?_
      show Steps p.tables e below (T338.setTop (mkF m 176 #[.val (.int p0), .val (.long q1), .second, .val (.long q2), .second, .val (.long q3), .second, .val (.long q4), .second, .val (.long q5), .second, .val (.int (1 : Int32)), .val (.int v186), .val (.int v187), .val (.int v188), .val (.ref b314), .val (.ref b324), .val (.long q4), .second, .val (.long q5), .second, .val (.long v336), .second, .val (.long v337), .second, .unset, .unset] [(.ref b338), (.ref b338)])) _
      refine XS.iconst X338.here hx rfl (hb hby at_176) ?_
      show Steps p.tables e below (T338.setTop (mkF m 177 #[.val (.int p0), .val (.long q1), .second, .val (.long q2), .second, .val (.long q3), .second, .val (.long q4), .second, .val (.long q5), .second, .val (.int (1 : Int32)), .val (.int v186), .val (.int v187), .val (.int v188), .val (.ref b314), .val (.ref b324), .val (.long q4), .second, .val (.long q5), .second, .val (.long v336), .second, .val (.long v337), .second, .unset, .unset] [(.int (0 : Int32)), (.ref b338), (.ref b338)])) _
      refine XS.lload X338.here hx rfl (hb hby at_177) rfl ?_
      show Steps p.tables e below (T338.setTop (mkF m 179 #[.val (.int p0), .val (.long q1), .second, .val (.long q2), .second, .val (.long q3), .second, .val (.long q4), .second, .val (.long q5), .second, .val (.int (1 : Int32)), .val (.int v186), .val (.int v187), .val (.int v188), .val (.ref b314), .val (.ref b324), .val (.long q4), .second, .val (.long q5), .second, .val (.long v336), .second, .val (.long v337), .second, .unset, .unset] [(.long q4), (.int (0 : Int32)), (.ref b338), (.ref b338)])) _
      refine st345 _ ?_
      show Steps p.tables e below (T345.setTop (mkF m 180 #[.val (.int p0), .val (.long q1), .second, .val (.long q2), .second, .val (.long q3), .second, .val (.long q4), .second, .val (.long q5), .second, .val (.int (1 : Int32)), .val (.int v186), .val (.int v187), .val (.int v188), .val (.ref b314), .val (.ref b324), .val (.long q4), .second, .val (.long q5), .second, .val (.long v336), .second, .val (.long v337), .second, .unset, .unset] [(.ref b338)])) _
      refine XS.dup X345.here hx rfl (hb hby at_180) rfl rfl ?_
      show Steps p.tables e below (T345.setTop (mkF m 181 #[.val (.int p0), .val (.long q1), .second, .val (.long q2), .second, .val (.long q3), .second, .val (.long q4), .second, .val (.long q5), .second, .val (.int (1 : Int32)), .val (.int v186), .val (.int v187), .val (.int v188), .val (.ref b314), .val (.ref b324), .val (.long q4), .second, .val (.long q5), .second, .val (.long v336), .second, .val (.long v337), .second, .unset, .unset] [(.ref b338), (.ref b338)])) _
      refine XS.iconst X345.here hx rfl (hb hby at_181) ?_
      show Steps p.tables e below (T345.setTop (mkF m 182 #[.val (.int p0), .val (.long q1), .second, .val (.long q2), .second, .val (.long q3), .second, .val (.long q4), .second, .val (.long q5), .second, .val (.int (1 : Int32)), .val (.int v186), .val (.int v187), .val (.int v188), .val (.ref b314), .val (.ref b324), .val (.long q4), .second, .val (.long q5), .second, .val (.long v336), .second, .val (.long v337), .second, .unset, .unset] [(.int (1 : Int32)), (.ref b338), (.ref b338)])) _
      refine XS.lload X345.here hx rfl (hb hby at_182) rfl ?_
      show Steps p.tables e below (T345.setTop (mkF m 184 #[.val (.int p0), .val (.long q1), .second, .val (.long q2), .second, .val (.long q3), .second, .val (.long q4), .second, .val (.long q5), .second, .val (.int (1 : Int32)), .val (.int v186), .val (.int v187), .val (.int v188), .val (.ref b314), .val (.ref b324), .val (.long q4), .second, .val (.long q5), .second, .val (.long v336), .second, .val (.long v337), .second, .unset, .unset] [(.long q5), (.int (1 : Int32)), (.ref b338), (.ref b338)])) _
      refine st353 _ ?_
      show Steps p.tables e below (T353.setTop (mkF m 185 #[.val (.int p0), .val (.long q1), .second, .val (.long q2), .second, .val (.long q3), .second, .val (.long q4), .second, .val (.long q5), .second, .val (.int (1 : Int32)), .val (.int v186), .val (.int v187), .val (.int v188), .val (.ref b314), .val (.ref b324), .val (.long q4), .second, .val (.long q5), .second, .val (.long v336), .second, .val (.long v337), .second, .unset, .unset] [(.ref b338)])) _
      refine XS.dup X353.here hx rfl (hb hby at_185) rfl rfl ?_
      show Steps p.tables e below (T353.setTop (mkF m 186 #[.val (.int p0), .val (.long q1), .second, .val (.long q2), .second, .val (.long q3), .second, .val (.long q4), .second, .val (.long q5), .second, .val (.int (1 : Int32)), .val (.int v186), .val (.int v187), .val (.int v188), .val (.ref b314), .val (.ref b324), .val (.long q4), .second, .val (.long q5), .second, .val (.long v336), .second, .val (.long v337), .second, .unset, .unset] [(.ref b338), (.ref b338)])) _
      refine XS.iconst X353.here hx rfl (hb hby at_186) ?_
      show Steps p.tables e below (T353.setTop (mkF m 187 #[.val (.int p0), .val (.long q1), .second, .val (.long q2), .second, .val (.long q3), .second, .val (.long q4), .second, .val (.long q5), .second, .val (.int (1 : Int32)), .val (.int v186), .val (.int v187), .val (.int v188), .val (.ref b314), .val (.ref b324), .val (.long q4), .second, .val (.long q5), .second, .val (.long v336), .second, .val (.long v337), .second, .unset, .unset] [(.int (2 : Int32)), (.ref b338), (.ref b338)])) _
      refine XS.lload X353.here hx rfl (hb hby at_187) rfl ?_
      show Steps p.tables e below (T353.setTop (mkF m 189 #[.val (.int p0), .val (.long q1), .second, .val (.long q2), .second, .val (.long q3), .second, .val (.long q4), .second, .val (.long q5), .second, .val (.int (1 : Int32)), .val (.int v186), .val (.int v187), .val (.int v188), .val (.ref b314), .val (.ref b324), .val (.long q4), .second, .val (.long q5), .second, .val (.long v336), .second, .val (.long v337), .second, .unset, .unset] [(.long v336), (.int (2 : Int32)), (.ref b338), (.ref b338)])) _
      refine st361 _ ?_
      show Steps p.tables e below (T361.setTop (mkF m 190 #[.val (.int p0), .val (.long q1), .second, .val (.long q2), .second, .val (.long q3), .second, .val (.long q4), .second, .val (.long q5), .second, .val (.int (1 : Int32)), .val (.int v186), .val (.int v187), .val (.int v188), .val (.ref b314), .val (.ref b324), .val (.long q4), .second, .val (.long q5), .second, .val (.long v336), .second, .val (.long v337), .second, .unset, .unset] [(.ref b338)])) _
      refine XS.dup X361.here hx rfl (hb hby at_190) rfl rfl ?_
      show Steps p.tables e below (T361.setTop (mkF m 191 #[.val (.int p0), .val (.long q1), .second, .val (.long q2), .second, .val (.long q3), .second, .val (.long q4), .second, .val (.long q5), .second, .val (.int (1 : Int32)), .val (.int v186), .val (.int v187), .val (.int v188), .val (.ref b314), .val (.ref b324), .val (.long q4), .second, .val (.long q5), .second, .val (.long v336), .second, .val (.long v337), .second, .unset, .unset] [(.ref b338), (.ref b338)])) _
      refine XS.iconst X361.here hx rfl (hb hby at_191) ?_
      show Steps p.tables e below (T361.setTop (mkF m 192 #[.val (.int p0), .val (.long q1), .second, .val (.long q2), .second, .val (.long q3), .second, .val (.long q4), .second, .val (.long q5), .second, .val (.int (1 : Int32)), .val (.int v186), .val (.int v187), .val (.int v188), .val (.ref b314), .val (.ref b324), .val (.long q4), .second, .val (.long q5), .second, .val (.long v336), .second, .val (.long v337), .second, .unset, .unset] [(.int (3 : Int32)), (.ref b338), (.ref b338)])) _
      refine XS.lload X361.here hx rfl (hb hby at_192) rfl ?_
      show Steps p.tables e below (T361.setTop (mkF m 194 #[.val (.int p0), .val (.long q1), .second, .val (.long q2), .second, .val (.long q3), .second, .val (.long q4), .second, .val (.long q5), .second, .val (.int (1 : Int32)), .val (.int v186), .val (.int v187), .val (.int v188), .val (.ref b314), .val (.ref b324), .val (.long q4), .second, .val (.long q5), .second, .val (.long v336), .second, .val (.long v337), .second, .unset, .unset] [(.long v337), (.int (3 : Int32)), (.ref b338), (.ref b338)])) _
      refine st369 _ ?_
      show Steps p.tables e below (T369.setTop (mkF m 195 #[.val (.int p0), .val (.long q1), .second, .val (.long q2), .second, .val (.long q3), .second, .val (.long q4), .second, .val (.long q5), .second, .val (.int (1 : Int32)), .val (.int v186), .val (.int v187), .val (.int v188), .val (.ref b314), .val (.ref b324), .val (.long q4), .second, .val (.long q5), .second, .val (.long v336), .second, .val (.long v337), .second, .unset, .unset] [(.ref b338)])) _
      refine XS.astore X369.here hx rfl (hb hby at_195) rfl rfl (l' := #[.val (.int p0), .val (.long q1), .second, .val (.long q2), .second, .val (.long q3), .second, .val (.long q4), .second, .val (.long q5), .second, .val (.int (1 : Int32)), .val (.int v186), .val (.int v187), .val (.int v188), .val (.ref b314), .val (.ref b324), .val (.long q4), .second, .val (.long q5), .second, .val (.long v336), .second, .val (.long v337), .second, .val (.ref b338), .unset]) rfl ?_
      show Steps p.tables e below (T369.setTop (mkF m 197 #[.val (.int p0), .val (.long q1), .second, .val (.long q2), .second, .val (.long q3), .second, .val (.long q4), .second, .val (.long q5), .second, .val (.int (1 : Int32)), .val (.int v186), .val (.int v187), .val (.int v188), .val (.ref b314), .val (.ref b324), .val (.long q4), .second, .val (.long q5), .second, .val (.long v336), .second, .val (.long v337), .second, .val (.ref b338), .unset] [])) _
      refine st376 _ ?_
      show Steps p.tables e below (T376.setTop (mkF m 200 #[.val (.int p0), .val (.long q1), .second, .val (.long q2), .second, .val (.long q3), .second, .val (.long q4), .second, .val (.long q5), .second, .val (.int (1 : Int32)), .val (.int v186), .val (.int v187), .val (.int v188), .val (.ref b314), .val (.ref b324), .val (.long q4), .second, .val (.long q5), .second, .val (.long v336), .second, .val (.long v337), .second, .val (.ref b338), .unset] [(.ref b376)])) _
      refine XS.dup X376.here hx rfl (hb hby at_200) rfl rfl ?_
      show Steps p.tables e below (T376.setTop (mkF m 201 #[.val (.int p0), .val (.long q1), .second, .val (.long q2), .second, .val (.long q3), .second, .val (.long q4), .second, .val (.long q5), .second, .val (.int (1 : Int32)), .val (.int v186), .val (.int v187), .val (.int v188), .val (.ref b314), .val (.ref b324), .val (.long q4), .second, .val (.long q5), .second, .val (.long v336), .second, .val (.long v337), .second, .val (.ref b338), .unset] [(.ref b376), (.ref b376)])) _
      refine XS.aload X376.here hx rfl (hb hby at_201) rfl rfl ?_
      show Steps p.tables e below (T376.setTop (mkF m 203 #[.val (.int p0), .val (.long q1), .second, .val (.long q2), .second, .val (.long q3), .second, .val (.long q4), .second, .val (.long q5), .second, .val (.int (1 : Int32)), .val (.int v186), .val (.int v187), .val (.int v188), .val (.ref b314), .val (.ref b324), .val (.long q4), .second, .val (.long q5), .second, .val (.long v336), .second, .val (.long v337), .second, .val (.ref b338), .unset] [(.ref b314), (.ref b376), (.ref b376)])) _
      refine XS.aload X376.here hx rfl (hb hby at_203) rfl rfl ?_
      show Steps p.tables e below (T376.setTop (mkF m 205 #[.val (.int p0), .val (.long q1), .second, .val (.long q2), .second, .val (.long q3), .second, .val (.long q4), .second, .val (.long q5), .second, .val (.int (1 : Int32)), .val (.int v186), .val (.int v187), .val (.int v188), .val (.ref b314), .val (.ref b324), .val (.long q4), .second, .val (.long q5), .second, .val (.long v336), .second, .val (.long v337), .second, .val (.ref b338), .unset] [(.ref b324), (.ref b314), (.ref b376), (.ref b376)])) _
      refine XS.iconst X376.here hx rfl (hb hby at_205) ?_
      show Steps p.tables e below (T376.setTop (mkF m 206 #[.val (.int p0), .val (.long q1), .second, .val (.long q2), .second, .val (.long q3), .second, .val (.long q4), .second, .val (.long q5), .second, .val (.int (1 : Int32)), .val (.int v186), .val (.int v187), .val (.int v188), .val (.ref b314), .val (.ref b324), .val (.long q4), .second, .val (.long q5), .second, .val (.long v336), .second, .val (.long v337), .second, .val (.ref b338), .unset] [(.int (1 : Int32)), (.ref b324), (.ref b314), (.ref b376), (.ref b376)])) _
      refine st385 _ ?_
      show Steps p.tables e below (T385.setTop (mkF m 208 #[.val (.int p0), .val (.long q1), .second, .val (.long q2), .second, .val (.long q3), .second, .val (.long q4), .second, .val (.long q5), .second, .val (.int (1 : Int32)), .val (.int v186), .val (.int v187), .val (.int v188), .val (.ref b314), .val (.ref b324), .val (.long q4), .second, .val (.long q5), .second, .val (.long v336), .second, .val (.long v337), .second, .val (.ref b338), .unset] [(.ref b385), (.ref b324), (.ref b314), (.ref b376), (.ref b376)])) _
      refine XS.dup X385.here hx rfl (hb hby at_208) rfl rfl ?_
      show Steps p.tables e below (T385.setTop (mkF m 209 #[.val (.int p0), .val (.long q1), .second, .val (.long q2), .second, .val (.long q3), .second, .val (.long q4), .second, .val (.long q5), .second, .val (.int (1 : Int32)), .val (.int v186), .val (.int v187), .val (.int v188), .val (.ref b314), .val (.ref b324), .val (.long q4), .second, .val (.long q5), .second, .val (.long v336), .second, .val (.long v337), .second, .val (.ref b338), .unset] [(.ref b385), (.ref b385), (.ref b324), (.ref b314), (.ref b376), (.ref b376)])) _
      refine XS.iconst X385.here hx rfl (hb hby at_209) ?_
      show Steps p.tables e below (T385.setTop (mkF m 210 #[.val (.int p0), .val (.long q1), .second, .val (.long q2), .second, .val (.long q3), .second, .val (.long q4), .second, .val (.long q5), .second, .val (.int (1 : Int32)), .val (.int v186), .val (.int v187), .val (.int v188), .val (.ref b314), .val (.ref b324), .val (.long q4), .second, .val (.long q5), .second, .val (.long v336), .second, .val (.long v337), .second, .val (.ref b338), .unset] [(.int (0 : Int32)), (.ref b385), (.ref b385), (.ref b324), (.ref b314), (.ref b376), (.ref b376)])) _
      refine XS.iload X385.here hx rfl (hb hby at_210) rfl ?_
      show Steps p.tables e below (T385.setTop (mkF m 212 #[.val (.int p0), .val (.long q1), .second, .val (.long q2), .second, .val (.long q3), .second, .val (.long q4), .second, .val (.long q5), .second, .val (.int (1 : Int32)), .val (.int v186), .val (.int v187), .val (.int v188), .val (.ref b314), .val (.ref b324), .val (.long q4), .second, .val (.long q5), .second, .val (.long v336), .second, .val (.long v337), .second, .val (.ref b338), .unset] [(.int v188), (.int (0 : Int32)), (.ref b385), (.ref b385), (.ref b324), (.ref b314), (.ref b376), (.ref b376)])) _
      refine st397 _ ?_
      show Steps p.tables e below (T397.setTop (mkF m 213 #[.val (.int p0), .val (.long q1), .second, .val (.long q2), .second, .val (.long q3), .second, .val (.long q4), .second, .val (.long q5), .second, .val (.int (1 : Int32)), .val (.int v186), .val (.int v187), .val (.int v188), .val (.ref b314), .val (.ref b324), .val (.long q4), .second, .val (.long q5), .second, .val (.long v336), .second, .val (.long v337), .second, .val (.ref b338), .unset] [(.ref b385), (.ref b324), (.ref b314), (.ref b376), (.ref b376)])) _
      refine st409.trans ?_
      show Steps p.tables e below (T409.setTop (mkF m 216 #[.val (.int p0), .val (.long q1), .second, .val (.long q2), .second, .val (.long q3), .second, .val (.long q4), .second, .val (.long q5), .second, .val (.int (1 : Int32)), .val (.int v186), .val (.int v187), .val (.int v188), .val (.ref b314), .val (.ref b324), .val (.long q4), .second, .val (.long q5), .second, .val (.long v336), .second, .val (.long v337), .second, .val (.ref b338), .unset] [(.ref b376)])) _
      refine XS.astore X409.here hx rfl (hb hby at_216) rfl rfl (l' := #[.val (.int p0), .val (.long q1), .second, .val (.long q2), .second, .val (.long q3), .second, .val (.long q4), .second, .val (.long q5), .second, .val (.int (1 : Int32)), .val (.int v186), .val (.int v187), .val (.int v188), .val (.ref b314), .val (.ref b324), .val (.long q4), .second, .val (.long q5), .second, .val (.long v336), .second, .val (.long v337), .second, .val (.ref b338), .val (.ref b376)]) rfl ?_
      show Steps p.tables e below (T409.setTop (mkF m 218 #[.val (.int p0), .val (.long q1), .second, .val (.long q2), .second, .val (.long q3), .second, .val (.long q4), .second, .val (.long q5), .second, .val (.int (1 : Int32)), .val (.int v186), .val (.int v187), .val (.int v188), .val (.ref b314), .val (.ref b324), .val (.long q4), .second, .val (.long q5), .second, .val (.long v336), .second, .val (.long v337), .second, .val (.ref b338), .val (.ref b376)] [])) _
      refine XS.aload X409.here hx rfl (hb hby at_218) rfl rfl ?_
      show Steps p.tables e below (T409.setTop (mkF m 220 #[.val (.int p0), .val (.long q1), .second, .val (.long q2), .second, .val (.long q3), .second, .val (.long q4), .second, .val (.long q5), .second, .val (.int (1 : Int32)), .val (.int v186), .val (.int v187), .val (.int v188), .val (.ref b314), .val (.ref b324), .val (.long q4), .second, .val (.long q5), .second, .val (.long v336), .second, .val (.long v337), .second, .val (.ref b338), .val (.ref b376)] [(.ref b376)])) _
      refine XS.aload X409.here hx rfl (hb hby at_220) rfl rfl ?_
      show Steps p.tables e below (T409.setTop (mkF m 222 #[.val (.int p0), .val (.long q1), .second, .val (.long q2), .second, .val (.long q3), .second, .val (.long q4), .second, .val (.long q5), .second, .val (.int (1 : Int32)), .val (.int v186), .val (.int v187), .val (.int v188), .val (.ref b314), .val (.ref b324), .val (.long q4), .second, .val (.long q5), .second, .val (.long v336), .second, .val (.long v337), .second, .val (.ref b338), .val (.ref b376)] [(.ref b338), (.ref b376)])) _
      refine st421.trans ?_
      show Steps p.tables e below (T421.setTop (mkF m 225 #[.val (.int p0), .val (.long q1), .second, .val (.long q2), .second, .val (.long q3), .second, .val (.long q4), .second, .val (.long q5), .second, .val (.int (1 : Int32)), .val (.int v186), .val (.int v187), .val (.int v188), .val (.ref b314), .val (.ref b324), .val (.long q4), .second, .val (.long q5), .second, .val (.long v336), .second, .val (.long v337), .second, .val (.ref b338), .val (.ref b376)] [])) _
      refine XS.aload X421.here hx rfl (hb hby at_225) rfl rfl ?_
      show Steps p.tables e below (T421.setTop (mkF m 227 #[.val (.int p0), .val (.long q1), .second, .val (.long q2), .second, .val (.long q3), .second, .val (.long q4), .second, .val (.long q5), .second, .val (.int (1 : Int32)), .val (.int v186), .val (.int v187), .val (.int v188), .val (.ref b314), .val (.ref b324), .val (.long q4), .second, .val (.long q5), .second, .val (.long v336), .second, .val (.long v337), .second, .val (.ref b338), .val (.ref b376)] [(.ref b338)])) _
      refine X421.arraylength hx Ar434.1 (State.isArrayOf_alike hZ.alike Ar434.2.1) (g := (mkF m 227 #[.val (.int p0), .val (.long q1), .second, .val (.long q2), .second, .val (.long q3), .second, .val (.long q4), .second, .val (.long q5), .second, .val (.int (1 : Int32)), .val (.int v186), .val (.int v187), .val (.int v188), .val (.ref b314), .val (.ref b324), .val (.long q4), .second, .val (.long q5), .second, .val (.long v336), .second, .val (.long v337), .second, .val (.ref b338), .val (.ref b376)] [(.ref b338)])) rfl rfl (hb hby at_227) _ ?_
      rw [len_of S434 M434]
      show Steps p.tables e below (T421.setTop (mkF m 228 #[.val (.int p0), .val (.long q1), .second, .val (.long q2), .second, .val (.long q3), .second, .val (.long q4), .second, .val (.long q5), .second, .val (.int (1 : Int32)), .val (.int v186), .val (.int v187), .val (.int v188), .val (.ref b314), .val (.ref b324), .val (.long q4), .second, .val (.long q5), .second, .val (.long v336), .second, .val (.long v337), .second, .val (.ref b338), .val (.ref b376)] [(.int (4 : Int32))])) _
      refine XS.iconst X421.here hx rfl (hb hby at_228) ?_
      show Steps p.tables e below (T421.setTop (mkF m 229 #[.val (.int p0), .val (.long q1), .second, .val (.long q2), .second, .val (.long q3), .second, .val (.long q4), .second, .val (.long q5), .second, .val (.int (1 : Int32)), .val (.int v186), .val (.int v187), .val (.int v188), .val (.ref b314), .val (.ref b324), .val (.long q4), .second, .val (.long q5), .second, .val (.long v336), .second, .val (.long v337), .second, .val (.ref b338), .val (.ref b376)] [(.int (4 : Int32)), (.int (4 : Int32))])) _
      refine XS.icmpNo X421.here hx rfl (hb hby at_229) rfl (teq (by decide : (4 : Int32) = (4 : Int32))).2 ?_
      show Steps p.tables e below (T421.setTop (mkF m 232 #[.val (.int p0), .val (.long q1), .second, .val (.long q2), .second, .val (.long q3), .second, .val (.long q4), .second, .val (.long q5), .second, .val (.int (1 : Int32)), .val (.int v186), .val (.int v187), .val (.int v188), .val (.ref b314), .val (.ref b324), .val (.long q4), .second, .val (.long q5), .second, .val (.long v336), .second, .val (.long v337), .second, .val (.ref b338), .val (.ref b376)] [])) _
      refine XS.aload X421.here hx rfl (hb hby at_232) rfl rfl ?_
      show Steps p.tables e below (T421.setTop (mkF m 234 #[.val (.int p0), .val (.long q1), .second, .val (.long q2), .second, .val (.long q3), .second, .val (.long q4), .second, .val (.long q5), .second, .val (.int (1 : Int32)), .val (.int v186), .val (.int v187), .val (.int v188), .val (.ref b314), .val (.ref b324), .val (.long q4), .second, .val (.long q5), .second, .val (.long v336), .second, .val (.long v337), .second, .val (.ref b338), .val (.ref b376)] [(.ref b338)])) _
      refine XS.iconst X421.here hx rfl (hb hby at_234) ?_
      show Steps p.tables e below (T421.setTop (mkF m 235 #[.val (.int p0), .val (.long q1), .second, .val (.long q2), .second, .val (.long q3), .second, .val (.long q4), .second, .val (.long q5), .second, .val (.int (1 : Int32)), .val (.int v186), .val (.int v187), .val (.int v188), .val (.ref b314), .val (.ref b324), .val (.long q4), .second, .val (.long q5), .second, .val (.long v336), .second, .val (.long v337), .second, .val (.ref b338), .val (.ref b376)] [(.int (0 : Int32)), (.ref b338)])) _
      refine X421.laload hx (j := (0 : Int32)) (v := (.long ((own_upd (own_g4 q4 q5 v336 v337) v186 q1) 0))) Ar435.1 (State.isArrayOf_alike hZ.alike Ar435.2.1) Ar435.2.2 hin435 hat435 (g := (mkF m 235 #[.val (.int p0), .val (.long q1), .second, .val (.long q2), .second, .val (.long q3), .second, .val (.long q4), .second, .val (.long q5), .second, .val (.int (1 : Int32)), .val (.int v186), .val (.int v187), .val (.int v188), .val (.ref b314), .val (.ref b324), .val (.long q4), .second, .val (.long q5), .second, .val (.long v336), .second, .val (.long v337), .second, .val (.ref b338), .val (.ref b376)] [(.int (0 : Int32)), (.ref b338)])) rfl rfl (hb hby at_235) _ ?_
      show Steps p.tables e below (T421.setTop (mkF m 236 #[.val (.int p0), .val (.long q1), .second, .val (.long q2), .second, .val (.long q3), .second, .val (.long q4), .second, .val (.long q5), .second, .val (.int (1 : Int32)), .val (.int v186), .val (.int v187), .val (.int v188), .val (.ref b314), .val (.ref b324), .val (.long q4), .second, .val (.long q5), .second, .val (.long v336), .second, .val (.long v337), .second, .val (.ref b338), .val (.ref b376)] [(.long ((own_upd (own_g4 q4 q5 v336 v337) v186 q1) 0))])) _
      refine XS.iconst X421.here hx rfl (hb hby at_236) ?_
      show Steps p.tables e below (T421.setTop (mkF m 237 #[.val (.int p0), .val (.long q1), .second, .val (.long q2), .second, .val (.long q3), .second, .val (.long q4), .second, .val (.long q5), .second, .val (.int (1 : Int32)), .val (.int v186), .val (.int v187), .val (.int v188), .val (.ref b314), .val (.ref b324), .val (.long q4), .second, .val (.long q5), .second, .val (.long v336), .second, .val (.long v337), .second, .val (.ref b338), .val (.ref b376)] [(.int (0 : Int32)), (.long ((own_upd (own_g4 q4 q5 v336 v337) v186 q1) 0))])) _
      refine XS.iload X421.here hx rfl (hb hby at_237) rfl ?_
      show Steps p.tables e below (T421.setTop (mkF m 239 #[.val (.int p0), .val (.long q1), .second, .val (.long q2), .second, .val (.long q3), .second, .val (.long q4), .second, .val (.long q5), .second, .val (.int (1 : Int32)), .val (.int v186), .val (.int v187), .val (.int v188), .val (.ref b314), .val (.ref b324), .val (.long q4), .second, .val (.long q5), .second, .val (.long v336), .second, .val (.long v337), .second, .val (.ref b338), .val (.ref b376)] [(.int (1 : Int32)), (.int (0 : Int32)), (.long ((own_upd (own_g4 q4 q5 v336 v337) v186 q1) 0))])) _
      refine XS.iload X421.here hx rfl (hb hby at_239) rfl ?_
      show Steps p.tables e below (T421.setTop (mkF m 241 #[.val (.int p0), .val (.long q1), .second, .val (.long q2), .second, .val (.long q3), .second, .val (.long q4), .second, .val (.long q5), .second, .val (.int (1 : Int32)), .val (.int v186), .val (.int v187), .val (.int v188), .val (.ref b314), .val (.ref b324), .val (.long q4), .second, .val (.long q5), .second, .val (.long v336), .second, .val (.long v337), .second, .val (.ref b338), .val (.ref b376)] [(.int v186), (.int (1 : Int32)), (.int (0 : Int32)), (.long ((own_upd (own_g4 q4 q5 v336 v337) v186 q1) 0))])) _
      refine XS.iload X421.here hx rfl (hb hby at_241) rfl ?_
      show Steps p.tables e below (T421.setTop (mkF m 243 #[.val (.int p0), .val (.long q1), .second, .val (.long q2), .second, .val (.long q3), .second, .val (.long q4), .second, .val (.long q5), .second, .val (.int (1 : Int32)), .val (.int v186), .val (.int v187), .val (.int v188), .val (.ref b314), .val (.ref b324), .val (.long q4), .second, .val (.long q5), .second, .val (.long v336), .second, .val (.long v337), .second, .val (.ref b338), .val (.ref b376)] [(.int v187), (.int v186), (.int (1 : Int32)), (.int (0 : Int32)), (.long ((own_upd (own_g4 q4 q5 v336 v337) v186 q1) 0))])) _
      refine XS.iload X421.here hx rfl (hb hby at_243) rfl ?_
      show Steps p.tables e below (T421.setTop (mkF m 245 #[.val (.int p0), .val (.long q1), .second, .val (.long q2), .second, .val (.long q3), .second, .val (.long q4), .second, .val (.long q5), .second, .val (.int (1 : Int32)), .val (.int v186), .val (.int v187), .val (.int v188), .val (.ref b314), .val (.ref b324), .val (.long q4), .second, .val (.long q5), .second, .val (.long v336), .second, .val (.long v337), .second, .val (.ref b338), .val (.ref b376)] [(.int v188), (.int v187), (.int v186), (.int (1 : Int32)), (.int (0 : Int32)), (.long ((own_upd (own_g4 q4 q5 v336 v337) v186 q1) 0))])) _
      refine XS.lloadN X421.here hx rfl (hb hby at_245) rfl ?_
      show Steps p.tables e below (T421.setTop (mkF m 246 #[.val (.int p0), .val (.long q1), .second, .val (.long q2), .second, .val (.long q3), .second, .val (.long q4), .second, .val (.long q5), .second, .val (.int (1 : Int32)), .val (.int v186), .val (.int v187), .val (.int v188), .val (.ref b314), .val (.ref b324), .val (.long q4), .second, .val (.long q5), .second, .val (.long v336), .second, .val (.long v337), .second, .val (.ref b338), .val (.ref b376)] [(.long q1), (.int v188), (.int v187), (.int v186), (.int (1 : Int32)), (.int (0 : Int32)), (.long ((own_upd (own_g4 q4 q5 v336 v337) v186 q1) 0))])) _
      refine XS.lloadN X421.here hx rfl (hb hby at_246) rfl ?_
      show Steps p.tables e below (T421.setTop (mkF m 247 #[.val (.int p0), .val (.long q1), .second, .val (.long q2), .second, .val (.long q3), .second, .val (.long q4), .second, .val (.long q5), .second, .val (.int (1 : Int32)), .val (.int v186), .val (.int v187), .val (.int v188), .val (.ref b314), .val (.ref b324), .val (.long q4), .second, .val (.long q5), .second, .val (.long v336), .second, .val (.long v337), .second, .val (.ref b338), .val (.ref b376)] [(.long q2), (.long q1), (.int v188), (.int v187), (.int v186), (.int (1 : Int32)), (.int (0 : Int32)), (.long ((own_upd (own_g4 q4 q5 v336 v337) v186 q1) 0))])) _
      refine XS.lload X421.here hx rfl (hb hby at_247) rfl ?_
      show Steps p.tables e below (T421.setTop (mkF m 249 #[.val (.int p0), .val (.long q1), .second, .val (.long q2), .second, .val (.long q3), .second, .val (.long q4), .second, .val (.long q5), .second, .val (.int (1 : Int32)), .val (.int v186), .val (.int v187), .val (.int v188), .val (.ref b314), .val (.ref b324), .val (.long q4), .second, .val (.long q5), .second, .val (.long v336), .second, .val (.long v337), .second, .val (.ref b338), .val (.ref b376)] [(.long q3), (.long q2), (.long q1), (.int v188), (.int v187), (.int v186), (.int (1 : Int32)), (.int (0 : Int32)), (.long ((own_upd (own_g4 q4 q5 v336 v337) v186 q1) 0))])) _
      refine XS.lload X421.here hx rfl (hb hby at_249) rfl ?_
      show Steps p.tables e below (T421.setTop (mkF m 251 #[.val (.int p0), .val (.long q1), .second, .val (.long q2), .second, .val (.long q3), .second, .val (.long q4), .second, .val (.long q5), .second, .val (.int (1 : Int32)), .val (.int v186), .val (.int v187), .val (.int v188), .val (.ref b314), .val (.ref b324), .val (.long q4), .second, .val (.long q5), .second, .val (.long v336), .second, .val (.long v337), .second, .val (.ref b338), .val (.ref b376)] [(.long q4), (.long q3), (.long q2), (.long q1), (.int v188), (.int v187), (.int v186), (.int (1 : Int32)), (.int (0 : Int32)), (.long ((own_upd (own_g4 q4 q5 v336 v337) v186 q1) 0))])) _
      refine st436 _ ?_
      show Steps p.tables e below (T436.setTop (mkF m 254 #[.val (.int p0), .val (.long q1), .second, .val (.long q2), .second, .val (.long q3), .second, .val (.long q4), .second, .val (.long q5), .second, .val (.int (1 : Int32)), .val (.int v186), .val (.int v187), .val (.int v188), .val (.ref b314), .val (.ref b324), .val (.long q4), .second, .val (.long q5), .second, .val (.long v336), .second, .val (.long v337), .second, .val (.ref b338), .val (.ref b376)] [(.long (own_f5 (0 : Int32) (1 : Int32) v186 v187 v188 q1 q2 q3 q4)), (.long ((own_upd (own_g4 q4 q5 v336 v337) v186 q1) 0))])) _
      refine XS.lcmp X436.here hx rfl (hb hby at_254) rfl ?_
      show Steps p.tables e below (T436.setTop (mkF m 255 #[.val (.int p0), .val (.long q1), .second, .val (.long q2), .second, .val (.long q3), .second, .val (.long q4), .second, .val (.long q5), .second, .val (.int (1 : Int32)), .val (.int v186), .val (.int v187), .val (.int v188), .val (.ref b314), .val (.ref b324), .val (.long q4), .second, .val (.long q5), .second, .val (.long v336), .second, .val (.long v337), .second, .val (.ref b338), .val (.ref b376)] [(.int (lcmpW ((own_upd (own_g4 q4 q5 v336 v337) v186 q1) 0) (own_f5 (0 : Int32) (1 : Int32) v186 v187 v188 q1 q2 q3 q4)))])) _
      exact kk)
    by_cases hc440 : ((own_upd (own_g4 q4 q5 v336 v337) v186 q1) 0) = (own_f5 (0 : Int32) (1 : Int32) v186 v187 v188 q1 q2 q3 q4)
    · obtain ⟨cl441, Ar441, q441, S441, M441, H441, G441⟩ := id f424
      have hin441 : ¬ ((1 : Int32) < 0 ∨ cl441.slots.size ≤ ((1 : Int32)).toNatClampNeg) := inb_of S441 ⟨by decide, by decide⟩
      have hat441 : cl441.slots[((1 : Int32)).toNatClampNeg]? = some (.long ((own_upd (own_g4 q4 q5 v336 v337) v186 q1) 1)) := H441.at hin441 rfl
      obtain ⟨_, _, ⟨T442, L442, k442, n442⟩, -, X442, ⟨Lc442, hQ442, l442, y442, z442⟩, st442⟩ := Jvm.LawKit.callS X436 hx (y := (⟨"com/example/thyme/thyme/engine/RestartWritePinLaw", "expect", "(IIIIIJJJJ)J"⟩ : MethodName)) hown (mvT hZ (hw _ (List.mem_of_getElem? (i := 28) rfl))) (mvT hZ (hw _ (List.mem_of_getElem? (i := 29) rfl))) (mvT hZ (hw _ (List.mem_of_getElem? (i := 30) rfl))) (mvT hZ (hw _ (List.mem_of_getElem? (i := 31) rfl))) (by decide) (backOf (W := 2) (own_rm5 l Z av hw [] (1 : Int32) (1 : Int32) v186 v187 v188 q1 q2 q3 q5 T421.heap n0 z433 ) hZ (hw _ (List.mem_of_getElem? (i := 31) rfl)) (hw _ (List.mem_of_getElem? (i := 30) rfl)) (by decide) (by decide)) (g := (mkF m 277 #[.val (.int p0), .val (.long q1), .second, .val (.long q2), .second, .val (.long q3), .second, .val (.long q4), .second, .val (.long q5), .second, .val (.int (1 : Int32)), .val (.int v186), .val (.int v187), .val (.int v188), .val (.ref b314), .val (.ref b324), .val (.long q4), .second, .val (.long q5), .second, .val (.long v336), .second, .val (.long v337), .second, .val (.ref b338), .val (.ref b376)] [(.long q5), (.long q3), (.long q2), (.long q1), (.int v188), (.int v187), (.int v186), (.int (1 : Int32)), (.int (1 : Int32)), (.long ((own_upd (own_g4 q4 q5 v336 v337) v186 q1) 1))])) rfl (by rw [hml]; rfl) (argsL := [(.int (1 : Int32)), (.int (1 : Int32)), (.int v186), (.int v187), (.int v188), (.long q1), (.long q2), (.long q3), (.long q5)]) (rest := [(.long ((own_upd (own_g4 q4 q5 v336 v337) v186 q1) 1))]) (lenOf own_pd3 rfl) rfl (by show 2 * 0 + _ ≤ _; exact Nat.le_of_eq rfl) (hb hby at_277) (fun _ _ => ⟨rfl, e438, (by decide : 5 + 0 ≤ _), (by decide : 10 + 0 ≤ _)⟩)
      dsimp only [Pt.U, Pt.locs, Pt.cells, Pt.slots] at X442 l442 y442 z442 st442 hQ442
      subst l442 y442 z442
      obtain ⟨rfl, N442q, e444⟩ := hQ442
      have N443 := Fr.app N437 N442q
      have pre445 : ∀ t, Steps p.tables e below (T442.setTop (mkF m 281 #[.val (.int p0), .val (.long q1), .second, .val (.long q2), .second, .val (.long q3), .second, .val (.long q4), .second, .val (.long q5), .second, .val (.int (1 : Int32)), .val (.int v186), .val (.int v187), .val (.int v188), .val (.ref b314), .val (.ref b324), .val (.long q4), .second, .val (.long q5), .second, .val (.long v336), .second, .val (.long v337), .second, .val (.ref b338), .val (.ref b376)] [(.int (lcmpW ((own_upd (own_g4 q4 q5 v336 v337) v186 q1) 1) (own_f5 (1 : Int32) (1 : Int32) v186 v187 v188 q1 q2 q3 q5)))])) t → Steps p.tables e below (s₁.setTop (entryFrame m #[(.int p0), (.long q1), (.long q2), (.long q3), (.long q4), (.long q5)] maxLocals)) t := fun t kk => pre439 t (by
        show Steps p.tables e below (T436.setTop (mkF m 255 #[.val (.int p0), .val (.long q1), .second, .val (.long q2), .second, .val (.long q3), .second, .val (.long q4), .second, .val (.long q5), .second, .val (.int (1 : Int32)), .val (.int v186), .val (.int v187), .val (.int v188), .val (.ref b314), .val (.ref b324), .val (.long q4), .second, .val (.long q5), .second, .val (.long v336), .second, .val (.long v337), .second, .val (.ref b338), .val (.ref b376)] [(.int (lcmpW ((own_upd (own_g4 q4 q5 v336 v337) v186 q1) 0) (own_f5 (0 : Int32) (1 : Int32) v186 v187 v188 q1 q2 q3 q4)))])) _
        refine XS.ifNo X436.here hx rfl (hb hby at_255) rfl ((if0 _ _).trans (teq ((lw_eq ((own_upd (own_g4 q4 q5 v336 v337) v186 q1) 0) (own_f5 (0 : Int32) (1 : Int32) v186 v187 v188 q1 q2 q3 q4)).mpr hc440)).2) ?_
        show Steps p.tables e below (T436.setTop (mkF m 258 #[.val (.int p0), .val (.long q1), .second, .val (.long q2), .second, .val (.long q3), .second, .val (.long q4), .second, .val (.long q5), .second, .val (.int (1 : Int32)), .val (.int v186), .val (.int v187), .val (.int v188), .val (.ref b314), .val (.ref b324), .val (.long q4), .second, .val (.long q5), .second, .val (.long v336), .second, .val (.long v337), .second, .val (.ref b338), .val (.ref b376)] [])) _
        refine XS.aload X436.here hx rfl (hb hby at_258) rfl rfl ?_
        show Steps p.tables e below (T436.setTop (mkF m 260 #[.val (.int p0), .val (.long q1), .second, .val (.long q2), .second, .val (.long q3), .second, .val (.long q4), .second, .val (.long q5), .second, .val (.int (1 : Int32)), .val (.int v186), .val (.int v187), .val (.int v188), .val (.ref b314), .val (.ref b324), .val (.long q4), .second, .val (.long q5), .second, .val (.long v336), .second, .val (.long v337), .second, .val (.ref b338), .val (.ref b376)] [(.ref b338)])) _
        refine XS.iconst X436.here hx rfl (hb hby at_260) ?_
        show Steps p.tables e below (T436.setTop (mkF m 261 #[.val (.int p0), .val (.long q1), .second, .val (.long q2), .second, .val (.long q3), .second, .val (.long q4), .second, .val (.long q5), .second, .val (.int (1 : Int32)), .val (.int v186), .val (.int v187), .val (.int v188), .val (.ref b314), .val (.ref b324), .val (.long q4), .second, .val (.long q5), .second, .val (.long v336), .second, .val (.long v337), .second, .val (.ref b338), .val (.ref b376)] [(.int (1 : Int32)), (.ref b338)])) _
        refine X436.laload hx (j := (1 : Int32)) (v := (.long ((own_upd (own_g4 q4 q5 v336 v337) v186 q1) 1))) (by rw [e438]; exact Ar441.1) (State.isArrayOf_alike hZ.alike Ar441.2.1) Ar441.2.2 hin441 hat441 (g := (mkF m 261 #[.val (.int p0), .val (.long q1), .second, .val (.long q2), .second, .val (.long q3), .second, .val (.long q4), .second, .val (.long q5), .second, .val (.int (1 : Int32)), .val (.int v186), .val (.int v187), .val (.int v188), .val (.ref b314), .val (.ref b324), .val (.long q4), .second, .val (.long q5), .second, .val (.long v336), .second, .val (.long v337), .second, .val (.ref b338), .val (.ref b376)] [(.int (1 : Int32)), (.ref b338)])) rfl rfl (hb hby at_261) _ ?_
        show Steps p.tables e below (T436.setTop (mkF m 262 #[.val (.int p0), .val (.long q1), .second, .val (.long q2), .second, .val (.long q3), .second, .val (.long q4), .second, .val (.long q5), .second, .val (.int (1 : Int32)), .val (.int v186), .val (.int v187), .val (.int v188), .val (.ref b314), .val (.ref b324), .val (.long q4), .second, .val (.long q5), .second, .val (.long v336), .second, .val (.long v337), .second, .val (.ref b338), .val (.ref b376)] [(.long ((own_upd (own_g4 q4 q5 v336 v337) v186 q1) 1))])) _
        refine XS.iconst X436.here hx rfl (hb hby at_262) ?_
        show Steps p.tables e below (T436.setTop (mkF m 263 #[.val (.int p0), .val (.long q1), .second, .val (.long q2), .second, .val (.long q3), .second, .val (.long q4), .second, .val (.long q5), .second, .val (.int (1 : Int32)), .val (.int v186), .val (.int v187), .val (.int v188), .val (.ref b314), .val (.ref b324), .val (.long q4), .second, .val (.long q5), .second, .val (.long v336), .second, .val (.long v337), .second, .val (.ref b338), .val (.ref b376)] [(.int (1 : Int32)), (.long ((own_upd (own_g4 q4 q5 v336 v337) v186 q1) 1))])) _
        refine XS.iload X436.here hx rfl (hb hby at_263) rfl ?_
        show Steps p.tables e below (T436.setTop (mkF m 265 #[.val (.int p0), .val (.long q1), .second, .val (.long q2), .second, .val (.long q3), .second, .val (.long q4), .second, .val (.long q5), .second, .val (.int (1 : Int32)), .val (.int v186), .val (.int v187), .val (.int v188), .val (.ref b314), .val (.ref b324), .val (.long q4), .second, .val (.long q5), .second, .val (.long v336), .second, .val (.long v337), .second, .val (.ref b338), .val (.ref b376)] [(.int (1 : Int32)), (.int (1 : Int32)), (.long ((own_upd (own_g4 q4 q5 v336 v337) v186 q1) 1))])) _
        refine XS.iload X436.here hx rfl (hb hby at_265) rfl ?_
        show Steps p.tables e below (T436.setTop (mkF m 267 #[.val (.int p0), .val (.long q1), .second, .val (.long q2), .second, .val (.long q3), .second, .val (.long q4), .second, .val (.long q5), .second, .val (.int (1 : Int32)), .val (.int v186), .val (.int v187), .val (.int v188), .val (.ref b314), .val (.ref b324), .val (.long q4), .second, .val (.long q5), .second, .val (.long v336), .second, .val (.long v337), .second, .val (.ref b338), .val (.ref b376)] [(.int v186), (.int (1 : Int32)), (.int (1 : Int32)), (.long ((own_upd (own_g4 q4 q5 v336 v337) v186 q1) 1))])) _
        refine XS.iload X436.here hx rfl (hb hby at_267) rfl ?_
        show Steps p.tables e below (T436.setTop (mkF m 269 #[.val (.int p0), .val (.long q1), .second, .val (.long q2), .second, .val (.long q3), .second, .val (.long q4), .second, .val (.long q5), .second, .val (.int (1 : Int32)), .val (.int v186), .val (.int v187), .val (.int v188), .val (.ref b314), .val (.ref b324), .val (.long q4), .second, .val (.long q5), .second, .val (.long v336), .second, .val (.long v337), .second, .val (.ref b338), .val (.ref b376)] [(.int v187), (.int v186), (.int (1 : Int32)), (.int (1 : Int32)), (.long ((own_upd (own_g4 q4 q5 v336 v337) v186 q1) 1))])) _
        refine XS.iload X436.here hx rfl (hb hby at_269) rfl ?_
        show Steps p.tables e below (T436.setTop (mkF m 271 #[.val (.int p0), .val (.long q1), .second, .val (.long q2), .second, .val (.long q3), .second, .val (.long q4), .second, .val (.long q5), .second, .val (.int (1 : Int32)), .val (.int v186), .val (.int v187), .val (.int v188), .val (.ref b314), .val (.ref b324), .val (.long q4), .second, .val (.long q5), .second, .val (.long v336), .second, .val (.long v337), .second, .val (.ref b338), .val (.ref b376)] [(.int v188), (.int v187), (.int v186), (.int (1 : Int32)), (.int (1 : Int32)), (.long ((own_upd (own_g4 q4 q5 v336 v337) v186 q1) 1))])) _
        refine XS.lloadN X436.here hx rfl (hb hby at_271) rfl ?_
        show Steps p.tables e below (T436.setTop (mkF m 272 #[.val (.int p0), .val (.long q1), .second, .val (.long q2), .second, .val (.long q3), .second, .val (.long q4), .second, .val (.long q5), .second, .val (.int (1 : Int32)), .val (.int v186), .val (.int v187), .val (.int v188), .val (.ref b314), .val (.ref b324), .val (.long q4), .second, .val (.long q5), .second, .val (.long v336), .second, .val (.long v337), .second, .val (.ref b338), .val (.ref b376)] [(.long q1), (.int v188), (.int v187), (.int v186), (.int (1 : Int32)), (.int (1 : Int32)), (.long ((own_upd (own_g4 q4 q5 v336 v337) v186 q1) 1))])) _
        refine XS.lloadN X436.here hx rfl (hb hby at_272) rfl ?_
        show Steps p.tables e below (T436.setTop (mkF m 273 #[.val (.int p0), .val (.long q1), .second, .val (.long q2), .second, .val (.long q3), .second, .val (.long q4), .second, .val (.long q5), .second, .val (.int (1 : Int32)), .val (.int v186), .val (.int v187), .val (.int v188), .val (.ref b314), .val (.ref b324), .val (.long q4), .second, .val (.long q5), .second, .val (.long v336), .second, .val (.long v337), .second, .val (.ref b338), .val (.ref b376)] [(.long q2), (.long q1), (.int v188), (.int v187), (.int v186), (.int (1 : Int32)), (.int (1 : Int32)), (.long ((own_upd (own_g4 q4 q5 v336 v337) v186 q1) 1))])) _
        refine XS.lload X436.here hx rfl (hb hby at_273) rfl ?_
        show Steps p.tables e below (T436.setTop (mkF m 275 #[.val (.int p0), .val (.long q1), .second, .val (.long q2), .second, .val (.long q3), .second, .val (.long q4), .second, .val (.long q5), .second, .val (.int (1 : Int32)), .val (.int v186), .val (.int v187), .val (.int v188), .val (.ref b314), .val (.ref b324), .val (.long q4), .second, .val (.long q5), .second, .val (.long v336), .second, .val (.long v337), .second, .val (.ref b338), .val (.ref b376)] [(.long q3), (.long q2), (.long q1), (.int v188), (.int v187), (.int v186), (.int (1 : Int32)), (.int (1 : Int32)), (.long ((own_upd (own_g4 q4 q5 v336 v337) v186 q1) 1))])) _
        refine XS.lload X436.here hx rfl (hb hby at_275) rfl ?_
        show Steps p.tables e below (T436.setTop (mkF m 277 #[.val (.int p0), .val (.long q1), .second, .val (.long q2), .second, .val (.long q3), .second, .val (.long q4), .second, .val (.long q5), .second, .val (.int (1 : Int32)), .val (.int v186), .val (.int v187), .val (.int v188), .val (.ref b314), .val (.ref b324), .val (.long q4), .second, .val (.long q5), .second, .val (.long v336), .second, .val (.long v337), .second, .val (.ref b338), .val (.ref b376)] [(.long q5), (.long q3), (.long q2), (.long q1), (.int v188), (.int v187), (.int v186), (.int (1 : Int32)), (.int (1 : Int32)), (.long ((own_upd (own_g4 q4 q5 v336 v337) v186 q1) 1))])) _
        refine st442 _ ?_
        show Steps p.tables e below (T442.setTop (mkF m 280 #[.val (.int p0), .val (.long q1), .second, .val (.long q2), .second, .val (.long q3), .second, .val (.long q4), .second, .val (.long q5), .second, .val (.int (1 : Int32)), .val (.int v186), .val (.int v187), .val (.int v188), .val (.ref b314), .val (.ref b324), .val (.long q4), .second, .val (.long q5), .second, .val (.long v336), .second, .val (.long v337), .second, .val (.ref b338), .val (.ref b376)] [(.long (own_f5 (1 : Int32) (1 : Int32) v186 v187 v188 q1 q2 q3 q5)), (.long ((own_upd (own_g4 q4 q5 v336 v337) v186 q1) 1))])) _
        refine XS.lcmp X442.here hx rfl (hb hby at_280) rfl ?_
        show Steps p.tables e below (T442.setTop (mkF m 281 #[.val (.int p0), .val (.long q1), .second, .val (.long q2), .second, .val (.long q3), .second, .val (.long q4), .second, .val (.long q5), .second, .val (.int (1 : Int32)), .val (.int v186), .val (.int v187), .val (.int v188), .val (.ref b314), .val (.ref b324), .val (.long q4), .second, .val (.long q5), .second, .val (.long v336), .second, .val (.long v337), .second, .val (.ref b338), .val (.ref b376)] [(.int (lcmpW ((own_upd (own_g4 q4 q5 v336 v337) v186 q1) 1) (own_f5 (1 : Int32) (1 : Int32) v186 v187 v188 q1 q2 q3 q5)))])) _
        exact kk)
      by_cases hc446 : ((own_upd (own_g4 q4 q5 v336 v337) v186 q1) 1) = (own_f5 (1 : Int32) (1 : Int32) v186 v187 v188 q1 q2 q3 q5)
      · obtain ⟨cl447, Ar447, q447, S447, M447, H447, G447⟩ := id f424
        have hin447 : ¬ ((2 : Int32) < 0 ∨ cl447.slots.size ≤ ((2 : Int32)).toNatClampNeg) := inb_of S447 ⟨by decide, by decide⟩
        have hat447 : cl447.slots[((2 : Int32)).toNatClampNeg]? = some (.long ((own_upd (own_g4 q4 q5 v336 v337) v186 q1) 2)) := H447.at hin447 rfl
        obtain ⟨_, _, ⟨T448, L448, k448, n448⟩, -, X448, ⟨Lc448, hQ448, l448, y448, z448⟩, st448⟩ := Jvm.LawKit.callS X442 hx (y := (⟨"com/example/thyme/thyme/engine/RestartWritePinLaw", "expect", "(IIIIIJJJJ)J"⟩ : MethodName)) hown (mvT hZ (hw _ (List.mem_of_getElem? (i := 28) rfl))) (mvT hZ (hw _ (List.mem_of_getElem? (i := 29) rfl))) (mvT hZ (hw _ (List.mem_of_getElem? (i := 30) rfl))) (mvT hZ (hw _ (List.mem_of_getElem? (i := 31) rfl))) (by decide) (backOf (W := 2) (own_rm5 l Z av hw [] (2 : Int32) (1 : Int32) v186 v187 v188 q1 q2 q3 v336 T421.heap n0 z433 ) hZ (hw _ (List.mem_of_getElem? (i := 31) rfl)) (hw _ (List.mem_of_getElem? (i := 30) rfl)) (by decide) (by decide)) (g := (mkF m 303 #[.val (.int p0), .val (.long q1), .second, .val (.long q2), .second, .val (.long q3), .second, .val (.long q4), .second, .val (.long q5), .second, .val (.int (1 : Int32)), .val (.int v186), .val (.int v187), .val (.int v188), .val (.ref b314), .val (.ref b324), .val (.long q4), .second, .val (.long q5), .second, .val (.long v336), .second, .val (.long v337), .second, .val (.ref b338), .val (.ref b376)] [(.long v336), (.long q3), (.long q2), (.long q1), (.int v188), (.int v187), (.int v186), (.int (1 : Int32)), (.int (2 : Int32)), (.long ((own_upd (own_g4 q4 q5 v336 v337) v186 q1) 2))])) rfl (by rw [hml]; rfl) (argsL := [(.int (2 : Int32)), (.int (1 : Int32)), (.int v186), (.int v187), (.int v188), (.long q1), (.long q2), (.long q3), (.long v336)]) (rest := [(.long ((own_upd (own_g4 q4 q5 v336 v337) v186 q1) 2))]) (lenOf own_pd3 rfl) rfl (by show 2 * 0 + _ ≤ _; exact Nat.le_of_eq rfl) (hb hby at_303) (fun _ _ => ⟨rfl, e444, (by decide : 5 + 0 ≤ _), (by decide : 10 + 0 ≤ _)⟩)
        dsimp only [Pt.U, Pt.locs, Pt.cells, Pt.slots] at X448 l448 y448 z448 st448 hQ448
        subst l448 y448 z448
        obtain ⟨rfl, N448q, e450⟩ := hQ448
        have N449 := Fr.app N443 N448q
        have pre451 : ∀ t, Steps p.tables e below (T448.setTop (mkF m 307 #[.val (.int p0), .val (.long q1), .second, .val (.long q2), .second, .val (.long q3), .second, .val (.long q4), .second, .val (.long q5), .second, .val (.int (1 : Int32)), .val (.int v186), .val (.int v187), .val (.int v188), .val (.ref b314), .val (.ref b324), .val (.long q4), .second, .val (.long q5), .second, .val (.long v336), .second, .val (.long v337), .second, .val (.ref b338), .val (.ref b376)] [(.int (lcmpW ((own_upd (own_g4 q4 q5 v336 v337) v186 q1) 2) (own_f5 (2 : Int32) (1 : Int32) v186 v187 v188 q1 q2 q3 v336)))])) t → Steps p.tables e below (s₁.setTop (entryFrame m #[(.int p0), (.long q1), (.long q2), (.long q3), (.long q4), (.long q5)] maxLocals)) t := fun t kk => pre445 t (by
          show Steps p.tables e below (T442.setTop (mkF m 281 #[.val (.int p0), .val (.long q1), .second, .val (.long q2), .second, .val (.long q3), .second, .val (.long q4), .second, .val (.long q5), .second, .val (.int (1 : Int32)), .val (.int v186), .val (.int v187), .val (.int v188), .val (.ref b314), .val (.ref b324), .val (.long q4), .second, .val (.long q5), .second, .val (.long v336), .second, .val (.long v337), .second, .val (.ref b338), .val (.ref b376)] [(.int (lcmpW ((own_upd (own_g4 q4 q5 v336 v337) v186 q1) 1) (own_f5 (1 : Int32) (1 : Int32) v186 v187 v188 q1 q2 q3 q5)))])) _
          refine XS.ifNo X442.here hx rfl (hb hby at_281) rfl ((if0 _ _).trans (teq ((lw_eq ((own_upd (own_g4 q4 q5 v336 v337) v186 q1) 1) (own_f5 (1 : Int32) (1 : Int32) v186 v187 v188 q1 q2 q3 q5)).mpr hc446)).2) ?_
          show Steps p.tables e below (T442.setTop (mkF m 284 #[.val (.int p0), .val (.long q1), .second, .val (.long q2), .second, .val (.long q3), .second, .val (.long q4), .second, .val (.long q5), .second, .val (.int (1 : Int32)), .val (.int v186), .val (.int v187), .val (.int v188), .val (.ref b314), .val (.ref b324), .val (.long q4), .second, .val (.long q5), .second, .val (.long v336), .second, .val (.long v337), .second, .val (.ref b338), .val (.ref b376)] [])) _
          refine XS.aload X442.here hx rfl (hb hby at_284) rfl rfl ?_
          show Steps p.tables e below (T442.setTop (mkF m 286 #[.val (.int p0), .val (.long q1), .second, .val (.long q2), .second, .val (.long q3), .second, .val (.long q4), .second, .val (.long q5), .second, .val (.int (1 : Int32)), .val (.int v186), .val (.int v187), .val (.int v188), .val (.ref b314), .val (.ref b324), .val (.long q4), .second, .val (.long q5), .second, .val (.long v336), .second, .val (.long v337), .second, .val (.ref b338), .val (.ref b376)] [(.ref b338)])) _
          refine XS.iconst X442.here hx rfl (hb hby at_286) ?_
          show Steps p.tables e below (T442.setTop (mkF m 287 #[.val (.int p0), .val (.long q1), .second, .val (.long q2), .second, .val (.long q3), .second, .val (.long q4), .second, .val (.long q5), .second, .val (.int (1 : Int32)), .val (.int v186), .val (.int v187), .val (.int v188), .val (.ref b314), .val (.ref b324), .val (.long q4), .second, .val (.long q5), .second, .val (.long v336), .second, .val (.long v337), .second, .val (.ref b338), .val (.ref b376)] [(.int (2 : Int32)), (.ref b338)])) _
          refine X442.laload hx (j := (2 : Int32)) (v := (.long ((own_upd (own_g4 q4 q5 v336 v337) v186 q1) 2))) (by rw [e444]; exact Ar447.1) (State.isArrayOf_alike hZ.alike Ar447.2.1) Ar447.2.2 hin447 hat447 (g := (mkF m 287 #[.val (.int p0), .val (.long q1), .second, .val (.long q2), .second, .val (.long q3), .second, .val (.long q4), .second, .val (.long q5), .second, .val (.int (1 : Int32)), .val (.int v186), .val (.int v187), .val (.int v188), .val (.ref b314), .val (.ref b324), .val (.long q4), .second, .val (.long q5), .second, .val (.long v336), .second, .val (.long v337), .second, .val (.ref b338), .val (.ref b376)] [(.int (2 : Int32)), (.ref b338)])) rfl rfl (hb hby at_287) _ ?_
          show Steps p.tables e below (T442.setTop (mkF m 288 #[.val (.int p0), .val (.long q1), .second, .val (.long q2), .second, .val (.long q3), .second, .val (.long q4), .second, .val (.long q5), .second, .val (.int (1 : Int32)), .val (.int v186), .val (.int v187), .val (.int v188), .val (.ref b314), .val (.ref b324), .val (.long q4), .second, .val (.long q5), .second, .val (.long v336), .second, .val (.long v337), .second, .val (.ref b338), .val (.ref b376)] [(.long ((own_upd (own_g4 q4 q5 v336 v337) v186 q1) 2))])) _
          refine XS.iconst X442.here hx rfl (hb hby at_288) ?_
          show Steps p.tables e below (T442.setTop (mkF m 289 #[.val (.int p0), .val (.long q1), .second, .val (.long q2), .second, .val (.long q3), .second, .val (.long q4), .second, .val (.long q5), .second, .val (.int (1 : Int32)), .val (.int v186), .val (.int v187), .val (.int v188), .val (.ref b314), .val (.ref b324), .val (.long q4), .second, .val (.long q5), .second, .val (.long v336), .second, .val (.long v337), .second, .val (.ref b338), .val (.ref b376)] [(.int (2 : Int32)), (.long ((own_upd (own_g4 q4 q5 v336 v337) v186 q1) 2))])) _
          refine XS.iload X442.here hx rfl (hb hby at_289) rfl ?_
          show Steps p.tables e below (T442.setTop (mkF m 291 #[.val (.int p0), .val (.long q1), .second, .val (.long q2), .second, .val (.long q3), .second, .val (.long q4), .second, .val (.long q5), .second, .val (.int (1 : Int32)), .val (.int v186), .val (.int v187), .val (.int v188), .val (.ref b314), .val (.ref b324), .val (.long q4), .second, .val (.long q5), .second, .val (.long v336), .second, .val (.long v337), .second, .val (.ref b338), .val (.ref b376)] [(.int (1 : Int32)), (.int (2 : Int32)), (.long ((own_upd (own_g4 q4 q5 v336 v337) v186 q1) 2))])) _
          refine XS.iload X442.here hx rfl (hb hby at_291) rfl ?_
          show Steps p.tables e below (T442.setTop (mkF m 293 #[.val (.int p0), .val (.long q1), .second, .val (.long q2), .second, .val (.long q3), .second, .val (.long q4), .second, .val (.long q5), .second, .val (.int (1 : Int32)), .val (.int v186), .val (.int v187), .val (.int v188), .val (.ref b314), .val (.ref b324), .val (.long q4), .second, .val (.long q5), .second, .val (.long v336), .second, .val (.long v337), .second, .val (.ref b338), .val (.ref b376)] [(.int v186), (.int (1 : Int32)), (.int (2 : Int32)), (.long ((own_upd (own_g4 q4 q5 v336 v337) v186 q1) 2))])) _
          refine XS.iload X442.here hx rfl (hb hby at_293) rfl ?_
          show Steps p.tables e below (T442.setTop (mkF m 295 #[.val (.int p0), .val (.long q1), .second, .val (.long q2), .second, .val (.long q3), .second, .val (.long q4), .second, .val (.long q5), .second, .val (.int (1 : Int32)), .val (.int v186), .val (.int v187), .val (.int v188), .val (.ref b314), .val (.ref b324), .val (.long q4), .second, .val (.long q5), .second, .val (.long v336), .second, .val (.long v337), .second, .val (.ref b338), .val (.ref b376)] [(.int v187), (.int v186), (.int (1 : Int32)), (.int (2 : Int32)), (.long ((own_upd (own_g4 q4 q5 v336 v337) v186 q1) 2))])) _
          refine XS.iload X442.here hx rfl (hb hby at_295) rfl ?_
          show Steps p.tables e below (T442.setTop (mkF m 297 #[.val (.int p0), .val (.long q1), .second, .val (.long q2), .second, .val (.long q3), .second, .val (.long q4), .second, .val (.long q5), .second, .val (.int (1 : Int32)), .val (.int v186), .val (.int v187), .val (.int v188), .val (.ref b314), .val (.ref b324), .val (.long q4), .second, .val (.long q5), .second, .val (.long v336), .second, .val (.long v337), .second, .val (.ref b338), .val (.ref b376)] [(.int v188), (.int v187), (.int v186), (.int (1 : Int32)), (.int (2 : Int32)), (.long ((own_upd (own_g4 q4 q5 v336 v337) v186 q1) 2))])) _
          refine XS.lloadN X442.here hx rfl (hb hby at_297) rfl ?_
          show Steps p.tables e below (T442.setTop (mkF m 298 #[.val (.int p0), .val (.long q1), .second, .val (.long q2), .second, .val (.long q3), .second, .val (.long q4), .second, .val (.long q5), .second, .val (.int (1 : Int32)), .val (.int v186), .val (.int v187), .val (.int v188), .val (.ref b314), .val (.ref b324), .val (.long q4), .second, .val (.long q5), .second, .val (.long v336), .second, .val (.long v337), .second, .val (.ref b338), .val (.ref b376)] [(.long q1), (.int v188), (.int v187), (.int v186), (.int (1 : Int32)), (.int (2 : Int32)), (.long ((own_upd (own_g4 q4 q5 v336 v337) v186 q1) 2))])) _
          refine XS.lloadN X442.here hx rfl (hb hby at_298) rfl ?_
          show Steps p.tables e below (T442.setTop (mkF m 299 #[.val (.int p0), .val (.long q1), .second, .val (.long q2), .second, .val (.long q3), .second, .val (.long q4), .second, .val (.long q5), .second, .val (.int (1 : Int32)), .val (.int v186), .val (.int v187), .val (.int v188), .val (.ref b314), .val (.ref b324), .val (.long q4), .second, .val (.long q5), .second, .val (.long v336), .second, .val (.long v337), .second, .val (.ref b338), .val (.ref b376)] [(.long q2), (.long q1), (.int v188), (.int v187), (.int v186), (.int (1 : Int32)), (.int (2 : Int32)), (.long ((own_upd (own_g4 q4 q5 v336 v337) v186 q1) 2))])) _
          refine XS.lload X442.here hx rfl (hb hby at_299) rfl ?_
          show Steps p.tables e below (T442.setTop (mkF m 301 #[.val (.int p0), .val (.long q1), .second, .val (.long q2), .second, .val (.long q3), .second, .val (.long q4), .second, .val (.long q5), .second, .val (.int (1 : Int32)), .val (.int v186), .val (.int v187), .val (.int v188), .val (.ref b314), .val (.ref b324), .val (.long q4), .second, .val (.long q5), .second, .val (.long v336), .second, .val (.long v337), .second, .val (.ref b338), .val (.ref b376)] [(.long q3), (.long q2), (.long q1), (.int v188), (.int v187), (.int v186), (.int (1 : Int32)), (.int (2 : Int32)), (.long ((own_upd (own_g4 q4 q5 v336 v337) v186 q1) 2))])) _
          refine XS.lload X442.here hx rfl (hb hby at_301) rfl ?_
          show Steps p.tables e below (T442.setTop (mkF m 303 #[.val (.int p0), .val (.long q1), .second, .val (.long q2), .second, .val (.long q3), .second, .val (.long q4), .second, .val (.long q5), .second, .val (.int (1 : Int32)), .val (.int v186), .val (.int v187), .val (.int v188), .val (.ref b314), .val (.ref b324), .val (.long q4), .second, .val (.long q5), .second, .val (.long v336), .second, .val (.long v337), .second, .val (.ref b338), .val (.ref b376)] [(.long v336), (.long q3), (.long q2), (.long q1), (.int v188), (.int v187), (.int v186), (.int (1 : Int32)), (.int (2 : Int32)), (.long ((own_upd (own_g4 q4 q5 v336 v337) v186 q1) 2))])) _
          refine st448 _ ?_
          show Steps p.tables e below (T448.setTop (mkF m 306 #[.val (.int p0), .val (.long q1), .second, .val (.long q2), .second, .val (.long q3), .second, .val (.long q4), .second, .val (.long q5), .second, .val (.int (1 : Int32)), .val (.int v186), .val (.int v187), .val (.int v188), .val (.ref b314), .val (.ref b324), .val (.long q4), .second, .val (.long q5), .second, .val (.long v336), .second, .val (.long v337), .second, .val (.ref b338), .val (.ref b376)] [(.long (own_f5 (2 : Int32) (1 : Int32) v186 v187 v188 q1 q2 q3 v336)), (.long ((own_upd (own_g4 q4 q5 v336 v337) v186 q1) 2))])) _
          refine XS.lcmp X448.here hx rfl (hb hby at_306) rfl ?_
          show Steps p.tables e below (T448.setTop (mkF m 307 #[.val (.int p0), .val (.long q1), .second, .val (.long q2), .second, .val (.long q3), .second, .val (.long q4), .second, .val (.long q5), .second, .val (.int (1 : Int32)), .val (.int v186), .val (.int v187), .val (.int v188), .val (.ref b314), .val (.ref b324), .val (.long q4), .second, .val (.long q5), .second, .val (.long v336), .second, .val (.long v337), .second, .val (.ref b338), .val (.ref b376)] [(.int (lcmpW ((own_upd (own_g4 q4 q5 v336 v337) v186 q1) 2) (own_f5 (2 : Int32) (1 : Int32) v186 v187 v188 q1 q2 q3 v336)))])) _
          exact kk)
        by_cases hc452 : ((own_upd (own_g4 q4 q5 v336 v337) v186 q1) 2) = (own_f5 (2 : Int32) (1 : Int32) v186 v187 v188 q1 q2 q3 v336)
        · obtain ⟨cl453, Ar453, q453, S453, M453, H453, G453⟩ := id f424
          have hin453 : ¬ ((3 : Int32) < 0 ∨ cl453.slots.size ≤ ((3 : Int32)).toNatClampNeg) := inb_of S453 ⟨by decide, by decide⟩
          have hat453 : cl453.slots[((3 : Int32)).toNatClampNeg]? = some (.long ((own_upd (own_g4 q4 q5 v336 v337) v186 q1) 3)) := H453.at hin453 rfl
          obtain ⟨_, _, ⟨T454, L454, k454, n454⟩, -, X454, ⟨Lc454, hQ454, l454, y454, z454⟩, st454⟩ := Jvm.LawKit.callS X448 hx (y := (⟨"com/example/thyme/thyme/engine/RestartWritePinLaw", "expect", "(IIIIIJJJJ)J"⟩ : MethodName)) hown (mvT hZ (hw _ (List.mem_of_getElem? (i := 28) rfl))) (mvT hZ (hw _ (List.mem_of_getElem? (i := 29) rfl))) (mvT hZ (hw _ (List.mem_of_getElem? (i := 30) rfl))) (mvT hZ (hw _ (List.mem_of_getElem? (i := 31) rfl))) (by decide) (backOf (W := 2) (own_rm5 l Z av hw [] (3 : Int32) (1 : Int32) v186 v187 v188 q1 q2 q3 v337 T421.heap n0 z433 ) hZ (hw _ (List.mem_of_getElem? (i := 31) rfl)) (hw _ (List.mem_of_getElem? (i := 30) rfl)) (by decide) (by decide)) (g := (mkF m 329 #[.val (.int p0), .val (.long q1), .second, .val (.long q2), .second, .val (.long q3), .second, .val (.long q4), .second, .val (.long q5), .second, .val (.int (1 : Int32)), .val (.int v186), .val (.int v187), .val (.int v188), .val (.ref b314), .val (.ref b324), .val (.long q4), .second, .val (.long q5), .second, .val (.long v336), .second, .val (.long v337), .second, .val (.ref b338), .val (.ref b376)] [(.long v337), (.long q3), (.long q2), (.long q1), (.int v188), (.int v187), (.int v186), (.int (1 : Int32)), (.int (3 : Int32)), (.long ((own_upd (own_g4 q4 q5 v336 v337) v186 q1) 3))])) rfl (by rw [hml]; rfl) (argsL := [(.int (3 : Int32)), (.int (1 : Int32)), (.int v186), (.int v187), (.int v188), (.long q1), (.long q2), (.long q3), (.long v337)]) (rest := [(.long ((own_upd (own_g4 q4 q5 v336 v337) v186 q1) 3))]) (lenOf own_pd3 rfl) rfl (by show 2 * 0 + _ ≤ _; exact Nat.le_of_eq rfl) (hb hby at_329) (fun _ _ => ⟨rfl, e450, (by decide : 5 + 0 ≤ _), (by decide : 10 + 0 ≤ _)⟩)
          dsimp only [Pt.U, Pt.locs, Pt.cells, Pt.slots] at X454 l454 y454 z454 st454 hQ454
          subst l454 y454 z454
          obtain ⟨rfl, N454q, e456⟩ := hQ454
          have N455 := Fr.app N449 N454q
          have pre457 : ∀ t, Steps p.tables e below (T454.setTop (mkF m 333 #[.val (.int p0), .val (.long q1), .second, .val (.long q2), .second, .val (.long q3), .second, .val (.long q4), .second, .val (.long q5), .second, .val (.int (1 : Int32)), .val (.int v186), .val (.int v187), .val (.int v188), .val (.ref b314), .val (.ref b324), .val (.long q4), .second, .val (.long q5), .second, .val (.long v336), .second, .val (.long v337), .second, .val (.ref b338), .val (.ref b376)] [(.int (lcmpW ((own_upd (own_g4 q4 q5 v336 v337) v186 q1) 3) (own_f5 (3 : Int32) (1 : Int32) v186 v187 v188 q1 q2 q3 v337)))])) t → Steps p.tables e below (s₁.setTop (entryFrame m #[(.int p0), (.long q1), (.long q2), (.long q3), (.long q4), (.long q5)] maxLocals)) t := fun t kk => pre451 t (by
            show Steps p.tables e below (T448.setTop (mkF m 307 #[.val (.int p0), .val (.long q1), .second, .val (.long q2), .second, .val (.long q3), .second, .val (.long q4), .second, .val (.long q5), .second, .val (.int (1 : Int32)), .val (.int v186), .val (.int v187), .val (.int v188), .val (.ref b314), .val (.ref b324), .val (.long q4), .second, .val (.long q5), .second, .val (.long v336), .second, .val (.long v337), .second, .val (.ref b338), .val (.ref b376)] [(.int (lcmpW ((own_upd (own_g4 q4 q5 v336 v337) v186 q1) 2) (own_f5 (2 : Int32) (1 : Int32) v186 v187 v188 q1 q2 q3 v336)))])) _
            refine XS.ifNo X448.here hx rfl (hb hby at_307) rfl ((if0 _ _).trans (teq ((lw_eq ((own_upd (own_g4 q4 q5 v336 v337) v186 q1) 2) (own_f5 (2 : Int32) (1 : Int32) v186 v187 v188 q1 q2 q3 v336)).mpr hc452)).2) ?_
            show Steps p.tables e below (T448.setTop (mkF m 310 #[.val (.int p0), .val (.long q1), .second, .val (.long q2), .second, .val (.long q3), .second, .val (.long q4), .second, .val (.long q5), .second, .val (.int (1 : Int32)), .val (.int v186), .val (.int v187), .val (.int v188), .val (.ref b314), .val (.ref b324), .val (.long q4), .second, .val (.long q5), .second, .val (.long v336), .second, .val (.long v337), .second, .val (.ref b338), .val (.ref b376)] [])) _
            refine XS.aload X448.here hx rfl (hb hby at_310) rfl rfl ?_
            show Steps p.tables e below (T448.setTop (mkF m 312 #[.val (.int p0), .val (.long q1), .second, .val (.long q2), .second, .val (.long q3), .second, .val (.long q4), .second, .val (.long q5), .second, .val (.int (1 : Int32)), .val (.int v186), .val (.int v187), .val (.int v188), .val (.ref b314), .val (.ref b324), .val (.long q4), .second, .val (.long q5), .second, .val (.long v336), .second, .val (.long v337), .second, .val (.ref b338), .val (.ref b376)] [(.ref b338)])) _
            refine XS.iconst X448.here hx rfl (hb hby at_312) ?_
            show Steps p.tables e below (T448.setTop (mkF m 313 #[.val (.int p0), .val (.long q1), .second, .val (.long q2), .second, .val (.long q3), .second, .val (.long q4), .second, .val (.long q5), .second, .val (.int (1 : Int32)), .val (.int v186), .val (.int v187), .val (.int v188), .val (.ref b314), .val (.ref b324), .val (.long q4), .second, .val (.long q5), .second, .val (.long v336), .second, .val (.long v337), .second, .val (.ref b338), .val (.ref b376)] [(.int (3 : Int32)), (.ref b338)])) _
            refine X448.laload hx (j := (3 : Int32)) (v := (.long ((own_upd (own_g4 q4 q5 v336 v337) v186 q1) 3))) (by rw [e450]; exact Ar453.1) (State.isArrayOf_alike hZ.alike Ar453.2.1) Ar453.2.2 hin453 hat453 (g := (mkF m 313 #[.val (.int p0), .val (.long q1), .second, .val (.long q2), .second, .val (.long q3), .second, .val (.long q4), .second, .val (.long q5), .second, .val (.int (1 : Int32)), .val (.int v186), .val (.int v187), .val (.int v188), .val (.ref b314), .val (.ref b324), .val (.long q4), .second, .val (.long q5), .second, .val (.long v336), .second, .val (.long v337), .second, .val (.ref b338), .val (.ref b376)] [(.int (3 : Int32)), (.ref b338)])) rfl rfl (hb hby at_313) _ ?_
            show Steps p.tables e below (T448.setTop (mkF m 314 #[.val (.int p0), .val (.long q1), .second, .val (.long q2), .second, .val (.long q3), .second, .val (.long q4), .second, .val (.long q5), .second, .val (.int (1 : Int32)), .val (.int v186), .val (.int v187), .val (.int v188), .val (.ref b314), .val (.ref b324), .val (.long q4), .second, .val (.long q5), .second, .val (.long v336), .second, .val (.long v337), .second, .val (.ref b338), .val (.ref b376)] [(.long ((own_upd (own_g4 q4 q5 v336 v337) v186 q1) 3))])) _
            refine XS.iconst X448.here hx rfl (hb hby at_314) ?_
            show Steps p.tables e below (T448.setTop (mkF m 315 #[.val (.int p0), .val (.long q1), .second, .val (.long q2), .second, .val (.long q3), .second, .val (.long q4), .second, .val (.long q5), .second, .val (.int (1 : Int32)), .val (.int v186), .val (.int v187), .val (.int v188), .val (.ref b314), .val (.ref b324), .val (.long q4), .second, .val (.long q5), .second, .val (.long v336), .second, .val (.long v337), .second, .val (.ref b338), .val (.ref b376)] [(.int (3 : Int32)), (.long ((own_upd (own_g4 q4 q5 v336 v337) v186 q1) 3))])) _
            refine XS.iload X448.here hx rfl (hb hby at_315) rfl ?_
            show Steps p.tables e below (T448.setTop (mkF m 317 #[.val (.int p0), .val (.long q1), .second, .val (.long q2), .second, .val (.long q3), .second, .val (.long q4), .second, .val (.long q5), .second, .val (.int (1 : Int32)), .val (.int v186), .val (.int v187), .val (.int v188), .val (.ref b314), .val (.ref b324), .val (.long q4), .second, .val (.long q5), .second, .val (.long v336), .second, .val (.long v337), .second, .val (.ref b338), .val (.ref b376)] [(.int (1 : Int32)), (.int (3 : Int32)), (.long ((own_upd (own_g4 q4 q5 v336 v337) v186 q1) 3))])) _
            refine XS.iload X448.here hx rfl (hb hby at_317) rfl ?_
            show Steps p.tables e below (T448.setTop (mkF m 319 #[.val (.int p0), .val (.long q1), .second, .val (.long q2), .second, .val (.long q3), .second, .val (.long q4), .second, .val (.long q5), .second, .val (.int (1 : Int32)), .val (.int v186), .val (.int v187), .val (.int v188), .val (.ref b314), .val (.ref b324), .val (.long q4), .second, .val (.long q5), .second, .val (.long v336), .second, .val (.long v337), .second, .val (.ref b338), .val (.ref b376)] [(.int v186), (.int (1 : Int32)), (.int (3 : Int32)), (.long ((own_upd (own_g4 q4 q5 v336 v337) v186 q1) 3))])) _
            refine XS.iload X448.here hx rfl (hb hby at_319) rfl ?_
            show Steps p.tables e below (T448.setTop (mkF m 321 #[.val (.int p0), .val (.long q1), .second, .val (.long q2), .second, .val (.long q3), .second, .val (.long q4), .second, .val (.long q5), .second, .val (.int (1 : Int32)), .val (.int v186), .val (.int v187), .val (.int v188), .val (.ref b314), .val (.ref b324), .val (.long q4), .second, .val (.long q5), .second, .val (.long v336), .second, .val (.long v337), .second, .val (.ref b338), .val (.ref b376)] [(.int v187), (.int v186), (.int (1 : Int32)), (.int (3 : Int32)), (.long ((own_upd (own_g4 q4 q5 v336 v337) v186 q1) 3))])) _
            refine XS.iload X448.here hx rfl (hb hby at_321) rfl ?_
            show Steps p.tables e below (T448.setTop (mkF m 323 #[.val (.int p0), .val (.long q1), .second, .val (.long q2), .second, .val (.long q3), .second, .val (.long q4), .second, .val (.long q5), .second, .val (.int (1 : Int32)), .val (.int v186), .val (.int v187), .val (.int v188), .val (.ref b314), .val (.ref b324), .val (.long q4), .second, .val (.long q5), .second, .val (.long v336), .second, .val (.long v337), .second, .val (.ref b338), .val (.ref b376)] [(.int v188), (.int v187), (.int v186), (.int (1 : Int32)), (.int (3 : Int32)), (.long ((own_upd (own_g4 q4 q5 v336 v337) v186 q1) 3))])) _
            refine XS.lloadN X448.here hx rfl (hb hby at_323) rfl ?_
            show Steps p.tables e below (T448.setTop (mkF m 324 #[.val (.int p0), .val (.long q1), .second, .val (.long q2), .second, .val (.long q3), .second, .val (.long q4), .second, .val (.long q5), .second, .val (.int (1 : Int32)), .val (.int v186), .val (.int v187), .val (.int v188), .val (.ref b314), .val (.ref b324), .val (.long q4), .second, .val (.long q5), .second, .val (.long v336), .second, .val (.long v337), .second, .val (.ref b338), .val (.ref b376)] [(.long q1), (.int v188), (.int v187), (.int v186), (.int (1 : Int32)), (.int (3 : Int32)), (.long ((own_upd (own_g4 q4 q5 v336 v337) v186 q1) 3))])) _
            refine XS.lloadN X448.here hx rfl (hb hby at_324) rfl ?_
            show Steps p.tables e below (T448.setTop (mkF m 325 #[.val (.int p0), .val (.long q1), .second, .val (.long q2), .second, .val (.long q3), .second, .val (.long q4), .second, .val (.long q5), .second, .val (.int (1 : Int32)), .val (.int v186), .val (.int v187), .val (.int v188), .val (.ref b314), .val (.ref b324), .val (.long q4), .second, .val (.long q5), .second, .val (.long v336), .second, .val (.long v337), .second, .val (.ref b338), .val (.ref b376)] [(.long q2), (.long q1), (.int v188), (.int v187), (.int v186), (.int (1 : Int32)), (.int (3 : Int32)), (.long ((own_upd (own_g4 q4 q5 v336 v337) v186 q1) 3))])) _
            refine XS.lload X448.here hx rfl (hb hby at_325) rfl ?_
            show Steps p.tables e below (T448.setTop (mkF m 327 #[.val (.int p0), .val (.long q1), .second, .val (.long q2), .second, .val (.long q3), .second, .val (.long q4), .second, .val (.long q5), .second, .val (.int (1 : Int32)), .val (.int v186), .val (.int v187), .val (.int v188), .val (.ref b314), .val (.ref b324), .val (.long q4), .second, .val (.long q5), .second, .val (.long v336), .second, .val (.long v337), .second, .val (.ref b338), .val (.ref b376)] [(.long q3), (.long q2), (.long q1), (.int v188), (.int v187), (.int v186), (.int (1 : Int32)), (.int (3 : Int32)), (.long ((own_upd (own_g4 q4 q5 v336 v337) v186 q1) 3))])) _
            refine XS.lload X448.here hx rfl (hb hby at_327) rfl ?_
            show Steps p.tables e below (T448.setTop (mkF m 329 #[.val (.int p0), .val (.long q1), .second, .val (.long q2), .second, .val (.long q3), .second, .val (.long q4), .second, .val (.long q5), .second, .val (.int (1 : Int32)), .val (.int v186), .val (.int v187), .val (.int v188), .val (.ref b314), .val (.ref b324), .val (.long q4), .second, .val (.long q5), .second, .val (.long v336), .second, .val (.long v337), .second, .val (.ref b338), .val (.ref b376)] [(.long v337), (.long q3), (.long q2), (.long q1), (.int v188), (.int v187), (.int v186), (.int (1 : Int32)), (.int (3 : Int32)), (.long ((own_upd (own_g4 q4 q5 v336 v337) v186 q1) 3))])) _
            refine st454 _ ?_
            show Steps p.tables e below (T454.setTop (mkF m 332 #[.val (.int p0), .val (.long q1), .second, .val (.long q2), .second, .val (.long q3), .second, .val (.long q4), .second, .val (.long q5), .second, .val (.int (1 : Int32)), .val (.int v186), .val (.int v187), .val (.int v188), .val (.ref b314), .val (.ref b324), .val (.long q4), .second, .val (.long q5), .second, .val (.long v336), .second, .val (.long v337), .second, .val (.ref b338), .val (.ref b376)] [(.long (own_f5 (3 : Int32) (1 : Int32) v186 v187 v188 q1 q2 q3 v337)), (.long ((own_upd (own_g4 q4 q5 v336 v337) v186 q1) 3))])) _
            refine XS.lcmp X454.here hx rfl (hb hby at_332) rfl ?_
            show Steps p.tables e below (T454.setTop (mkF m 333 #[.val (.int p0), .val (.long q1), .second, .val (.long q2), .second, .val (.long q3), .second, .val (.long q4), .second, .val (.long q5), .second, .val (.int (1 : Int32)), .val (.int v186), .val (.int v187), .val (.int v188), .val (.ref b314), .val (.ref b324), .val (.long q4), .second, .val (.long q5), .second, .val (.long v336), .second, .val (.long v337), .second, .val (.ref b338), .val (.ref b376)] [(.int (lcmpW ((own_upd (own_g4 q4 q5 v336 v337) v186 q1) 3) (own_f5 (3 : Int32) (1 : Int32) v186 v187 v188 q1 q2 q3 v337)))])) _
            exact kk)
          by_cases hc458 : ((own_upd (own_g4 q4 q5 v336 v337) v186 q1) 3) = (own_f5 (3 : Int32) (1 : Int32) v186 v187 v188 q1 q2 q3 v337)
          · obtain ⟨fs, hr, hrun, hended, hW, hsame⟩ := X454.leave (v := some (.int (1 : Int32))) (fun h => by rw [Bd.returns] at h; cases h)
            refine ⟨_, _, pre457 _ ?_, hrun, hended, _, _, rfl, ?_, ⟨_, rfl⟩, hW, hsame.mono (by decide) (by decide)⟩
            · show Steps p.tables e below (T454.setTop (mkF m 333 #[.val (.int p0), .val (.long q1), .second, .val (.long q2), .second, .val (.long q3), .second, .val (.long q4), .second, .val (.long q5), .second, .val (.int (1 : Int32)), .val (.int v186), .val (.int v187), .val (.int v188), .val (.ref b314), .val (.ref b324), .val (.long q4), .second, .val (.long q5), .second, .val (.long v336), .second, .val (.long v337), .second, .val (.ref b338), .val (.ref b376)] [(.int (lcmpW ((own_upd (own_g4 q4 q5 v336 v337) v186 q1) 3) (own_f5 (3 : Int32) (1 : Int32) v186 v187 v188 q1 q2 q3 v337)))])) _
              refine XS.ifNo X454.here hx rfl (hb hby at_333) rfl ((if0 _ _).trans (teq ((lw_eq ((own_upd (own_g4 q4 q5 v336 v337) v186 q1) 3) (own_f5 (3 : Int32) (1 : Int32) v186 v187 v188 q1 q2 q3 v337)).mpr hc458)).2) ?_
              show Steps p.tables e below (T454.setTop (mkF m 336 #[.val (.int p0), .val (.long q1), .second, .val (.long q2), .second, .val (.long q3), .second, .val (.long q4), .second, .val (.long q5), .second, .val (.int (1 : Int32)), .val (.int v186), .val (.int v187), .val (.int v188), .val (.ref b314), .val (.ref b324), .val (.long q4), .second, .val (.long q5), .second, .val (.long v336), .second, .val (.long v337), .second, .val (.ref b338), .val (.ref b376)] [])) _
              refine XS.iconst X454.here hx rfl (hb hby at_336) ?_
              show Steps p.tables e below (T454.setTop (mkF m 337 #[.val (.int p0), .val (.long q1), .second, .val (.long q2), .second, .val (.long q3), .second, .val (.long q4), .second, .val (.long q5), .second, .val (.int (1 : Int32)), .val (.int v186), .val (.int v187), .val (.int v188), .val (.ref b314), .val (.ref b324), .val (.long q4), .second, .val (.long q5), .second, .val (.long v336), .second, .val (.long v337), .second, .val (.ref b338), .val (.ref b376)] [(.int (1 : Int32))])) _
              refine XS.goto X454.here hx rfl (pc0 := 337) (pc' := 341) rfl (hb hby at_337) (by decide) (by decide) ?_
              show Steps p.tables e below (T454.setTop (mkF m 341 #[.val (.int p0), .val (.long q1), .second, .val (.long q2), .second, .val (.long q3), .second, .val (.long q4), .second, .val (.long q5), .second, .val (.int (1 : Int32)), .val (.int v186), .val (.int v187), .val (.int v188), .val (.ref b314), .val (.ref b324), .val (.long q4), .second, .val (.long q5), .second, .val (.long v336), .second, .val (.long v337), .second, .val (.ref b338), .val (.ref b376)] [(.int (1 : Int32))])) _
              exact retN X454 hx (t := .boolean) Bd.returns (by simp) (hb hby at_341) hr
            · show own_Q0 Z p0 q1 q2 q3 q4 q5 h0 n0 _ T454.heap _
              rw [e456]
              exact ⟨rfl, N455⟩
          · exact (own_leaf0_7 p0 q1 q2 q3 q4 q5 hv185 v186 hv186 v187 hv187 v188 hv188 v336 hv336 v337 hv337 hc440 hc446 hc452 hc458).elim
        · exact (own_leaf0_8 p0 q1 q2 q3 q4 q5 hv185 v186 hv186 v187 hv187 v188 hv188 v336 hv336 v337 hv337 hc440 hc446 hc452).elim
      · exact (own_leaf0_9 p0 q1 q2 q3 q4 q5 hv185 v186 hv186 v187 hv187 v188 hv188 v336 hv336 v337 hv337 hc440 hc446).elim
    · exact (own_leaf0_10 p0 q1 q2 q3 q4 q5 hv185 v186 hv186 v187 hv187 v188 hv188 v336 hv336 v337 hv337 hc440).elim
  · subst hs191
    obtain ⟨T459, h459, k459, X459, e459, E459, A459, st459⟩ := newP X0 hx hZ (hw _ (List.mem_of_getElem? (i := 0) rfl)) e0 (g := (mkF m 80 #[.val (.int p0), .val (.long q1), .second, .val (.long q2), .second, .val (.long q3), .second, .val (.long q4), .second, .val (.long q5), .second, .val (.int (2 : Int32)), .val (.int v186), .val (.int v187), .val (.int v188), .unset, .unset, .unset, .unset, .unset, .unset, .unset, .unset, .unset, .unset, .unset, .unset] [(.int (2 : Int32))])) rfl (hb hby at_80) rfl (by decide) (cap := 2) (by decide) (by decide) (by decide) (by decide)
    obtain ⟨b459, g459⟩ : ∃ z, z = h0.size := ⟨_, rfl⟩
    have g_b459 : n0 ≤ b459 := Nat.le_trans Z0 (Nat.le_of_eq g459.symm)
    have sz_b459 : h0.size ≤ b459 := Nat.le_trans (Keep.refl h0 []).1 (Nat.le_of_eq g459.symm)
    rw [← g459] at A459 st459
    have z460 : n0 ≤ h459.size := Nat.le_trans Z0 E459.1
    have K461 : Keep h0 h459 [] := (Keep.refl h0 []).ext E459
    have f462 : Arv Z h459 b459 k459 .int (2 : Int32) [(.int (0 : Int32)), (.int (0 : Int32))] (.int (0 : Int32)) := (Arv.new A459 (by decide)).pad (pad_rep [] (.int (0 : Int32)) 2)
    obtain ⟨cl463, Ar463, q463, S463, M463, H463, G463⟩ := id f462
    have hin463 : ¬ ((0 : Int32) < 0 ∨ cl463.slots.size ≤ ((0 : Int32)).toNatClampNeg) := inb_of S463 ⟨by decide, by decide⟩
    obtain ⟨T464, h464, X464, e464, W464, st464⟩ := stI X459 hx hZ e459 Ar463 (j := (0 : Int32)) hin463 (g := (mkF m 86 #[.val (.int p0), .val (.long q1), .second, .val (.long q2), .second, .val (.long q3), .second, .val (.long q4), .second, .val (.long q5), .second, .val (.int (2 : Int32)), .val (.int v186), .val (.int v187), .val (.int v188), .unset, .unset, .unset, .unset, .unset, .unset, .unset, .unset, .unset, .unset, .unset, .unset] [(.int v186), (.int (0 : Int32)), (.ref b459), (.ref b459)])) rfl rfl (hb hby at_86)
    have K465 : Keep h0 h464 [] := K461.wr W464 (Or.inr sz_b459)
    have z466 : n0 ≤ h464.size := Nat.le_trans z460 (Keep.of_wr W464).1
    have N467 := Fr.snoc X464 N0 g_b459
    have f468 : Arv Z h464 b459 k459 .int (2 : Int32) [(.int v186), (.int (0 : Int32))] (.int (0 : Int32)) := Arv.set Ar463 q463 S463 M463 H463 G463 rfl W464 0 rfl (Nat.le_of_ble_eq_true rfl)
    obtain ⟨cl469, Ar469, q469, S469, M469, H469, G469⟩ := id f468
    have hin469 : ¬ ((1 : Int32) < 0 ∨ cl469.slots.size ≤ ((1 : Int32)).toNatClampNeg) := inb_of S469 ⟨by decide, by decide⟩
    obtain ⟨T470, h470, X470, e470, W470, st470⟩ := stI X464 hx hZ e464 Ar469 (j := (1 : Int32)) hin469 (g := (mkF m 91 #[.val (.int p0), .val (.long q1), .second, .val (.long q2), .second, .val (.long q3), .second, .val (.long q4), .second, .val (.long q5), .second, .val (.int (2 : Int32)), .val (.int v186), .val (.int v187), .val (.int v188), .unset, .unset, .unset, .unset, .unset, .unset, .unset, .unset, .unset, .unset, .unset, .unset] [(.int v187), (.int (1 : Int32)), (.ref b459), (.ref b459)])) rfl rfl (hb hby at_91)
    have K471 : Keep h0 h470 [] := K465.wr W470 (Or.inr sz_b459)
    have z472 : n0 ≤ h470.size := Nat.le_trans z466 (Keep.of_wr W470).1
    have N473 := Fr.snoc X470 N467 g_b459
    have f474 : Arv Z h470 b459 k459 .int (2 : Int32) [(.int v186), (.int v187)] (.int (0 : Int32)) := Arv.set Ar469 q469 S469 M469 H469 G469 rfl W470 1 rfl (Nat.le_of_ble_eq_true rfl)
    obtain ⟨T475, h475, k475, X475, e475, E475, A475, st475⟩ := newP X470 hx hZ (hw _ (List.mem_of_getElem? (i := 1) rfl)) e470 (g := (mkF m 95 #[.val (.int p0), .val (.long q1), .second, .val (.long q2), .second, .val (.long q3), .second, .val (.long q4), .second, .val (.long q5), .second, .val (.int (2 : Int32)), .val (.int v186), .val (.int v187), .val (.int v188), .val (.ref b459), .unset, .unset, .unset, .unset, .unset, .unset, .unset, .unset, .unset, .unset, .unset] [(.int (2 : Int32))])) rfl (hb hby at_95) rfl (by decide) (cap := 2) (by decide) (by decide) (by decide) (by decide)
    obtain ⟨b475, g475⟩ : ∃ z, z = h470.size := ⟨_, rfl⟩
    have ne_b459_b475 : b459 ≠ b475 := Nat.ne_of_lt (Nat.lt_of_lt_of_le f474.lt (Nat.le_of_eq g475.symm))
    have g_b475 : n0 ≤ b475 := Nat.le_trans z472 (Nat.le_of_eq g475.symm)
    have sz_b475 : h0.size ≤ b475 := Nat.le_trans K471.1 (Nat.le_of_eq g475.symm)
    rw [← g475] at A475 st475
    have f476 := f474.ext E475
    have z477 : n0 ≤ h475.size := Nat.le_trans z472 E475.1
    have K478 : Keep h0 h475 [] := K471.ext E475
    have f479 : Arv Z h475 b475 k475 .long (2 : Int32) [(.long (0 : Int64)), (.long (0 : Int64))] (.long (0 : Int64)) := (Arv.new A475 (by decide)).pad (pad_rep [] (.long (0 : Int64)) 2)
    obtain ⟨cl480, Ar480, q480, S480, M480, H480, G480⟩ := id f479
    have hin480 : ¬ ((0 : Int32) < 0 ∨ cl480.slots.size ≤ ((0 : Int32)).toNatClampNeg) := inb_of S480 ⟨by decide, by decide⟩
    obtain ⟨T481, h481, X481, e481, W481, st481⟩ := stJ X475 hx hZ e475 Ar480 (j := (0 : Int32)) hin480 (g := (mkF m 100 #[.val (.int p0), .val (.long q1), .second, .val (.long q2), .second, .val (.long q3), .second, .val (.long q4), .second, .val (.long q5), .second, .val (.int (2 : Int32)), .val (.int v186), .val (.int v187), .val (.int v188), .val (.ref b459), .unset, .unset, .unset, .unset, .unset, .unset, .unset, .unset, .unset, .unset, .unset] [(.long q1), (.int (0 : Int32)), (.ref b475), (.ref b475)])) rfl rfl (hb hby at_100)
    have f482 := f476.other W481 ne_b459_b475
    have K483 : Keep h0 h481 [] := K478.wr W481 (Or.inr sz_b475)
    have z484 : n0 ≤ h481.size := Nat.le_trans z477 (Keep.of_wr W481).1
    have N485 := Fr.snoc X481 N473 g_b475
    have f486 : Arv Z h481 b475 k475 .long (2 : Int32) [(.long q1), (.long (0 : Int64))] (.long (0 : Int64)) := Arv.set Ar480 q480 S480 M480 H480 G480 rfl W481 0 rfl (Nat.le_of_ble_eq_true rfl)
    obtain ⟨cl487, Ar487, q487, S487, M487, H487, G487⟩ := id f486
    have hin487 : ¬ ((1 : Int32) < 0 ∨ cl487.slots.size ≤ ((1 : Int32)).toNatClampNeg) := inb_of S487 ⟨by decide, by decide⟩
    obtain ⟨T488, h488, X488, e488, W488, st488⟩ := stJ X481 hx hZ e481 Ar487 (j := (1 : Int32)) hin487 (g := (mkF m 104 #[.val (.int p0), .val (.long q1), .second, .val (.long q2), .second, .val (.long q3), .second, .val (.long q4), .second, .val (.long q5), .second, .val (.int (2 : Int32)), .val (.int v186), .val (.int v187), .val (.int v188), .val (.ref b459), .unset, .unset, .unset, .unset, .unset, .unset, .unset, .unset, .unset, .unset, .unset] [(.long q2), (.int (1 : Int32)), (.ref b475), (.ref b475)])) rfl rfl (hb hby at_104)
    have f489 := f482.other W488 ne_b459_b475
    have K490 : Keep h0 h488 [] := K483.wr W488 (Or.inr sz_b475)
    have z491 : n0 ≤ h488.size := Nat.le_trans z484 (Keep.of_wr W488).1
    have N492 := Fr.snoc X488 N485 g_b475
    have f493 : Arv Z h488 b475 k475 .long (2 : Int32) [(.long q1), (.long q2)] (.long (0 : Int64)) := Arv.set Ar487 q487 S487 M487 H487 G487 rfl W488 1 rfl (Nat.le_of_ble_eq_true rfl)
    obtain ⟨v494, hv494⟩ : ∃ z : Int64, z = (q4 ^^^ (-1 : Int64)) := ⟨_, rfl⟩
    obtain ⟨v495, hv495⟩ : ∃ z : Int64, z = (q5 ^^^ (-1 : Int64)) := ⟨_, rfl⟩
    obtain ⟨T496, h496, k496, X496, e496, E496, A496, st496⟩ := newP X488 hx hZ (hw _ (List.mem_of_getElem? (i := 1) rfl)) e488 (g := (mkF m 173 #[.val (.int p0), .val (.long q1), .second, .val (.long q2), .second, .val (.long q3), .second, .val (.long q4), .second, .val (.long q5), .second, .val (.int (2 : Int32)), .val (.int v186), .val (.int v187), .val (.int v188), .val (.ref b459), .val (.ref b475), .val (.long q4), .second, .val (.long q5), .second, .val (.long v494), .second, .val (.long v495), .second, .unset, .unset] [(.int (4 : Int32))])) rfl (hb hby at_173) rfl (by decide) (cap := 4) (by decide) (by decide) (by decide) (by decide)
    obtain ⟨b496, g496⟩ : ∃ z, z = h488.size := ⟨_, rfl⟩
    have ne_b459_b496 : b459 ≠ b496 := Nat.ne_of_lt (Nat.lt_of_lt_of_le f489.lt (Nat.le_of_eq g496.symm))
    have ne_b475_b496 : b475 ≠ b496 := Nat.ne_of_lt (Nat.lt_of_lt_of_le f493.lt (Nat.le_of_eq g496.symm))
    have g_b496 : n0 ≤ b496 := Nat.le_trans z491 (Nat.le_of_eq g496.symm)
    have sz_b496 : h0.size ≤ b496 := Nat.le_trans K490.1 (Nat.le_of_eq g496.symm)
    rw [← g496] at A496 st496
    have f497 := f489.ext E496
    have f498 := f493.ext E496
    have z499 : n0 ≤ h496.size := Nat.le_trans z491 E496.1
    have K500 : Keep h0 h496 [] := K490.ext E496
    have f501 : Arv Z h496 b496 k496 .long (4 : Int32) [(.long (0 : Int64)), (.long (0 : Int64)), (.long (0 : Int64)), (.long (0 : Int64))] (.long (0 : Int64)) := (Arv.new A496 (by decide)).pad (pad_rep [] (.long (0 : Int64)) 4)
    obtain ⟨cl502, Ar502, q502, S502, M502, H502, G502⟩ := id f501
    have hin502 : ¬ ((0 : Int32) < 0 ∨ cl502.slots.size ≤ ((0 : Int32)).toNatClampNeg) := inb_of S502 ⟨by decide, by decide⟩
    obtain ⟨T503, h503, X503, e503, W503, st503⟩ := stJ X496 hx hZ e496 Ar502 (j := (0 : Int32)) hin502 (g := (mkF m 179 #[.val (.int p0), .val (.long q1), .second, .val (.long q2), .second, .val (.long q3), .second, .val (.long q4), .second, .val (.long q5), .second, .val (.int (2 : Int32)), .val (.int v186), .val (.int v187), .val (.int v188), .val (.ref b459), .val (.ref b475), .val (.long q4), .second, .val (.long q5), .second, .val (.long v494), .second, .val (.long v495), .second, .unset, .unset] [(.long q4), (.int (0 : Int32)), (.ref b496), (.ref b496)])) rfl rfl (hb hby at_179)
    have f504 := f497.other W503 ne_b459_b496
    have f505 := f498.other W503 ne_b475_b496
    have K506 : Keep h0 h503 [] := K500.wr W503 (Or.inr sz_b496)
    have z507 : n0 ≤ h503.size := Nat.le_trans z499 (Keep.of_wr W503).1
    have N508 := Fr.snoc X503 N492 g_b496
    have f509 : Arv Z h503 b496 k496 .long (4 : Int32) [(.long q4), (.long (0 : Int64)), (.long (0 : Int64)), (.long (0 : Int64))] (.long (0 : Int64)) := Arv.set Ar502 q502 S502 M502 H502 G502 rfl W503 0 rfl (Nat.le_of_ble_eq_true rfl)
    obtain ⟨cl510, Ar510, q510, S510, M510, H510, G510⟩ := id f509
    have hin510 : ¬ ((1 : Int32) < 0 ∨ cl510.slots.size ≤ ((1 : Int32)).toNatClampNeg) := inb_of S510 ⟨by decide, by decide⟩
    obtain ⟨T511, h511, X511, e511, W511, st511⟩ := stJ X503 hx hZ e503 Ar510 (j := (1 : Int32)) hin510 (g := (mkF m 184 #[.val (.int p0), .val (.long q1), .second, .val (.long q2), .second, .val (.long q3), .second, .val (.long q4), .second, .val (.long q5), .second, .val (.int (2 : Int32)), .val (.int v186), .val (.int v187), .val (.int v188), .val (.ref b459), .val (.ref b475), .val (.long q4), .second, .val (.long q5), .second, .val (.long v494), .second, .val (.long v495), .second, .unset, .unset] [(.long q5), (.int (1 : Int32)), (.ref b496), (.ref b496)])) rfl rfl (hb hby at_184)
    have f512 := f504.other W511 ne_b459_b496
    have f513 := f505.other W511 ne_b475_b496
    have K514 : Keep h0 h511 [] := K506.wr W511 (Or.inr sz_b496)
    have z515 : n0 ≤ h511.size := Nat.le_trans z507 (Keep.of_wr W511).1
    have N516 := Fr.snoc X511 N508 g_b496
    have f517 : Arv Z h511 b496 k496 .long (4 : Int32) [(.long q4), (.long q5), (.long (0 : Int64)), (.long (0 : Int64))] (.long (0 : Int64)) := Arv.set Ar510 q510 S510 M510 H510 G510 rfl W511 1 rfl (Nat.le_of_ble_eq_true rfl)
    obtain ⟨cl518, Ar518, q518, S518, M518, H518, G518⟩ := id f517
    have hin518 : ¬ ((2 : Int32) < 0 ∨ cl518.slots.size ≤ ((2 : Int32)).toNatClampNeg) := inb_of S518 ⟨by decide, by decide⟩
    obtain ⟨T519, h519, X519, e519, W519, st519⟩ := stJ X511 hx hZ e511 Ar518 (j := (2 : Int32)) hin518 (g := (mkF m 189 #[.val (.int p0), .val (.long q1), .second, .val (.long q2), .second, .val (.long q3), .second, .val (.long q4), .second, .val (.long q5), .second, .val (.int (2 : Int32)), .val (.int v186), .val (.int v187), .val (.int v188), .val (.ref b459), .val (.ref b475), .val (.long q4), .second, .val (.long q5), .second, .val (.long v494), .second, .val (.long v495), .second, .unset, .unset] [(.long v494), (.int (2 : Int32)), (.ref b496), (.ref b496)])) rfl rfl (hb hby at_189)
    have f520 := f512.other W519 ne_b459_b496
    have f521 := f513.other W519 ne_b475_b496
    have K522 : Keep h0 h519 [] := K514.wr W519 (Or.inr sz_b496)
    have z523 : n0 ≤ h519.size := Nat.le_trans z515 (Keep.of_wr W519).1
    have N524 := Fr.snoc X519 N516 g_b496
    have f525 : Arv Z h519 b496 k496 .long (4 : Int32) [(.long q4), (.long q5), (.long v494), (.long (0 : Int64))] (.long (0 : Int64)) := Arv.set Ar518 q518 S518 M518 H518 G518 rfl W519 2 rfl (Nat.le_of_ble_eq_true rfl)
    obtain ⟨cl526, Ar526, q526, S526, M526, H526, G526⟩ := id f525
    have hin526 : ¬ ((3 : Int32) < 0 ∨ cl526.slots.size ≤ ((3 : Int32)).toNatClampNeg) := inb_of S526 ⟨by decide, by decide⟩
    obtain ⟨T527, h527, X527, e527, W527, st527⟩ := stJ X519 hx hZ e519 Ar526 (j := (3 : Int32)) hin526 (g := (mkF m 194 #[.val (.int p0), .val (.long q1), .second, .val (.long q2), .second, .val (.long q3), .second, .val (.long q4), .second, .val (.long q5), .second, .val (.int (2 : Int32)), .val (.int v186), .val (.int v187), .val (.int v188), .val (.ref b459), .val (.ref b475), .val (.long q4), .second, .val (.long q5), .second, .val (.long v494), .second, .val (.long v495), .second, .unset, .unset] [(.long v495), (.int (3 : Int32)), (.ref b496), (.ref b496)])) rfl rfl (hb hby at_194)
    have f528 := f520.other W527 ne_b459_b496
    have f529 := f521.other W527 ne_b475_b496
    have K530 : Keep h0 h527 [] := K522.wr W527 (Or.inr sz_b496)
    have z531 : n0 ≤ h527.size := Nat.le_trans z523 (Keep.of_wr W527).1
    have N532 := Fr.snoc X527 N524 g_b496
    have f533 : Arv Z h527 b496 k496 .long (4 : Int32) [(.long q4), (.long q5), (.long v494), (.long v495)] (.long (0 : Int64)) := Arv.set Ar526 q526 S526 M526 H526 G526 rfl W527 3 rfl (Nat.le_of_ble_eq_true rfl)
    obtain ⟨T534, h534, X534, e534, E534, A534, D534, -, st534⟩ := newO X527 hx hZ hown (hw _ (List.mem_of_getElem? (i := 3) rfl)) (hw _ (List.mem_of_getElem? (i := 4) rfl)) (hw _ (List.mem_of_getElem? (i := 5) rfl)) e527 (g := (mkF m 197 #[.val (.int p0), .val (.long q1), .second, .val (.long q2), .second, .val (.long q3), .second, .val (.long q4), .second, .val (.long q5), .second, .val (.int (2 : Int32)), .val (.int v186), .val (.int v187), .val (.int v188), .val (.ref b459), .val (.ref b475), .val (.long q4), .second, .val (.long q5), .second, .val (.long v494), .second, .val (.long v495), .second, .val (.ref b496), .unset] [])) rfl (hb hby at_197) (by decide) (by decide)
    obtain ⟨b534, g534⟩ : ∃ z, z = h527.size := ⟨_, rfl⟩
    have ne_b459_b534 : b459 ≠ b534 := Nat.ne_of_lt (Nat.lt_of_lt_of_le f528.lt (Nat.le_of_eq g534.symm))
    have ne_b475_b534 : b475 ≠ b534 := Nat.ne_of_lt (Nat.lt_of_lt_of_le f529.lt (Nat.le_of_eq g534.symm))
    have ne_b496_b534 : b496 ≠ b534 := Nat.ne_of_lt (Nat.lt_of_lt_of_le f533.lt (Nat.le_of_eq g534.symm))
    have g_b534 : n0 ≤ b534 := Nat.le_trans z531 (Nat.le_of_eq g534.symm)
    have sz_b534 : h0.size ≤ b534 := Nat.le_trans K530.1 (Nat.le_of_eq g534.symm)
    rw [← g534] at A534 D534 st534
    have f535 := f528.ext E534
    have f536 := f529.ext E534
    have f537 := f533.ext E534
    have z538 : n0 ≤ h534.size := Nat.le_trans z531 E534.1
    have K539 : Keep h0 h534 [] := K530.ext E534
    have f540 : Fld Z h534 b534 "com/example/thyme/thyme/engine/Hierarchy$Restart" "slots" "[I" .null := D534 (Or.inr (hw _ (List.mem_of_getElem? (i := 18) rfl))) (ty := (.array .int)) (by decide)
    have f541 : Fld Z h534 b534 "com/example/thyme/thyme/engine/Hierarchy$Restart" "values" "[J" .null := D534 (Or.inr (hw _ (List.mem_of_getElem? (i := 20) rfl))) (ty := (.array .long)) (by decide)
    have f542 : Fld Z h534 b534 "com/example/thyme/thyme/engine/Hierarchy$Restart" "clocks" "[I" .null := D534 (Or.inr (hw _ (List.mem_of_getElem? (i := 22) rfl))) (ty := (.array .int)) (by decide)
    obtain ⟨T543, h543, k543, X543, e543, E543, A543, st543⟩ := newP X534 hx hZ (hw _ (List.mem_of_getElem? (i := 0) rfl)) e534 (g := (mkF m 206 #[.val (.int p0), .val (.long q1), .second, .val (.long q2), .second, .val (.long q3), .second, .val (.long q4), .second, .val (.long q5), .second, .val (.int (2 : Int32)), .val (.int v186), .val (.int v187), .val (.int v188), .val (.ref b459), .val (.ref b475), .val (.long q4), .second, .val (.long q5), .second, .val (.long v494), .second, .val (.long v495), .second, .val (.ref b496), .unset] [(.int (1 : Int32)), (.ref b475), (.ref b459), (.ref b534), (.ref b534)])) rfl (hb hby at_206) rfl (by decide) (cap := 1) (by decide) (by decide) (by decide) (by decide)
    obtain ⟨b543, g543⟩ : ∃ z, z = h534.size := ⟨_, rfl⟩
    have ne_b459_b543 : b459 ≠ b543 := Nat.ne_of_lt (Nat.lt_of_lt_of_le f535.lt (Nat.le_of_eq g543.symm))
    have ne_b475_b543 : b475 ≠ b543 := Nat.ne_of_lt (Nat.lt_of_lt_of_le f536.lt (Nat.le_of_eq g543.symm))
    have ne_b496_b543 : b496 ≠ b543 := Nat.ne_of_lt (Nat.lt_of_lt_of_le f537.lt (Nat.le_of_eq g543.symm))
    have ne_b534_b543 : b534 ≠ b543 := Nat.ne_of_lt (Nat.lt_of_lt_of_le A534.lt (Nat.le_of_eq g543.symm))
    have g_b543 : n0 ≤ b543 := Nat.le_trans z538 (Nat.le_of_eq g543.symm)
    have sz_b543 : h0.size ≤ b543 := Nat.le_trans K539.1 (Nat.le_of_eq g543.symm)
    rw [← g543] at A543 st543
    have f544 := f535.ext E543
    have f545 := f536.ext E543
    have f546 := f537.ext E543
    have f547 := A534.ext E543
    have f548 := f540.ext E543
    have f549 := f541.ext E543
    have f550 := f542.ext E543
    have z551 : n0 ≤ h543.size := Nat.le_trans z538 E543.1
    have K552 : Keep h0 h543 [] := K539.ext E543
    have f553 : Arv Z h543 b543 k543 .int (1 : Int32) [(.int (0 : Int32))] (.int (0 : Int32)) := (Arv.new A543 (by decide)).pad (pad_rep [] (.int (0 : Int32)) 1)
    obtain ⟨cl554, Ar554, q554, S554, M554, H554, G554⟩ := id f553
    have hin554 : ¬ ((0 : Int32) < 0 ∨ cl554.slots.size ≤ ((0 : Int32)).toNatClampNeg) := inb_of S554 ⟨by decide, by decide⟩
    obtain ⟨T555, h555, X555, e555, W555, st555⟩ := stI X543 hx hZ e543 Ar554 (j := (0 : Int32)) hin554 (g := (mkF m 212 #[.val (.int p0), .val (.long q1), .second, .val (.long q2), .second, .val (.long q3), .second, .val (.long q4), .second, .val (.long q5), .second, .val (.int (2 : Int32)), .val (.int v186), .val (.int v187), .val (.int v188), .val (.ref b459), .val (.ref b475), .val (.long q4), .second, .val (.long q5), .second, .val (.long v494), .second, .val (.long v495), .second, .val (.ref b496), .unset] [(.int v188), (.int (0 : Int32)), (.ref b543), (.ref b543), (.ref b475), (.ref b459), (.ref b534), (.ref b534)])) rfl rfl (hb hby at_212)
    have f556 := f544.other W555 ne_b459_b543
    have f557 := f545.other W555 ne_b475_b543
    have f558 := f546.other W555 ne_b496_b543
    have f559 := f547.wr W555
    have f560 := f548.other W555 (Or.inl ne_b534_b543)
    have f561 := f549.other W555 (Or.inl ne_b534_b543)
    have f562 := f550.other W555 (Or.inl ne_b534_b543)
    have K563 : Keep h0 h555 [] := K552.wr W555 (Or.inr sz_b543)
    have z564 : n0 ≤ h555.size := Nat.le_trans z551 (Keep.of_wr W555).1
    have N565 := Fr.snoc X555 N532 g_b543
    have f566 : Arv Z h555 b543 k543 .int (1 : Int32) [(.int v188)] (.int (0 : Int32)) := Arv.set Ar554 q554 S554 M554 H554 G554 rfl W555 0 rfl (Nat.le_of_ble_eq_true rfl)
    obtain ⟨_, _, ⟨T567, L567, k567, n567⟩, -, X567, ⟨Lc567, hQ567, l567, y567, z567⟩, st567⟩ := X555.specialBack hx (y := (⟨"com/example/thyme/thyme/engine/Hierarchy$Restart", "<init>", "([I[J[I)V"⟩ : MethodName)) rfl hown (mvT hZ (hw _ (List.mem_of_getElem? (i := 6) rfl))) (mvT hZ (hw _ (List.mem_of_getElem? (i := 7) rfl))) (mvT hZ (hw _ (List.mem_of_getElem? (i := 8) rfl))) (by decide) (backOf (W := 1) (own_rm1 l Z av hw [] b534 b459 b475 b543 h555 n0 z564 f559 f560 f561 f562 g_b534) hZ (hw _ (List.mem_of_getElem? (i := 8) rfl)) (hw _ (List.mem_of_getElem? (i := 5) rfl)) (by decide) (by decide)) (g := (mkF m 213 #[.val (.int p0), .val (.long q1), .second, .val (.long q2), .second, .val (.long q3), .second, .val (.long q4), .second, .val (.long q5), .second, .val (.int (2 : Int32)), .val (.int v186), .val (.int v187), .val (.int v188), .val (.ref b459), .val (.ref b475), .val (.long q4), .second, .val (.long q5), .second, .val (.long v494), .second, .val (.long v495), .second, .val (.ref b496), .unset] [(.ref b543), (.ref b475), (.ref b459), (.ref b534), (.ref b534)])) rfl (by rw [hml]; rfl) (Steps.refl _) (a := b534) (argsL := [(.ref b459), (.ref b475), (.ref b543)]) (rest := [(.ref b534)]) (lenOf own_pd1 rfl) rfl (by show 2 * 0 + _ ≤ _; exact Nat.le_of_eq rfl) (hb hby at_213) (fun _ _ => ⟨rfl, e555, (by decide : 5 + 0 ≤ _), (by decide : 12 + 0 ≤ _)⟩)
    dsimp only [Pt.U, Pt.locs, Pt.cells, Pt.slots] at X567 l567 y567 z567 st567 hQ567
    subst l567 y567 z567
    obtain ⟨rfl, N567q, K567, f569, f570, f571, f572⟩ := hQ567
    have f573 := f556.keep K567 (ninS ne_b459_b534 nin0)
    have f574 := f557.keep K567 (ninS ne_b475_b534 nin0)
    have f575 := f558.keep K567 (ninS ne_b496_b534 nin0)
    have f576 := f566.keep K567 (ninS (Ne.symm ne_b534_b543) nin0)
    have K577 : Keep h0 T567.heap [] := K563.trans K567 (allS (Or.inr sz_b534) all0)
    have z578 : n0 ≤ T567.heap.size := Nat.le_trans z564 K567.1
    have N568 := Fr.app N565 N567q
    obtain ⟨cq579, kq579, q579a, q579b, q579c⟩ := isOf hZ rfl f569
    obtain ⟨_, _, ⟨T579, L579, k579, n579⟩, -, X579, ⟨Lc579, hQ579, l579, y579, z579⟩, st579⟩ := X567.virtualBack hx (y := (⟨"com/example/thyme/thyme/engine/Hierarchy$Restart", "write", "([J)V"⟩ : MethodName)) (z := (⟨"com/example/thyme/thyme/engine/Hierarchy$Restart", "write", "([J)V"⟩ : MethodName)) hown (mvT hZ (hw _ (List.mem_of_getElem? (i := 23) rfl))) (mvT hZ (hw _ (List.mem_of_getElem? (i := 24) rfl))) (notFace_of_selects (args := #[]) (mvT hZ (hw _ (List.mem_of_getElem? (i := 26) rfl)))) (mvT hZ (hw _ (List.mem_of_getElem? (i := 26) rfl))) (mvT hZ (hw _ (List.mem_of_getElem? (i := 25) rfl))) (by decide) (backOf (W := 0) (own_rmW2 l Z av hw [] b534 b496 (b459) (b475) (k459) ((.int (0 : Int32))) (k475) ((.long (0 : Int64))) (k496) ((.long (0 : Int64))) ((own_g4 q4 q5 v494 v495)) (v186) (v187) (q1) (q2) T567.heap n0 z578 f570 f571 f573 f574 f575 g_b496 (Ne.symm ne_b496_b534) ne_b459_b496 ne_b475_b496 ((own_side580 p0 hv185 v186 hv186)) ((own_side581 p0 hv185 v187 hv187))) hZ (hw _ (List.mem_of_getElem? (i := 27) rfl)) (hw _ (List.mem_of_getElem? (i := 5) rfl)) (by decide) (by decide)) q579a q579c (g := (mkF m 222 #[.val (.int p0), .val (.long q1), .second, .val (.long q2), .second, .val (.long q3), .second, .val (.long q4), .second, .val (.long q5), .second, .val (.int (2 : Int32)), .val (.int v186), .val (.int v187), .val (.int v188), .val (.ref b459), .val (.ref b475), .val (.long q4), .second, .val (.long q5), .second, .val (.long v494), .second, .val (.long v495), .second, .val (.ref b496), .val (.ref b534)] [(.ref b496), (.ref b534)])) rfl (by rw [hml]; rfl) (Steps.refl _) (argsL := [(.ref b496)]) (rest := []) (lenOf own_pd2 rfl) rfl (by show 2 * 0 + _ ≤ _; exact Nat.le_of_eq rfl) (hb hby at_222) (fun _ _ => ⟨rfl, rfl, (by decide : 5 + 0 ≤ _), (by decide : 12 + 0 ≤ _)⟩)
    dsimp only [Pt.U, Pt.locs, Pt.cells, Pt.slots] at X579 l579 y579 z579 st579 hQ579
    subst l579 y579 z579
    obtain ⟨rfl, N579q, K579, f583⟩ := hQ579
    have f584 := f573.keep K579 (ninS ne_b459_b496 nin0)
    have f585 := f574.keep K579 (ninS ne_b475_b496 nin0)
    have f586 := f576.keep K579 (ninS (Ne.symm ne_b496_b543) nin0)
    have f587 := f569.keep K579
    have f588 := f570.keep K579 (ninS (Ne.symm ne_b496_b534) nin0)
    have f589 := f571.keep K579 (ninS (Ne.symm ne_b496_b534) nin0)
    have f590 := f572.keep K579 (ninS (Ne.symm ne_b496_b534) nin0)
    have K591 : Keep h0 T579.heap [] := K577.trans K579 (allS (Or.inr sz_b496) all0)
    have z592 : n0 ≤ T579.heap.size := Nat.le_trans z578 K579.1
    have N582 := Fr.app N568 N579q
    obtain ⟨cl593, Ar593, q593, S593, M593, H593, G593⟩ := id f583
    obtain ⟨cl594, Ar594, q594, S594, M594, H594, G594⟩ := id f583
    have hin594 : ¬ ((0 : Int32) < 0 ∨ cl594.slots.size ≤ ((0 : Int32)).toNatClampNeg) := inb_of S594 ⟨by decide, by decide⟩
    have hat594 : cl594.slots[((0 : Int32)).toNatClampNeg]? = some (.long ((own_upd (own_upd (own_g4 q4 q5 v494 v495) v186 q1) v187 q2) 0)) := H594.at hin594 rfl
    obtain ⟨_, _, ⟨T595, L595, k595, n595⟩, -, X595, ⟨Lc595, hQ595, l595, y595, z595⟩, st595⟩ := Jvm.LawKit.callS X579 hx (y := (⟨"com/example/thyme/thyme/engine/RestartWritePinLaw", "expect", "(IIIIIJJJJ)J"⟩ : MethodName)) hown (mvT hZ (hw _ (List.mem_of_getElem? (i := 28) rfl))) (mvT hZ (hw _ (List.mem_of_getElem? (i := 29) rfl))) (mvT hZ (hw _ (List.mem_of_getElem? (i := 30) rfl))) (mvT hZ (hw _ (List.mem_of_getElem? (i := 31) rfl))) (by decide) (backOf (W := 2) (own_rm5 l Z av hw [] (0 : Int32) (2 : Int32) v186 v187 v188 q1 q2 q3 q4 T579.heap n0 z592 ) hZ (hw _ (List.mem_of_getElem? (i := 31) rfl)) (hw _ (List.mem_of_getElem? (i := 30) rfl)) (by decide) (by decide)) (g := (mkF m 251 #[.val (.int p0), .val (.long q1), .second, .val (.long q2), .second, .val (.long q3), .second, .val (.long q4), .second, .val (.long q5), .second, .val (.int (2 : Int32)), .val (.int v186), .val (.int v187), .val (.int v188), .val (.ref b459), .val (.ref b475), .val (.long q4), .second, .val (.long q5), .second, .val (.long v494), .second, .val (.long v495), .second, .val (.ref b496), .val (.ref b534)] [(.long q4), (.long q3), (.long q2), (.long q1), (.int v188), (.int v187), (.int v186), (.int (2 : Int32)), (.int (0 : Int32)), (.long ((own_upd (own_upd (own_g4 q4 q5 v494 v495) v186 q1) v187 q2) 0))])) rfl (by rw [hml]; rfl) (argsL := [(.int (0 : Int32)), (.int (2 : Int32)), (.int v186), (.int v187), (.int v188), (.long q1), (.long q2), (.long q3), (.long q4)]) (rest := [(.long ((own_upd (own_upd (own_g4 q4 q5 v494 v495) v186 q1) v187 q2) 0))]) (lenOf own_pd3 rfl) rfl (by show 2 * 0 + _ ≤ _; exact Nat.le_of_eq rfl) (hb hby at_251) (fun _ _ => ⟨rfl, rfl, (by decide : 5 + 0 ≤ _), (by decide : 12 + 0 ≤ _)⟩)
    dsimp only [Pt.U, Pt.locs, Pt.cells, Pt.slots] at X595 l595 y595 z595 st595 hQ595
    subst l595 y595 z595
    obtain ⟨rfl, N595q, e597⟩ := hQ595
    have N596 := Fr.app N582 N595q
    have pre598 : ∀ t, Steps p.tables e below (T595.setTop (mkF m 255 #[.val (.int p0), .val (.long q1), .second, .val (.long q2), .second, .val (.long q3), .second, .val (.long q4), .second, .val (.long q5), .second, .val (.int (2 : Int32)), .val (.int v186), .val (.int v187), .val (.int v188), .val (.ref b459), .val (.ref b475), .val (.long q4), .second, .val (.long q5), .second, .val (.long v494), .second, .val (.long v495), .second, .val (.ref b496), .val (.ref b534)] [(.int (lcmpW ((own_upd (own_upd (own_g4 q4 q5 v494 v495) v186 q1) v187 q2) 0) (own_f5 (0 : Int32) (2 : Int32) v186 v187 v188 q1 q2 q3 q4)))])) t → Steps p.tables e below (s₁.setTop (entryFrame m #[(.int p0), (.long q1), (.long q2), (.long q3), (.long q4), (.long q5)] maxLocals)) t := fun t kk => pre190 t (by
      show Steps p.tables e below (s₁.setTop (mkF m 27 #[.val (.int p0), .val (.long q1), .second, .val (.long q2), .second, .val (.long q3), .second, .val (.long q4), .second, .val (.long q5), .second, .val (.int (2 : Int32)), .val (.int v186), .val (.int v187), .val (.int v188), .unset, .unset, .unset, .unset, .unset, .unset, .unset, .unset, .unset, .unset, .unset, .unset] [])) _
      refine XS.iload X0.here hx rfl (hb hby at_27) rfl ?_
      show Steps p.tables e below (s₁.setTop (mkF m 29 #[.val (.int p0), .val (.long q1), .second, .val (.long q2), .second, .val (.long q3), .second, .val (.long q4), .second, .val (.long q5), .second, .val (.int (2 : Int32)), .val (.int v186), .val (.int v187), .val (.int v188), .unset, .unset, .unset, .unset, .unset, .unset, .unset, .unset, .unset, .unset, .unset, .unset] [(.int (2 : Int32))])) _
      refine XS.ifYes X0.here hx rfl (pc0 := 29) (pc' := 45) rfl (hb hby at_29) rfl ((if0 _ _).trans (feq (by decide : ¬ ((2 : Int32) = (0 : Int32)))).2) (by decide) (by decide) ?_
      show Steps p.tables e below (s₁.setTop (mkF m 45 #[.val (.int p0), .val (.long q1), .second, .val (.long q2), .second, .val (.long q3), .second, .val (.long q4), .second, .val (.long q5), .second, .val (.int (2 : Int32)), .val (.int v186), .val (.int v187), .val (.int v188), .unset, .unset, .unset, .unset, .unset, .unset, .unset, .unset, .unset, .unset, .unset, .unset] [])) _
      refine XS.iload X0.here hx rfl (hb hby at_45) rfl ?_
      show Steps p.tables e below (s₁.setTop (mkF m 47 #[.val (.int p0), .val (.long q1), .second, .val (.long q2), .second, .val (.long q3), .second, .val (.long q4), .second, .val (.long q5), .second, .val (.int (2 : Int32)), .val (.int v186), .val (.int v187), .val (.int v188), .unset, .unset, .unset, .unset, .unset, .unset, .unset, .unset, .unset, .unset, .unset, .unset] [(.int (2 : Int32))])) _
      refine XS.iconst X0.here hx rfl (hb hby at_47) ?_
      show Steps p.tables e below (s₁.setTop (mkF m 48 #[.val (.int p0), .val (.long q1), .second, .val (.long q2), .second, .val (.long q3), .second, .val (.long q4), .second, .val (.long q5), .second, .val (.int (2 : Int32)), .val (.int v186), .val (.int v187), .val (.int v188), .unset, .unset, .unset, .unset, .unset, .unset, .unset, .unset, .unset, .unset, .unset, .unset] [(.int (1 : Int32)), (.int (2 : Int32))])) _
      refine XS.icmpYes X0.here hx rfl (pc0 := 48) (pc' := 73) rfl (hb hby at_48) rfl (feq (by decide : ¬ ((2 : Int32) = (1 : Int32)))).2 (by decide) (by decide) ?_
      show Steps p.tables e below (s₁.setTop (mkF m 73 #[.val (.int p0), .val (.long q1), .second, .val (.long q2), .second, .val (.long q3), .second, .val (.long q4), .second, .val (.long q5), .second, .val (.int (2 : Int32)), .val (.int v186), .val (.int v187), .val (.int v188), .unset, .unset, .unset, .unset, .unset, .unset, .unset, .unset, .unset, .unset, .unset, .unset] [])) _
      refine XS.iload X0.here hx rfl (hb hby at_73) rfl ?_
      show Steps p.tables e below (s₁.setTop (mkF m 75 #[.val (.int p0), .val (.long q1), .second, .val (.long q2), .second, .val (.long q3), .second, .val (.long q4), .second, .val (.long q5), .second, .val (.int (2 : Int32)), .val (.int v186), .val (.int v187), .val (.int v188), .unset, .unset, .unset, .unset, .unset, .unset, .unset, .unset, .unset, .unset, .unset, .unset] [(.int (2 : Int32))])) _
      refine XS.iconst X0.here hx rfl (hb hby at_75) ?_
      show Steps p.tables e below (s₁.setTop (mkF m 76 #[.val (.int p0), .val (.long q1), .second, .val (.long q2), .second, .val (.long q3), .second, .val (.long q4), .second, .val (.long q5), .second, .val (.int (2 : Int32)), .val (.int v186), .val (.int v187), .val (.int v188), .unset, .unset, .unset, .unset, .unset, .unset, .unset, .unset, .unset, .unset, .unset, .unset] [(.int (2 : Int32)), (.int (2 : Int32))])) _
      refine XS.icmpNo X0.here hx rfl (hb hby at_76) rfl (teq (by decide : (2 : Int32) = (2 : Int32))).2 ?_
      show Steps p.tables e below (s₁.setTop (mkF m 79 #[.val (.int p0), .val (.long q1), .second, .val (.long q2), .second, .val (.long q3), .second, .val (.long q4), .second, .val (.long q5), .second, .val (.int (2 : Int32)), .val (.int v186), .val (.int v187), .val (.int v188), .unset, .unset, .unset, .unset, .unset, .unset, .unset, .unset, .unset, .unset, .unset, .unset] [])) _
      refine XS.iconst X0.here hx rfl (hb hby at_79) ?_
      show Steps p.tables e below (s₁.setTop (mkF m 80 #[.val (.int p0), .val (.long q1), .second, .val (.long q2), .second, .val (.long q3), .second, .val (.long q4), .second, .val (.long q5), .second, .val (.int (2 : Int32)), .val (.int v186), .val (.int v187), .val (.int v188), .unset, .unset, .unset, .unset, .unset, .unset, .unset, .unset, .unset, .unset, .unset, .unset] [(.int (2 : Int32))])) _
      refine st459 _ ?_
      show Steps p.tables e below (T459.setTop (mkF m 82 #[.val (.int p0), .val (.long q1), .second, .val (.long q2), .second, .val (.long q3), .second, .val (.long q4), .second, .val (.long q5), .second, .val (.int (2 : Int32)), .val (.int v186), .val (.int v187), .val (.int v188), .unset, .unset, .unset, .unset, .unset, .unset, .unset, .unset, .unset, .unset, .unset, .unset] [(.ref b459)])) _
      refine XS.dup X459.here hx rfl (hb hby at_82) rfl rfl ?_
      show Steps p.tables e below (T459.setTop (mkF m 83 #[.val (.int p0), .val (.long q1), .second, .val (.long q2), .second, .val (.long q3), .second, .val (.long q4), .second, .val (.long q5), .second, .val (.int (2 : Int32)), .val (.int v186), .val (.int v187), .val (.int v188), .unset, .unset, .unset, .unset, .unset, .unset, .unset, .unset, .unset, .unset, .unset, .unset] [(.ref b459), (.ref b459)])) _
      refine XS.iconst X459.here hx rfl (hb hby at_83) ?_
      show Steps p.tables e below (T459.setTop (mkF m 84 #[.val (.int p0), .val (.long q1), .second, .val (.long q2), .second, .val (.long q3), .second, .val (.long q4), .second, .val (.long q5), .second, .val (.int (2 : Int32)), .val (.int v186), .val (.int v187), .val (.int v188), .unset, .unset, .unset, .unset, .unset, .unset, .unset, .unset, .unset, .unset, .unset, .unset] [(.int (0 : Int32)), (.ref b459), (.ref b459)])) _
      refine XS.iload X459.here hx rfl (hb hby at_84) rfl ?_
      show Steps p.tables e below (T459.setTop (mkF m 86 #[.val (.int p0), .val (.long q1), .second, .val (.long q2), .second, .val (.long q3), .second, .val (.long q4), .second, .val (.long q5), .second, .val (.int (2 : Int32)), .val (.int v186), .val (.int v187), .val (.int v188), .unset, .unset, .unset, .unset, .unset, .unset, .unset, .unset, .unset, .unset, .unset, .unset] [(.int v186), (.int (0 : Int32)), (.ref b459), (.ref b459)])) _
      refine st464 _ ?_
      show Steps p.tables e below (T464.setTop (mkF m 87 #[.val (.int p0), .val (.long q1), .second, .val (.long q2), .second, .val (.long q3), .second, .val (.long q4), .second, .val (.long q5), .second, .val (.int (2 : Int32)), .val (.int v186), .val (.int v187), .val (.int v188), .unset, .unset, .unset, .unset, .unset, .unset, .unset, .unset, .unset, .unset, .unset, .unset] [(.ref b459)])) _
      refine XS.dup X464.here hx rfl (hb hby at_87) rfl rfl ?_
      show Steps p.tables e below (T464.setTop (mkF m 88 #[.val (.int p0), .val (.long q1), .second, .val (.long q2), .second, .val (.long q3), .second, .val (.long q4), .second, .val (.long q5), .second, .val (.int (2 : Int32)), .val (.int v186), .val (.int v187), .val (.int v188), .unset, .unset, .unset, .unset, .unset, .unset, .unset, .unset, .unset, .unset, .unset, .unset] [(.ref b459), (.ref b459)])) _
      refine XS.iconst X464.here hx rfl (hb hby at_88) ?_
      show Steps p.tables e below (T464.setTop (mkF m 89 #[.val (.int p0), .val (.long q1), .second, .val (.long q2), .second, .val (.long q3), .second, .val (.long q4), .second, .val (.long q5), .second, .val (.int (2 : Int32)), .val (.int v186), .val (.int v187), .val (.int v188), .unset, .unset, .unset, .unset, .unset, .unset, .unset, .unset, .unset, .unset, .unset, .unset] [(.int (1 : Int32)), (.ref b459), (.ref b459)])) _
      refine XS.iload X464.here hx rfl (hb hby at_89) rfl ?_
      show Steps p.tables e below (T464.setTop (mkF m 91 #[.val (.int p0), .val (.long q1), .second, .val (.long q2), .second, .val (.long q3), .second, .val (.long q4), .second, .val (.long q5), .second, .val (.int (2 : Int32)), .val (.int v186), .val (.int v187), .val (.int v188), .unset, .unset, .unset, .unset, .unset, .unset, .unset, .unset, .unset, .unset, .unset, .unset] [(.int v187), (.int (1 : Int32)), (.ref b459), (.ref b459)])) _
      refine st470 _ ?_
      show Steps p.tables e below (T470.setTop (mkF m 92 #[.val (.int p0), .val (.long q1), .second, .val (.long q2), .second, .val (.long q3), .second, .val (.long q4), .second, .val (.long q5), .second, .val (.int (2 : Int32)), .val (.int v186), .val (.int v187), .val (.int v188), .unset, .unset, .unset, .unset, .unset, .unset, .unset, .unset, .unset, .unset, .unset, .unset] [(.ref b459)])) _
      refine XS.astore X470.here hx rfl (hb hby at_92) rfl rfl (l' := #[.val (.int p0), .val (.long q1), .second, .val (.long q2), .second, .val (.long q3), .second, .val (.long q4), .second, .val (.long q5), .second, .val (.int (2 : Int32)), .val (.int v186), .val (.int v187), .val (.int v188), .val (.ref b459), .unset, .unset, .unset, .unset, .unset, .unset, .unset, .unset, .unset, .unset, .unset]) rfl ?_
      show Steps p.tables e below (T470.setTop (mkF m 94 #[.val (.int p0), .val (.long q1), .second, .val (.long q2), .second, .val (.long q3), .second, .val (.long q4), .second, .val (.long q5), .second, .val (.int (2 : Int32)), .val (.int v186), .val (.int v187), .val (.int v188), .val (.ref b459), .unset, .unset, .unset, .unset, .unset, .unset, .unset, .unset, .unset, .unset, .unset] [])) _
      refine XS.iconst X470.here hx rfl (hb hby at_94) ?_
      show Steps p.tables e below (T470.setTop (mkF m 95 #[.val (.int p0), .val (.long q1), .second, .val (.long q2), .second, .val (.long q3), .second, .val (.long q4), .second, .val (.long q5), .second, .val (.int (2 : Int32)), .val (.int v186), .val (.int v187), .val (.int v188), .val (.ref b459), .unset, .unset, .unset, .unset, .unset, .unset, .unset, .unset, .unset, .unset, .unset] [(.int (2 : Int32))])) _
      refine st475 _ ?_
      show Steps p.tables e below (T475.setTop (mkF m 97 #[.val (.int p0), .val (.long q1), .second, .val (.long q2), .second, .val (.long q3), .second, .val (.long q4), .second, .val (.long q5), .second, .val (.int (2 : Int32)), .val (.int v186), .val (.int v187), .val (.int v188), .val (.ref b459), .unset, .unset, .unset, .unset, .unset, .unset, .unset, .unset, .unset, .unset, .unset] [(.ref b475)])) _
      refine XS.dup X475.here hx rfl (hb hby at_97) rfl rfl ?_
      show Steps p.tables e below (T475.setTop (mkF m 98 #[.val (.int p0), .val (.long q1), .second, .val (.long q2), .second, .val (.long q3), .second, .val (.long q4), .second, .val (.long q5), .second, .val (.int (2 : Int32)), .val (.int v186), .val (.int v187), .val (.int v188), .val (.ref b459), .unset, .unset, .unset, .unset, .unset, .unset, .unset, .unset, .unset, .unset, .unset] [(.ref b475), (.ref b475)])) _
      refine XS.iconst X475.here hx rfl (hb hby at_98) ?_
      show Steps p.tables e below (T475.setTop (mkF m 99 #[.val (.int p0), .val (.long q1), .second, .val (.long q2), .second, .val (.long q3), .second, .val (.long q4), .second, .val (.long q5), .second, .val (.int (2 : Int32)), .val (.int v186), .val (.int v187), .val (.int v188), .val (.ref b459), .unset, .unset, .unset, .unset, .unset, .unset, .unset, .unset, .unset, .unset, .unset] [(.int (0 : Int32)), (.ref b475), (.ref b475)])) _
      refine XS.lloadN X475.here hx rfl (hb hby at_99) rfl ?_
      show Steps p.tables e below (T475.setTop (mkF m 100 #[.val (.int p0), .val (.long q1), .second, .val (.long q2), .second, .val (.long q3), .second, .val (.long q4), .second, .val (.long q5), .second, .val (.int (2 : Int32)), .val (.int v186), .val (.int v187), .val (.int v188), .val (.ref b459), .unset, .unset, .unset, .unset, .unset, .unset, .unset, .unset, .unset, .unset, .unset] [(.long q1), (.int (0 : Int32)), (.ref b475), (.ref b475)])) _
      refine st481 _ ?_
      show Steps p.tables e below (T481.setTop (mkF m 101 #[.val (.int p0), .val (.long q1), .second, .val (.long q2), .second, .val (.long q3), .second, .val (.long q4), .second, .val (.long q5), .second, .val (.int (2 : Int32)), .val (.int v186), .val (.int v187), .val (.int v188), .val (.ref b459), .unset, .unset, .unset, .unset, .unset, .unset, .unset, .unset, .unset, .unset, .unset] [(.ref b475)])) _
      refine XS.dup X481.here hx rfl (hb hby at_101) rfl rfl ?_
      show Steps p.tables e below (T481.setTop (mkF m 102 #[.val (.int p0), .val (.long q1), .second, .val (.long q2), .second, .val (.long q3), .second, .val (.long q4), .second, .val (.long q5), .second, .val (.int (2 : Int32)), .val (.int v186), .val (.int v187), .val (.int v188), .val (.ref b459), .unset, .unset, .unset, .unset, .unset, .unset, .unset, .unset, .unset, .unset, .unset] [(.ref b475), (.ref b475)])) _
      refine XS.iconst X481.here hx rfl (hb hby at_102) ?_
      show Steps p.tables e below (T481.setTop (mkF m 103 #[.val (.int p0), .val (.long q1), .second, .val (.long q2), .second, .val (.long q3), .second, .val (.long q4), .second, .val (.long q5), .second, .val (.int (2 : Int32)), .val (.int v186), .val (.int v187), .val (.int v188), .val (.ref b459), .unset, .unset, .unset, .unset, .unset, .unset, .unset, .unset, .unset, .unset, .unset] [(.int (1 : Int32)), (.ref b475), (.ref b475)])) _
      refine XS.lloadN X481.here hx rfl (hb hby at_103) rfl ?_
      show Steps p.tables e below (T481.setTop (mkF m 104 #[.val (.int p0), .val (.long q1), .second, .val (.long q2), .second, .val (.long q3), .second, .val (.long q4), .second, .val (.long q5), .second, .val (.int (2 : Int32)), .val (.int v186), .val (.int v187), .val (.int v188), .val (.ref b459), .unset, .unset, .unset, .unset, .unset, .unset, .unset, .unset, .unset, .unset, .unset] [(.long q2), (.int (1 : Int32)), (.ref b475), (.ref b475)])) _
      refine st488 _ ?_
      show Steps p.tables e below (T488.setTop (mkF m 105 #[.val (.int p0), .val (.long q1), .second, .val (.long q2), .second, .val (.long q3), .second, .val (.long q4), .second, .val (.long q5), .second, .val (.int (2 : Int32)), .val (.int v186), .val (.int v187), .val (.int v188), .val (.ref b459), .unset, .unset, .unset, .unset, .unset, .unset, .unset, .unset, .unset, .unset, .unset] [(.ref b475)])) _
      refine XS.astore X488.here hx rfl (hb hby at_105) rfl rfl (l' := #[.val (.int p0), .val (.long q1), .second, .val (.long q2), .second, .val (.long q3), .second, .val (.long q4), .second, .val (.long q5), .second, .val (.int (2 : Int32)), .val (.int v186), .val (.int v187), .val (.int v188), .val (.ref b459), .val (.ref b475), .unset, .unset, .unset, .unset, .unset, .unset, .unset, .unset, .unset, .unset]) rfl ?_
      show Steps p.tables e below (T488.setTop (mkF m 107 #[.val (.int p0), .val (.long q1), .second, .val (.long q2), .second, .val (.long q3), .second, .val (.long q4), .second, .val (.long q5), .second, .val (.int (2 : Int32)), .val (.int v186), .val (.int v187), .val (.int v188), .val (.ref b459), .val (.ref b475), .unset, .unset, .unset, .unset, .unset, .unset, .unset, .unset, .unset, .unset] [])) _
      refine XS.goto X488.here hx rfl (pc0 := 107) (pc' := 148) rfl (hb hby at_107) (by decide) (by decide) ?_
      show Steps p.tables e below (T488.setTop (mkF m 148 #[.val (.int p0), .val (.long q1), .second, .val (.long q2), .second, .val (.long q3), .second, .val (.long q4), .second, .val (.long q5), .second, .val (.int (2 : Int32)), .val (.int v186), .val (.int v187), .val (.int v188), .val (.ref b459), .val (.ref b475), .unset, .unset, .unset, .unset, .unset, .unset, .unset, .unset, .unset, .unset] [])) _
      refine XS.lload X488.here hx rfl (hb hby at_148) rfl ?_
      show Steps p.tables e below (T488.setTop (mkF m 150 #[.val (.int p0), .val (.long q1), .second, .val (.long q2), .second, .val (.long q3), .second, .val (.long q4), .second, .val (.long q5), .second, .val (.int (2 : Int32)), .val (.int v186), .val (.int v187), .val (.int v188), .val (.ref b459), .val (.ref b475), .unset, .unset, .unset, .unset, .unset, .unset, .unset, .unset, .unset, .unset] [(.long q4)])) _
      refine XS.lstore X488.here hx rfl (hb hby at_150) rfl (l' := #[.val (.int p0), .val (.long q1), .second, .val (.long q2), .second, .val (.long q3), .second, .val (.long q4), .second, .val (.long q5), .second, .val (.int (2 : Int32)), .val (.int v186), .val (.int v187), .val (.int v188), .val (.ref b459), .val (.ref b475), .val (.long q4), .second, .unset, .unset, .unset, .unset, .unset, .unset, .unset, .unset]) rfl ?_
      show Steps p.tables e below (T488.setTop (mkF m 152 #[.val (.int p0), .val (.long q1), .second, .val (.long q2), .second, .val (.long q3), .second, .val (.long q4), .second, .val (.long q5), .second, .val (.int (2 : Int32)), .val (.int v186), .val (.int v187), .val (.int v188), .val (.ref b459), .val (.ref b475), .val (.long q4), .second, .unset, .unset, .unset, .unset, .unset, .unset, .unset, .unset] [])) _
      refine XS.lload X488.here hx rfl (hb hby at_152) rfl ?_
      show Steps p.tables e below (T488.setTop (mkF m 154 #[.val (.int p0), .val (.long q1), .second, .val (.long q2), .second, .val (.long q3), .second, .val (.long q4), .second, .val (.long q5), .second, .val (.int (2 : Int32)), .val (.int v186), .val (.int v187), .val (.int v188), .val (.ref b459), .val (.ref b475), .val (.long q4), .second, .unset, .unset, .unset, .unset, .unset, .unset, .unset, .unset] [(.long q5)])) _
      refine XS.lstore X488.here hx rfl (hb hby at_154) rfl (l' := #[.val (.int p0), .val (.long q1), .second, .val (.long q2), .second, .val (.long q3), .second, .val (.long q4), .second, .val (.long q5), .second, .val (.int (2 : Int32)), .val (.int v186), .val (.int v187), .val (.int v188), .val (.ref b459), .val (.ref b475), .val (.long q4), .second, .val (.long q5), .second, .unset, .unset, .unset, .unset, .unset, .unset]) rfl ?_
      show Steps p.tables e below (T488.setTop (mkF m 156 #[.val (.int p0), .val (.long q1), .second, .val (.long q2), .second, .val (.long q3), .second, .val (.long q4), .second, .val (.long q5), .second, .val (.int (2 : Int32)), .val (.int v186), .val (.int v187), .val (.int v188), .val (.ref b459), .val (.ref b475), .val (.long q4), .second, .val (.long q5), .second, .unset, .unset, .unset, .unset, .unset, .unset] [])) _
      refine XS.lload X488.here hx rfl (hb hby at_156) rfl ?_
      show Steps p.tables e below (T488.setTop (mkF m 158 #[.val (.int p0), .val (.long q1), .second, .val (.long q2), .second, .val (.long q3), .second, .val (.long q4), .second, .val (.long q5), .second, .val (.int (2 : Int32)), .val (.int v186), .val (.int v187), .val (.int v188), .val (.ref b459), .val (.ref b475), .val (.long q4), .second, .val (.long q5), .second, .unset, .unset, .unset, .unset, .unset, .unset] [(.long q4)])) _
      refine X488.ldc2Long hx hown (mvT hZ (hw _ (List.mem_of_getElem? (i := 2) rfl))) (g := (mkF m 158 #[.val (.int p0), .val (.long q1), .second, .val (.long q2), .second, .val (.long q3), .second, .val (.long q4), .second, .val (.long q5), .second, .val (.int (2 : Int32)), .val (.int v186), .val (.int v187), .val (.int v188), .val (.ref b459), .val (.ref b475), .val (.long q4), .second, .val (.long q5), .second, .unset, .unset, .unset, .unset, .unset, .unset] [(.long q4)])) rfl (hb hby at_158) _ ?_
      show Steps p.tables e below (T488.setTop (mkF m 161 #[.val (.int p0), .val (.long q1), .second, .val (.long q2), .second, .val (.long q3), .second, .val (.long q4), .second, .val (.long q5), .second, .val (.int (2 : Int32)), .val (.int v186), .val (.int v187), .val (.int v188), .val (.ref b459), .val (.ref b475), .val (.long q4), .second, .val (.long q5), .second, .unset, .unset, .unset, .unset, .unset, .unset] [(.long (-1 : Int64)), (.long q4)])) _
      refine XS.lxor X488.here hx rfl (hb hby at_161) rfl ?_
      show Steps p.tables e below (T488.setTop (mkF m 162 #[.val (.int p0), .val (.long q1), .second, .val (.long q2), .second, .val (.long q3), .second, .val (.long q4), .second, .val (.long q5), .second, .val (.int (2 : Int32)), .val (.int v186), .val (.int v187), .val (.int v188), .val (.ref b459), .val (.ref b475), .val (.long q4), .second, .val (.long q5), .second, .unset, .unset, .unset, .unset, .unset, .unset] [(.long (q4 ^^^ (-1 : Int64)))])) _
      refine castTop (congrArg (fun z : Int64 => mkF m 162 #[.val (.int p0), .val (.long q1), .second, .val (.long q2), .second, .val (.long q3), .second, .val (.long q4), .second, .val (.long q5), .second, .val (.int (2 : Int32)), .val (.int v186), .val (.int v187), .val (.int v188), .val (.ref b459), .val (.ref b475), .val (.long q4), .second, .val (.long q5), .second, .unset, .unset, .unset, .unset, .unset, .unset] [(.long z)]) hv494.symm) ?_
      show Steps p.tables e below (T488.setTop (mkF m 162 #[.val (.int p0), .val (.long q1), .second, .val (.long q2), .second, .val (.long q3), .second, .val (.long q4), .second, .val (.long q5), .second, .val (.int (2 : Int32)), .val (.int v186), .val (.int v187), .val (.int v188), .val (.ref b459), .val (.ref b475), .val (.long q4), .second, .val (.long q5), .second, .unset, .unset, .unset, .unset, .unset, .unset] [(.long v494)])) _
      refine XS.lstore X488.here hx rfl (hb hby at_162) rfl (l' := #[.val (.int p0), .val (.long q1), .second, .val (.long q2), .second, .val (.long q3), .second, .val (.long q4), .second, .val (.long q5), .second, .val (.int (2 : Int32)), .val (.int v186), .val (.int v187), .val (.int v188), .val (.ref b459), .val (.ref b475), .val (.long q4), .second, .val (.long q5), .second, .val (.long v494), .second, .unset, .unset, .unset, .unset]) rfl ?_
      show Steps p.tables e below (T488.setTop (mkF m 164 #[.val (.int p0), .val (.long q1), .second, .val (.long q2), .second, .val (.long q3), .second, .val (.long q4), .second, .val (.long q5), .second, .val (.int (2 : Int32)), .val (.int v186), .val (.int v187), .val (.int v188), .val (.ref b459), .val (.ref b475), .val (.long q4), .second, .val (.long q5), .second, .val (.long v494), .second, .unset, .unset, .unset, .unset] [])) _
      refine XS.lload X488.here hx rfl (hb hby at_164) rfl ?_
      show Steps p.tables e below (T488.setTop (mkF m 166 #[.val (.int p0), .val (.long q1), .second, .val (.long q2), .second, .val (.long q3), .second, .val (.long q4), .second, .val (.long q5), .second, .val (.int (2 : Int32)), .val (.int v186), .val (.int v187), .val (.int v188), .val (.ref b459), .val (.ref b475), .val (.long q4), .second, .val (.long q5), .second, .val (.long v494), .second, .unset, .unset, .unset, .unset] [(.long q5)])) _
      refine X488.ldc2Long hx hown (mvT hZ (hw _ (List.mem_of_getElem? (i := 2) rfl))) (g := (mkF m 166 #[.val (.int p0), .val (.long q1), .second, .val (.long q2), .second, .val (.long q3), .second, .val (.long q4), .second, .val (.long q5), .second, .val (.int (2 : Int32)), .val (.int v186), .val (.int v187), .val (.int v188), .val (.ref b459), .val (.ref b475), .val (.long q4), .second, .val (.long q5), .second, .val (.long v494), .second, .unset, .unset, .unset, .unset] [(.long q5)])) rfl (hb hby at_166) _ ?_
      show Steps p.tables e below (T488.setTop (mkF m 169 #[.val (.int p0), .val (.long q1), .second, .val (.long q2), .second, .val (.long q3), .second, .val (.long q4), .second, .val (.long q5), .second, .val (.int (2 : Int32)), .val (.int v186), .val (.int v187), .val (.int v188), .val (.ref b459), .val (.ref b475), .val (.long q4), .second, .val (.long q5), .second, .val (.long v494), .second, .unset, .unset, .unset, .unset] [(.long (-1 : Int64)), (.long q5)])) _
      refine XS.lxor X488.here hx rfl (hb hby at_169) rfl ?_
      show Steps p.tables e below (T488.setTop (mkF m 170 #[.val (.int p0), .val (.long q1), .second, .val (.long q2), .second, .val (.long q3), .second, .val (.long q4), .second, .val (.long q5), .second, .val (.int (2 : Int32)), .val (.int v186), .val (.int v187), .val (.int v188), .val (.ref b459), .val (.ref b475), .val (.long q4), .second, .val (.long q5), .second, .val (.long v494), .second, .unset, .unset, .unset, .unset] [(.long (q5 ^^^ (-1 : Int64)))])) _
      refine castTop (congrArg (fun z : Int64 => mkF m 170 #[.val (.int p0), .val (.long q1), .second, .val (.long q2), .second, .val (.long q3), .second, .val (.long q4), .second, .val (.long q5), .second, .val (.int (2 : Int32)), .val (.int v186), .val (.int v187), .val (.int v188), .val (.ref b459), .val (.ref b475), .val (.long q4), .second, .val (.long q5), .second, .val (.long v494), .second, .unset, .unset, .unset, .unset] [(.long z)]) hv495.symm) ?_
      show Steps p.tables e below (T488.setTop (mkF m 170 #[.val (.int p0), .val (.long q1), .second, .val (.long q2), .second, .val (.long q3), .second, .val (.long q4), .second, .val (.long q5), .second, .val (.int (2 : Int32)), .val (.int v186), .val (.int v187), .val (.int v188), .val (.ref b459), .val (.ref b475), .val (.long q4), .second, .val (.long q5), .second, .val (.long v494), .second, .unset, .unset, .unset, .unset] [(.long v495)])) _
      refine XS.lstore X488.here hx rfl (hb hby at_170) rfl (l' := #[.val (.int p0), .val (.long q1), .second, .val (.long q2), .second, .val (.long q3), .second, .val (.long q4), .second, .val (.long q5), .second, .val (.int (2 : Int32)), .val (.int v186), .val (.int v187), .val (.int v188), .val (.ref b459), .val (.ref b475), .val (.long q4), .second, .val (.long q5), .second, .val (.long v494), .second, .val (.long v495), .second, .unset, .unset]) rfl ?_
      show Steps p.tables e below (T488.setTop (mkF m 172 #[.val (.int p0), .val (.long q1), .second, .val (.long q2), .second, .val (.long q3), .second, .val (.long q4), .second, .val (.long q5), .second, .val (.int (2 : Int32)), .val (.int v186), .val (.int v187), .val (.int v188), .val (.ref b459), .val (.ref b475), .val (.long q4), .second, .val (.long q5), .second, .val (.long v494), .second, .val (.long v495), .second, .unset, .unset] [])) _
      refine XS.iconst X488.here hx rfl (hb hby at_172) ?_
      show Steps p.tables e below (T488.setTop (mkF m 173 #[.val (.int p0), .val (.long q1), .second, .val (.long q2), .second, .val (.long q3), .second, .val (.long q4), .second, .val (.long q5), .second, .val (.int (2 : Int32)), .val (.int v186), .val (.int v187), .val (.int v188), .val (.ref b459), .val (.ref b475), .val (.long q4), .second, .val (.long q5), .second, .val (.long v494), .second, .val (.long v495), .second, .unset, .unset] [(.int (4 : Int32))])) _
      refine st496 _ ?_
      show Steps p.tables e below (T496.setTop (mkF m 175 #[.val (.int p0), .val (.long q1), .second, .val (.long q2), .second, .val (.long q3), .second, .val (.long q4), .second, .val (.long q5), .second, .val (.int (2 : Int32)), .val (.int v186), .val (.int v187), .val (.int v188), .val (.ref b459), .val (.ref b475), .val (.long q4), .second, .val (.long q5), .second, .val (.long v494), .second, .val (.long v495), .second, .unset, .unset] [(.ref b496)])) _
      refine XS.dup X496.here hx rfl (hb hby at_175) rfl rfl ?_
      show Steps p.tables e below (T496.setTop (mkF m 176 #[.val (.int p0), .val (.long q1), .second, .val (.long q2), .second, .val (.long q3), .second, .val (.long q4), .second, .val (.long q5), .second, .val (.int (2 : Int32)), .val (.int v186), .val (.int v187), .val (.int v188), .val (.ref b459), .val (.ref b475), .val (.long q4), .second, .val (.long q5), .second, .val (.long v494), .second, .val (.long v495), .second, .unset, .unset] [(.ref b496), (.ref b496)])) _
      refine XS.iconst X496.here hx rfl (hb hby at_176) ?_
      show Steps p.tables e below (T496.setTop (mkF m 177 #[.val (.int p0), .val (.long q1), .second, .val (.long q2), .second, .val (.long q3), .second, .val (.long q4), .second, .val (.long q5), .second, .val (.int (2 : Int32)), .val (.int v186), .val (.int v187), .val (.int v188), .val (.ref b459), .val (.ref b475), .val (.long q4), .second, .val (.long q5), .second, .val (.long v494), .second, .val (.long v495), .second, .unset, .unset] [(.int (0 : Int32)), (.ref b496), (.ref b496)])) _
      refine XS.lload X496.here hx rfl (hb hby at_177) rfl ?_
      show Steps p.tables e below (T496.setTop (mkF m 179 #[.val (.int p0), .val (.long q1), .second, .val (.long q2), .second, .val (.long q3), .second, .val (.long q4), .second, .val (.long q5), .second, .val (.int (2 : Int32)), .val (.int v186), .val (.int v187), .val (.int v188), .val (.ref b459), .val (.ref b475), .val (.long q4), .second, .val (.long q5), .second, .val (.long v494), .second, .val (.long v495), .second, .unset, .unset] [(.long q4), (.int (0 : Int32)), (.ref b496), (.ref b496)])) _
      refine st503 _ ?_
      show Steps p.tables e below (T503.setTop (mkF m 180 #[.val (.int p0), .val (.long q1), .second, .val (.long q2), .second, .val (.long q3), .second, .val (.long q4), .second, .val (.long q5), .second, .val (.int (2 : Int32)), .val (.int v186), .val (.int v187), .val (.int v188), .val (.ref b459), .val (.ref b475), .val (.long q4), .second, .val (.long q5), .second, .val (.long v494), .second, .val (.long v495), .second, .unset, .unset] [(.ref b496)])) _
      refine XS.dup X503.here hx rfl (hb hby at_180) rfl rfl ?_
      show Steps p.tables e below (T503.setTop (mkF m 181 #[.val (.int p0), .val (.long q1), .second, .val (.long q2), .second, .val (.long q3), .second, .val (.long q4), .second, .val (.long q5), .second, .val (.int (2 : Int32)), .val (.int v186), .val (.int v187), .val (.int v188), .val (.ref b459), .val (.ref b475), .val (.long q4), .second, .val (.long q5), .second, .val (.long v494), .second, .val (.long v495), .second, .unset, .unset] [(.ref b496), (.ref b496)])) _
      refine XS.iconst X503.here hx rfl (hb hby at_181) ?_
      show Steps p.tables e below (T503.setTop (mkF m 182 #[.val (.int p0), .val (.long q1), .second, .val (.long q2), .second, .val (.long q3), .second, .val (.long q4), .second, .val (.long q5), .second, .val (.int (2 : Int32)), .val (.int v186), .val (.int v187), .val (.int v188), .val (.ref b459), .val (.ref b475), .val (.long q4), .second, .val (.long q5), .second, .val (.long v494), .second, .val (.long v495), .second, .unset, .unset] [(.int (1 : Int32)), (.ref b496), (.ref b496)])) _
      refine XS.lload X503.here hx rfl (hb hby at_182) rfl ?_
      show Steps p.tables e below (T503.setTop (mkF m 184 #[.val (.int p0), .val (.long q1), .second, .val (.long q2), .second, .val (.long q3), .second, .val (.long q4), .second, .val (.long q5), .second, .val (.int (2 : Int32)), .val (.int v186), .val (.int v187), .val (.int v188), .val (.ref b459), .val (.ref b475), .val (.long q4), .second, .val (.long q5), .second, .val (.long v494), .second, .val (.long v495), .second, .unset, .unset] [(.long q5), (.int (1 : Int32)), (.ref b496), (.ref b496)])) _
      refine st511 _ ?_
      show Steps p.tables e below (T511.setTop (mkF m 185 #[.val (.int p0), .val (.long q1), .second, .val (.long q2), .second, .val (.long q3), .second, .val (.long q4), .second, .val (.long q5), .second, .val (.int (2 : Int32)), .val (.int v186), .val (.int v187), .val (.int v188), .val (.ref b459), .val (.ref b475), .val (.long q4), .second, .val (.long q5), .second, .val (.long v494), .second, .val (.long v495), .second, .unset, .unset] [(.ref b496)])) _
      refine XS.dup X511.here hx rfl (hb hby at_185) rfl rfl ?_
      show Steps p.tables e below (T511.setTop (mkF m 186 #[.val (.int p0), .val (.long q1), .second, .val (.long q2), .second, .val (.long q3), .second, .val (.long q4), .second, .val (.long q5), .second, .val (.int (2 : Int32)), .val (.int v186), .val (.int v187), .val (.int v188), .val (.ref b459), .val (.ref b475), .val (.long q4), .second, .val (.long q5), .second, .val (.long v494), .second, .val (.long v495), .second, .unset, .unset] [(.ref b496), (.ref b496)])) _
      refine XS.iconst X511.here hx rfl (hb hby at_186) ?_
      show Steps p.tables e below (T511.setTop (mkF m 187 #[.val (.int p0), .val (.long q1), .second, .val (.long q2), .second, .val (.long q3), .second, .val (.long q4), .second, .val (.long q5), .second, .val (.int (2 : Int32)), .val (.int v186), .val (.int v187), .val (.int v188), .val (.ref b459), .val (.ref b475), .val (.long q4), .second, .val (.long q5), .second, .val (.long v494), .second, .val (.long v495), .second, .unset, .unset] [(.int (2 : Int32)), (.ref b496), (.ref b496)])) _
      refine XS.lload X511.here hx rfl (hb hby at_187) rfl ?_
      show Steps p.tables e below (T511.setTop (mkF m 189 #[.val (.int p0), .val (.long q1), .second, .val (.long q2), .second, .val (.long q3), .second, .val (.long q4), .second, .val (.long q5), .second, .val (.int (2 : Int32)), .val (.int v186), .val (.int v187), .val (.int v188), .val (.ref b459), .val (.ref b475), .val (.long q4), .second, .val (.long q5), .second, .val (.long v494), .second, .val (.long v495), .second, .unset, .unset] [(.long v494), (.int (2 : Int32)), (.ref b496), (.ref b496)])) _
      refine st519 _ ?_
      show Steps p.tables e below (T519.setTop (mkF m 190 #[.val (.int p0), .val (.long q1), .second, .val (.long q2), .second, .val (.long q3), .second, .val (.long q4), .second, .val (.long q5), .second, .val (.int (2 : Int32)), .val (.int v186), .val (.int v187), .val (.int v188), .val (.ref b459), .val (.ref b475), .val (.long q4), .second, .val (.long q5), .second, .val (.long v494), .second, .val (.long v495), .second, .unset, .unset] [(.ref b496)])) _
      refine XS.dup X519.here hx rfl (hb hby at_190) rfl rfl ?_
      show Steps p.tables e below (T519.setTop (mkF m 191 #[.val (.int p0), .val (.long q1), .second, .val (.long q2), .second, .val (.long q3), .second, .val (.long q4), .second, .val (.long q5), .second, .val (.int (2 : Int32)), .val (.int v186), .val (.int v187), .val (.int v188), .val (.ref b459), .val (.ref b475), .val (.long q4), .second, .val (.long q5), .second, .val (.long v494), .second, .val (.long v495), .second, .unset, .unset] [(.ref b496), (.ref b496)])) _
      refine XS.iconst X519.here hx rfl (hb hby at_191) ?_
      show Steps p.tables e below (T519.setTop (mkF m 192 #[.val (.int p0), .val (.long q1), .second, .val (.long q2), .second, .val (.long q3), .second, .val (.long q4), .second, .val (.long q5), .second, .val (.int (2 : Int32)), .val (.int v186), .val (.int v187), .val (.int v188), .val (.ref b459), .val (.ref b475), .val (.long q4), .second, .val (.long q5), .second, .val (.long v494), .second, .val (.long v495), .second, .unset, .unset] [(.int (3 : Int32)), (.ref b496), (.ref b496)])) _
      refine XS.lload X519.here hx rfl (hb hby at_192) rfl ?_
      show Steps p.tables e below (T519.setTop (mkF m 194 #[.val (.int p0), .val (.long q1), .second, .val (.long q2), .second, .val (.long q3), .second, .val (.long q4), .second, .val (.long q5), .second, .val (.int (2 : Int32)), .val (.int v186), .val (.int v187), .val (.int v188), .val (.ref b459), .val (.ref b475), .val (.long q4), .second, .val (.long q5), .second, .val (.long v494), .second, .val (.long v495), .second, .unset, .unset] [(.long v495), (.int (3 : Int32)), (.ref b496), (.ref b496)])) _
      refine st527 _ ?_
      show Steps p.tables e below (T527.setTop (mkF m 195 #[.val (.int p0), .val (.long q1), .second, .val (.long q2), .second, .val (.long q3), .second, .val (.long q4), .second, .val (.long q5), .second, .val (.int (2 : Int32)), .val (.int v186), .val (.int v187), .val (.int v188), .val (.ref b459), .val (.ref b475), .val (.long q4), .second, .val (.long q5), .second, .val (.long v494), .second, .val (.long v495), .second, .unset, .unset] [(.ref b496)])) _
      refine XS.astore X527.here hx rfl (hb hby at_195) rfl rfl (l' := #[.val (.int p0), .val (.long q1), .second, .val (.long q2), .second, .val (.long q3), .second, .val (.long q4), .second, .val (.long q5), .second, .val (.int (2 : Int32)), .val (.int v186), .val (.int v187), .val (.int v188), .val (.ref b459), .val (.ref b475), .val (.long q4), .second, .val (.long q5), .second, .val (.long v494), .second, .val (.long v495), .second, .val (.ref b496), .unset]) rfl ?_
      show Steps p.tables e below (T527.setTop (mkF m 197 #[.val (.int p0), .val (.long q1), .second, .val (.long q2), .second, .val (.long q3), .second, .val (.long q4), .second, .val (.long q5), .second, .val (.int (2 : Int32)), .val (.int v186), .val (.int v187), .val (.int v188), .val (.ref b459), .val (.ref b475), .val (.long q4), .second, .val (.long q5), .second, .val (.long v494), .second, .val (.long v495), .second, .val (.ref b496), .unset] [])) _
      refine st534 _ ?_
      show Steps p.tables e below (T534.setTop (mkF m 200 #[.val (.int p0), .val (.long q1), .second, .val (.long q2), .second, .val (.long q3), .second, .val (.long q4), .second, .val (.long q5), .second, .val (.int (2 : Int32)), .val (.int v186), .val (.int v187), .val (.int v188), .val (.ref b459), .val (.ref b475), .val (.long q4), .second, .val (.long q5), .second, .val (.long v494), .second, .val (.long v495), .second, .val (.ref b496), .unset] [(.ref b534)])) _
      refine XS.dup X534.here hx rfl (hb hby at_200) rfl rfl ?_
      show Steps p.tables e below (T534.setTop (mkF m 201 #[.val (.int p0), .val (.long q1), .second, .val (.long q2), .second, .val (.long q3), .second, .val (.long q4), .second, .val (.long q5), .second, .val (.int (2 : Int32)), .val (.int v186), .val (.int v187), .val (.int v188), .val (.ref b459), .val (.ref b475), .val (.long q4), .second, .val (.long q5), .second, .val (.long v494), .second, .val (.long v495), .second, .val (.ref b496), .unset] [(.ref b534), (.ref b534)])) _
      refine XS.aload X534.here hx rfl (hb hby at_201) rfl rfl ?_
      show Steps p.tables e below (T534.setTop (mkF m 203 #[.val (.int p0), .val (.long q1), .second, .val (.long q2), .second, .val (.long q3), .second, .val (.long q4), .second, .val (.long q5), .second, .val (.int (2 : Int32)), .val (.int v186), .val (.int v187), .val (.int v188), .val (.ref b459), .val (.ref b475), .val (.long q4), .second, .val (.long q5), .second, .val (.long v494), .second, .val (.long v495), .second, .val (.ref b496), .unset] [(.ref b459), (.ref b534), (.ref b534)])) _
      refine XS.aload X534.here hx rfl (hb hby at_203) rfl rfl ?_
      show Steps p.tables e below (T534.setTop (mkF m 205 #[.val (.int p0), .val (.long q1), .second, .val (.long q2), .second, .val (.long q3), .second, .val (.long q4), .second, .val (.long q5), .second, .val (.int (2 : Int32)), .val (.int v186), .val (.int v187), .val (.int v188), .val (.ref b459), .val (.ref b475), .val (.long q4), .second, .val (.long q5), .second, .val (.long v494), .second, .val (.long v495), .second, .val (.ref b496), .unset] [(.ref b475), (.ref b459), (.ref b534), (.ref b534)])) _
      refine XS.iconst X534.here hx rfl (hb hby at_205) ?_
      show Steps p.tables e below (T534.setTop (mkF m 206 #[.val (.int p0), .val (.long q1), .second, .val (.long q2), .second, .val (.long q3), .second, .val (.long q4), .second, .val (.long q5), .second, .val (.int (2 : Int32)), .val (.int v186), .val (.int v187), .val (.int v188), .val (.ref b459), .val (.ref b475), .val (.long q4), .second, .val (.long q5), .second, .val (.long v494), .second, .val (.long v495), .second, .val (.ref b496), .unset] [(.int (1 : Int32)), (.ref b475), (.ref b459), (.ref b534), (.ref b534)])) _
      refine st543 _ ?_
      show Steps p.tables e below (T543.setTop (mkF m 208 #[.val (.int p0), .val (.long q1), .second, .val (.long q2), .second, .val (.long q3), .second, .val (.long q4), .second, .val (.long q5), .second, .val (.int (2 : Int32)), .val (.int v186), .val (.int v187), .val (.int v188), .val (.ref b459), .val (.ref b475), .val (.long q4), .second, .val (.long q5), .second, .val (.long v494), .second, .val (.long v495), .second, .val (.ref b496), .unset] [(.ref b543), (.ref b475), (.ref b459), (.ref b534), (.ref b534)])) _
      refine XS.dup X543.here hx rfl (hb hby at_208) rfl rfl ?_
      show Steps p.tables e below (T543.setTop (mkF m 209 #[.val (.int p0), .val (.long q1), .second, .val (.long q2), .second, .val (.long q3), .second, .val (.long q4), .second, .val (.long q5), .second, .val (.int (2 : Int32)), .val (.int v186), .val (.int v187), .val (.int v188), .val (.ref b459), .val (.ref b475), .val (.long q4), .second, .val (.long q5), .second, .val (.long v494), .second, .val (.long v495), .second, .val (.ref b496), .unset] [(.ref b543), (.ref b543), (.ref b475), (.ref b459), (.ref b534), (.ref b534)])) _
      refine XS.iconst X543.here hx rfl (hb hby at_209) ?_
      show Steps p.tables e below (T543.setTop (mkF m 210 #[.val (.int p0), .val (.long q1), .second, .val (.long q2), .second, .val (.long q3), .second, .val (.long q4), .second, .val (.long q5), .second, .val (.int (2 : Int32)), .val (.int v186), .val (.int v187), .val (.int v188), .val (.ref b459), .val (.ref b475), .val (.long q4), .second, .val (.long q5), .second, .val (.long v494), .second, .val (.long v495), .second, .val (.ref b496), .unset] [(.int (0 : Int32)), (.ref b543), (.ref b543), (.ref b475), (.ref b459), (.ref b534), (.ref b534)])) _
      refine XS.iload X543.here hx rfl (hb hby at_210) rfl ?_
      show Steps p.tables e below (T543.setTop (mkF m 212 #[.val (.int p0), .val (.long q1), .second, .val (.long q2), .second, .val (.long q3), .second, .val (.long q4), .second, .val (.long q5), .second, .val (.int (2 : Int32)), .val (.int v186), .val (.int v187), .val (.int v188), .val (.ref b459), .val (.ref b475), .val (.long q4), .second, .val (.long q5), .second, .val (.long v494), .second, .val (.long v495), .second, .val (.ref b496), .unset] [(.int v188), (.int (0 : Int32)), (.ref b543), (.ref b543), (.ref b475), (.ref b459), (.ref b534), (.ref b534)])) _
      refine st555 _ ?_
      show Steps p.tables e below (T555.setTop (mkF m 213 #[.val (.int p0), .val (.long q1), .second, .val (.long q2), .second, .val (.long q3), .second, .val (.long q4), .second, .val (.long q5), .second, .val (.int (2 : Int32)), .val (.int v186), .val (.int v187), .val (.int v188), .val (.ref b459), .val (.ref b475), .val (.long q4), .second, .val (.long q5), .second, .val (.long v494), .second, .val (.long v495), .second, .val (.ref b496), .unset] [(.ref b543), (.ref b475), (.ref b459), (.ref b534), (.ref b534)])) _
      refine st567.trans ?_
      show Steps p.tables e below (T567.setTop (mkF m 216 #[.val (.int p0), .val (.long q1), .second, .val (.long q2), .second, .val (.long q3), .second, .val (.long q4), .second, .val (.long q5), .second, .val (.int (2 : Int32)), .val (.int v186), .val (.int v187), .val (.int v188), .val (.ref b459), .val (.ref b475), .val (.long q4), .second, .val (.long q5), .second, .val (.long v494), .second, .val (.long v495), .second, .val (.ref b496), .unset] [(.ref b534)])) _
      refine XS.astore X567.here hx rfl (hb hby at_216) rfl rfl (l' := #[.val (.int p0), .val (.long q1), .second, .val (.long q2), .second, .val (.long q3), .second, .val (.long q4), .second, .val (.long q5), .second, .val (.int (2 : Int32)), .val (.int v186), .val (.int v187), .val (.int v188), .val (.ref b459), .val (.ref b475), .val (.long q4), .second, .val (.long q5), .second, .val (.long v494), .second, .val (.long v495), .second, .val (.ref b496), .val (.ref b534)]) rfl ?_
      show Steps p.tables e below (T567.setTop (mkF m 218 #[.val (.int p0), .val (.long q1), .second, .val (.long q2), .second, .val (.long q3), .second, .val (.long q4), .second, .val (.long q5), .second, .val (.int (2 : Int32)), .val (.int v186), .val (.int v187), .val (.int v188), .val (.ref b459), .val (.ref b475), .val (.long q4), .second, .val (.long q5), .second, .val (.long v494), .second, .val (.long v495), .second, .val (.ref b496), .val (.ref b534)] [])) _
      refine XS.aload X567.here hx rfl (hb hby at_218) rfl rfl ?_
      show Steps p.tables e below (T567.setTop (mkF m 220 #[.val (.int p0), .val (.long q1), .second, .val (.long q2), .second, .val (.long q3), .second, .val (.long q4), .second, .val (.long q5), .second, .val (.int (2 : Int32)), .val (.int v186), .val (.int v187), .val (.int v188), .val (.ref b459), .val (.ref b475), .val (.long q4), .second, .val (.long q5), .second, .val (.long v494), .second, .val (.long v495), .second, .val (.ref b496), .val (.ref b534)] [(.ref b534)])) _
      refine XS.aload X567.here hx rfl (hb hby at_220) rfl rfl ?_
      show Steps p.tables e below (T567.setTop (mkF m 222 #[.val (.int p0), .val (.long q1), .second, .val (.long q2), .second, .val (.long q3), .second, .val (.long q4), .second, .val (.long q5), .second, .val (.int (2 : Int32)), .val (.int v186), .val (.int v187), .val (.int v188), .val (.ref b459), .val (.ref b475), .val (.long q4), .second, .val (.long q5), .second, .val (.long v494), .second, .val (.long v495), .second, .val (.ref b496), .val (.ref b534)] [(.ref b496), (.ref b534)])) _
      refine st579.trans ?_
      show Steps p.tables e below (T579.setTop (mkF m 225 #[.val (.int p0), .val (.long q1), .second, .val (.long q2), .second, .val (.long q3), .second, .val (.long q4), .second, .val (.long q5), .second, .val (.int (2 : Int32)), .val (.int v186), .val (.int v187), .val (.int v188), .val (.ref b459), .val (.ref b475), .val (.long q4), .second, .val (.long q5), .second, .val (.long v494), .second, .val (.long v495), .second, .val (.ref b496), .val (.ref b534)] [])) _
      refine XS.aload X579.here hx rfl (hb hby at_225) rfl rfl ?_
      show Steps p.tables e below (T579.setTop (mkF m 227 #[.val (.int p0), .val (.long q1), .second, .val (.long q2), .second, .val (.long q3), .second, .val (.long q4), .second, .val (.long q5), .second, .val (.int (2 : Int32)), .val (.int v186), .val (.int v187), .val (.int v188), .val (.ref b459), .val (.ref b475), .val (.long q4), .second, .val (.long q5), .second, .val (.long v494), .second, .val (.long v495), .second, .val (.ref b496), .val (.ref b534)] [(.ref b496)])) _
      refine X579.arraylength hx Ar593.1 (State.isArrayOf_alike hZ.alike Ar593.2.1) (g := (mkF m 227 #[.val (.int p0), .val (.long q1), .second, .val (.long q2), .second, .val (.long q3), .second, .val (.long q4), .second, .val (.long q5), .second, .val (.int (2 : Int32)), .val (.int v186), .val (.int v187), .val (.int v188), .val (.ref b459), .val (.ref b475), .val (.long q4), .second, .val (.long q5), .second, .val (.long v494), .second, .val (.long v495), .second, .val (.ref b496), .val (.ref b534)] [(.ref b496)])) rfl rfl (hb hby at_227) _ ?_
      rw [len_of S593 M593]
      show Steps p.tables e below (T579.setTop (mkF m 228 #[.val (.int p0), .val (.long q1), .second, .val (.long q2), .second, .val (.long q3), .second, .val (.long q4), .second, .val (.long q5), .second, .val (.int (2 : Int32)), .val (.int v186), .val (.int v187), .val (.int v188), .val (.ref b459), .val (.ref b475), .val (.long q4), .second, .val (.long q5), .second, .val (.long v494), .second, .val (.long v495), .second, .val (.ref b496), .val (.ref b534)] [(.int (4 : Int32))])) _
      refine XS.iconst X579.here hx rfl (hb hby at_228) ?_
      show Steps p.tables e below (T579.setTop (mkF m 229 #[.val (.int p0), .val (.long q1), .second, .val (.long q2), .second, .val (.long q3), .second, .val (.long q4), .second, .val (.long q5), .second, .val (.int (2 : Int32)), .val (.int v186), .val (.int v187), .val (.int v188), .val (.ref b459), .val (.ref b475), .val (.long q4), .second, .val (.long q5), .second, .val (.long v494), .second, .val (.long v495), .second, .val (.ref b496), .val (.ref b534)] [(.int (4 : Int32)), (.int (4 : Int32))])) _
      refine XS.icmpNo X579.here hx rfl (hb hby at_229) rfl (teq (by decide : (4 : Int32) = (4 : Int32))).2 ?_
      show Steps p.tables e below (T579.setTop (mkF m 232 #[.val (.int p0), .val (.long q1), .second, .val (.long q2), .second, .val (.long q3), .second, .val (.long q4), .second, .val (.long q5), .second, .val (.int (2 : Int32)), .val (.int v186), .val (.int v187), .val (.int v188), .val (.ref b459), .val (.ref b475), .val (.long q4), .second, .val (.long q5), .second, .val (.long v494), .second, .val (.long v495), .second, .val (.ref b496), .val (.ref b534)] [])) _
      refine XS.aload X579.here hx rfl (hb hby at_232) rfl rfl ?_
      show Steps p.tables e below (T579.setTop (mkF m 234 #[.val (.int p0), .val (.long q1), .second, .val (.long q2), .second, .val (.long q3), .second, .val (.long q4), .second, .val (.long q5), .second, .val (.int (2 : Int32)), .val (.int v186), .val (.int v187), .val (.int v188), .val (.ref b459), .val (.ref b475), .val (.long q4), .second, .val (.long q5), .second, .val (.long v494), .second, .val (.long v495), .second, .val (.ref b496), .val (.ref b534)] [(.ref b496)])) _
      refine XS.iconst X579.here hx rfl (hb hby at_234) ?_
      show Steps p.tables e below (T579.setTop (mkF m 235 #[.val (.int p0), .val (.long q1), .second, .val (.long q2), .second, .val (.long q3), .second, .val (.long q4), .second, .val (.long q5), .second, .val (.int (2 : Int32)), .val (.int v186), .val (.int v187), .val (.int v188), .val (.ref b459), .val (.ref b475), .val (.long q4), .second, .val (.long q5), .second, .val (.long v494), .second, .val (.long v495), .second, .val (.ref b496), .val (.ref b534)] [(.int (0 : Int32)), (.ref b496)])) _
      refine X579.laload hx (j := (0 : Int32)) (v := (.long ((own_upd (own_upd (own_g4 q4 q5 v494 v495) v186 q1) v187 q2) 0))) Ar594.1 (State.isArrayOf_alike hZ.alike Ar594.2.1) Ar594.2.2 hin594 hat594 (g := (mkF m 235 #[.val (.int p0), .val (.long q1), .second, .val (.long q2), .second, .val (.long q3), .second, .val (.long q4), .second, .val (.long q5), .second, .val (.int (2 : Int32)), .val (.int v186), .val (.int v187), .val (.int v188), .val (.ref b459), .val (.ref b475), .val (.long q4), .second, .val (.long q5), .second, .val (.long v494), .second, .val (.long v495), .second, .val (.ref b496), .val (.ref b534)] [(.int (0 : Int32)), (.ref b496)])) rfl rfl (hb hby at_235) _ ?_
      show Steps p.tables e below (T579.setTop (mkF m 236 #[.val (.int p0), .val (.long q1), .second, .val (.long q2), .second, .val (.long q3), .second, .val (.long q4), .second, .val (.long q5), .second, .val (.int (2 : Int32)), .val (.int v186), .val (.int v187), .val (.int v188), .val (.ref b459), .val (.ref b475), .val (.long q4), .second, .val (.long q5), .second, .val (.long v494), .second, .val (.long v495), .second, .val (.ref b496), .val (.ref b534)] [(.long ((own_upd (own_upd (own_g4 q4 q5 v494 v495) v186 q1) v187 q2) 0))])) _
      refine XS.iconst X579.here hx rfl (hb hby at_236) ?_
      show Steps p.tables e below (T579.setTop (mkF m 237 #[.val (.int p0), .val (.long q1), .second, .val (.long q2), .second, .val (.long q3), .second, .val (.long q4), .second, .val (.long q5), .second, .val (.int (2 : Int32)), .val (.int v186), .val (.int v187), .val (.int v188), .val (.ref b459), .val (.ref b475), .val (.long q4), .second, .val (.long q5), .second, .val (.long v494), .second, .val (.long v495), .second, .val (.ref b496), .val (.ref b534)] [(.int (0 : Int32)), (.long ((own_upd (own_upd (own_g4 q4 q5 v494 v495) v186 q1) v187 q2) 0))])) _
      refine XS.iload X579.here hx rfl (hb hby at_237) rfl ?_
      show Steps p.tables e below (T579.setTop (mkF m 239 #[.val (.int p0), .val (.long q1), .second, .val (.long q2), .second, .val (.long q3), .second, .val (.long q4), .second, .val (.long q5), .second, .val (.int (2 : Int32)), .val (.int v186), .val (.int v187), .val (.int v188), .val (.ref b459), .val (.ref b475), .val (.long q4), .second, .val (.long q5), .second, .val (.long v494), .second, .val (.long v495), .second, .val (.ref b496), .val (.ref b534)] [(.int (2 : Int32)), (.int (0 : Int32)), (.long ((own_upd (own_upd (own_g4 q4 q5 v494 v495) v186 q1) v187 q2) 0))])) _
      refine XS.iload X579.here hx rfl (hb hby at_239) rfl ?_
      show Steps p.tables e below (T579.setTop (mkF m 241 #[.val (.int p0), .val (.long q1), .second, .val (.long q2), .second, .val (.long q3), .second, .val (.long q4), .second, .val (.long q5), .second, .val (.int (2 : Int32)), .val (.int v186), .val (.int v187), .val (.int v188), .val (.ref b459), .val (.ref b475), .val (.long q4), .second, .val (.long q5), .second, .val (.long v494), .second, .val (.long v495), .second, .val (.ref b496), .val (.ref b534)] [(.int v186), (.int (2 : Int32)), (.int (0 : Int32)), (.long ((own_upd (own_upd (own_g4 q4 q5 v494 v495) v186 q1) v187 q2) 0))])) _
      refine XS.iload X579.here hx rfl (hb hby at_241) rfl ?_
      show Steps p.tables e below (T579.setTop (mkF m 243 #[.val (.int p0), .val (.long q1), .second, .val (.long q2), .second, .val (.long q3), .second, .val (.long q4), .second, .val (.long q5), .second, .val (.int (2 : Int32)), .val (.int v186), .val (.int v187), .val (.int v188), .val (.ref b459), .val (.ref b475), .val (.long q4), .second, .val (.long q5), .second, .val (.long v494), .second, .val (.long v495), .second, .val (.ref b496), .val (.ref b534)] [(.int v187), (.int v186), (.int (2 : Int32)), (.int (0 : Int32)), (.long ((own_upd (own_upd (own_g4 q4 q5 v494 v495) v186 q1) v187 q2) 0))])) _
      refine XS.iload X579.here hx rfl (hb hby at_243) rfl ?_
      show Steps p.tables e below (T579.setTop (mkF m 245 #[.val (.int p0), .val (.long q1), .second, .val (.long q2), .second, .val (.long q3), .second, .val (.long q4), .second, .val (.long q5), .second, .val (.int (2 : Int32)), .val (.int v186), .val (.int v187), .val (.int v188), .val (.ref b459), .val (.ref b475), .val (.long q4), .second, .val (.long q5), .second, .val (.long v494), .second, .val (.long v495), .second, .val (.ref b496), .val (.ref b534)] [(.int v188), (.int v187), (.int v186), (.int (2 : Int32)), (.int (0 : Int32)), (.long ((own_upd (own_upd (own_g4 q4 q5 v494 v495) v186 q1) v187 q2) 0))])) _
      refine XS.lloadN X579.here hx rfl (hb hby at_245) rfl ?_
      show Steps p.tables e below (T579.setTop (mkF m 246 #[.val (.int p0), .val (.long q1), .second, .val (.long q2), .second, .val (.long q3), .second, .val (.long q4), .second, .val (.long q5), .second, .val (.int (2 : Int32)), .val (.int v186), .val (.int v187), .val (.int v188), .val (.ref b459), .val (.ref b475), .val (.long q4), .second, .val (.long q5), .second, .val (.long v494), .second, .val (.long v495), .second, .val (.ref b496), .val (.ref b534)] [(.long q1), (.int v188), (.int v187), (.int v186), (.int (2 : Int32)), (.int (0 : Int32)), (.long ((own_upd (own_upd (own_g4 q4 q5 v494 v495) v186 q1) v187 q2) 0))])) _
      refine XS.lloadN X579.here hx rfl (hb hby at_246) rfl ?_
      show Steps p.tables e below (T579.setTop (mkF m 247 #[.val (.int p0), .val (.long q1), .second, .val (.long q2), .second, .val (.long q3), .second, .val (.long q4), .second, .val (.long q5), .second, .val (.int (2 : Int32)), .val (.int v186), .val (.int v187), .val (.int v188), .val (.ref b459), .val (.ref b475), .val (.long q4), .second, .val (.long q5), .second, .val (.long v494), .second, .val (.long v495), .second, .val (.ref b496), .val (.ref b534)] [(.long q2), (.long q1), (.int v188), (.int v187), (.int v186), (.int (2 : Int32)), (.int (0 : Int32)), (.long ((own_upd (own_upd (own_g4 q4 q5 v494 v495) v186 q1) v187 q2) 0))])) _
      refine XS.lload X579.here hx rfl (hb hby at_247) rfl ?_
      show Steps p.tables e below (T579.setTop (mkF m 249 #[.val (.int p0), .val (.long q1), .second, .val (.long q2), .second, .val (.long q3), .second, .val (.long q4), .second, .val (.long q5), .second, .val (.int (2 : Int32)), .val (.int v186), .val (.int v187), .val (.int v188), .val (.ref b459), .val (.ref b475), .val (.long q4), .second, .val (.long q5), .second, .val (.long v494), .second, .val (.long v495), .second, .val (.ref b496), .val (.ref b534)] [(.long q3), (.long q2), (.long q1), (.int v188), (.int v187), (.int v186), (.int (2 : Int32)), (.int (0 : Int32)), (.long ((own_upd (own_upd (own_g4 q4 q5 v494 v495) v186 q1) v187 q2) 0))])) _
      refine XS.lload X579.here hx rfl (hb hby at_249) rfl ?_
      show Steps p.tables e below (T579.setTop (mkF m 251 #[.val (.int p0), .val (.long q1), .second, .val (.long q2), .second, .val (.long q3), .second, .val (.long q4), .second, .val (.long q5), .second, .val (.int (2 : Int32)), .val (.int v186), .val (.int v187), .val (.int v188), .val (.ref b459), .val (.ref b475), .val (.long q4), .second, .val (.long q5), .second, .val (.long v494), .second, .val (.long v495), .second, .val (.ref b496), .val (.ref b534)] [(.long q4), (.long q3), (.long q2), (.long q1), (.int v188), (.int v187), (.int v186), (.int (2 : Int32)), (.int (0 : Int32)), (.long ((own_upd (own_upd (own_g4 q4 q5 v494 v495) v186 q1) v187 q2) 0))])) _
      refine st595 _ ?_
      show Steps p.tables e below (T595.setTop (mkF m 254 #[.val (.int p0), .val (.long q1), .second, .val (.long q2), .second, .val (.long q3), .second, .val (.long q4), .second, .val (.long q5), .second, .val (.int (2 : Int32)), .val (.int v186), .val (.int v187), .val (.int v188), .val (.ref b459), .val (.ref b475), .val (.long q4), .second, .val (.long q5), .second, .val (.long v494), .second, .val (.long v495), .second, .val (.ref b496), .val (.ref b534)] [(.long (own_f5 (0 : Int32) (2 : Int32) v186 v187 v188 q1 q2 q3 q4)), (.long ((own_upd (own_upd (own_g4 q4 q5 v494 v495) v186 q1) v187 q2) 0))])) _
      refine XS.lcmp X595.here hx rfl (hb hby at_254) rfl ?_
      show Steps p.tables e below (T595.setTop (mkF m 255 #[.val (.int p0), .val (.long q1), .second, .val (.long q2), .second, .val (.long q3), .second, .val (.long q4), .second, .val (.long q5), .second, .val (.int (2 : Int32)), .val (.int v186), .val (.int v187), .val (.int v188), .val (.ref b459), .val (.ref b475), .val (.long q4), .second, .val (.long q5), .second, .val (.long v494), .second, .val (.long v495), .second, .val (.ref b496), .val (.ref b534)] [(.int (lcmpW ((own_upd (own_upd (own_g4 q4 q5 v494 v495) v186 q1) v187 q2) 0) (own_f5 (0 : Int32) (2 : Int32) v186 v187 v188 q1 q2 q3 q4)))])) _
      exact kk)
    by_cases hc599 : ((own_upd (own_upd (own_g4 q4 q5 v494 v495) v186 q1) v187 q2) 0) = (own_f5 (0 : Int32) (2 : Int32) v186 v187 v188 q1 q2 q3 q4)
    · obtain ⟨cl600, Ar600, q600, S600, M600, H600, G600⟩ := id f583
      have hin600 : ¬ ((1 : Int32) < 0 ∨ cl600.slots.size ≤ ((1 : Int32)).toNatClampNeg) := inb_of S600 ⟨by decide, by decide⟩
      have hat600 : cl600.slots[((1 : Int32)).toNatClampNeg]? = some (.long ((own_upd (own_upd (own_g4 q4 q5 v494 v495) v186 q1) v187 q2) 1)) := H600.at hin600 rfl
      obtain ⟨_, _, ⟨T601, L601, k601, n601⟩, -, X601, ⟨Lc601, hQ601, l601, y601, z601⟩, st601⟩ := Jvm.LawKit.callS X595 hx (y := (⟨"com/example/thyme/thyme/engine/RestartWritePinLaw", "expect", "(IIIIIJJJJ)J"⟩ : MethodName)) hown (mvT hZ (hw _ (List.mem_of_getElem? (i := 28) rfl))) (mvT hZ (hw _ (List.mem_of_getElem? (i := 29) rfl))) (mvT hZ (hw _ (List.mem_of_getElem? (i := 30) rfl))) (mvT hZ (hw _ (List.mem_of_getElem? (i := 31) rfl))) (by decide) (backOf (W := 2) (own_rm5 l Z av hw [] (1 : Int32) (2 : Int32) v186 v187 v188 q1 q2 q3 q5 T579.heap n0 z592 ) hZ (hw _ (List.mem_of_getElem? (i := 31) rfl)) (hw _ (List.mem_of_getElem? (i := 30) rfl)) (by decide) (by decide)) (g := (mkF m 277 #[.val (.int p0), .val (.long q1), .second, .val (.long q2), .second, .val (.long q3), .second, .val (.long q4), .second, .val (.long q5), .second, .val (.int (2 : Int32)), .val (.int v186), .val (.int v187), .val (.int v188), .val (.ref b459), .val (.ref b475), .val (.long q4), .second, .val (.long q5), .second, .val (.long v494), .second, .val (.long v495), .second, .val (.ref b496), .val (.ref b534)] [(.long q5), (.long q3), (.long q2), (.long q1), (.int v188), (.int v187), (.int v186), (.int (2 : Int32)), (.int (1 : Int32)), (.long ((own_upd (own_upd (own_g4 q4 q5 v494 v495) v186 q1) v187 q2) 1))])) rfl (by rw [hml]; rfl) (argsL := [(.int (1 : Int32)), (.int (2 : Int32)), (.int v186), (.int v187), (.int v188), (.long q1), (.long q2), (.long q3), (.long q5)]) (rest := [(.long ((own_upd (own_upd (own_g4 q4 q5 v494 v495) v186 q1) v187 q2) 1))]) (lenOf own_pd3 rfl) rfl (by show 2 * 0 + _ ≤ _; exact Nat.le_of_eq rfl) (hb hby at_277) (fun _ _ => ⟨rfl, e597, (by decide : 5 + 0 ≤ _), (by decide : 12 + 0 ≤ _)⟩)
      dsimp only [Pt.U, Pt.locs, Pt.cells, Pt.slots] at X601 l601 y601 z601 st601 hQ601
      subst l601 y601 z601
      obtain ⟨rfl, N601q, e603⟩ := hQ601
      have N602 := Fr.app N596 N601q
      have pre604 : ∀ t, Steps p.tables e below (T601.setTop (mkF m 281 #[.val (.int p0), .val (.long q1), .second, .val (.long q2), .second, .val (.long q3), .second, .val (.long q4), .second, .val (.long q5), .second, .val (.int (2 : Int32)), .val (.int v186), .val (.int v187), .val (.int v188), .val (.ref b459), .val (.ref b475), .val (.long q4), .second, .val (.long q5), .second, .val (.long v494), .second, .val (.long v495), .second, .val (.ref b496), .val (.ref b534)] [(.int (lcmpW ((own_upd (own_upd (own_g4 q4 q5 v494 v495) v186 q1) v187 q2) 1) (own_f5 (1 : Int32) (2 : Int32) v186 v187 v188 q1 q2 q3 q5)))])) t → Steps p.tables e below (s₁.setTop (entryFrame m #[(.int p0), (.long q1), (.long q2), (.long q3), (.long q4), (.long q5)] maxLocals)) t := fun t kk => pre598 t (by
        show Steps p.tables e below (T595.setTop (mkF m 255 #[.val (.int p0), .val (.long q1), .second, .val (.long q2), .second, .val (.long q3), .second, .val (.long q4), .second, .val (.long q5), .second, .val (.int (2 : Int32)), .val (.int v186), .val (.int v187), .val (.int v188), .val (.ref b459), .val (.ref b475), .val (.long q4), .second, .val (.long q5), .second, .val (.long v494), .second, .val (.long v495), .second, .val (.ref b496), .val (.ref b534)] [(.int (lcmpW ((own_upd (own_upd (own_g4 q4 q5 v494 v495) v186 q1) v187 q2) 0) (own_f5 (0 : Int32) (2 : Int32) v186 v187 v188 q1 q2 q3 q4)))])) _
        refine XS.ifNo X595.here hx rfl (hb hby at_255) rfl ((if0 _ _).trans (teq ((lw_eq ((own_upd (own_upd (own_g4 q4 q5 v494 v495) v186 q1) v187 q2) 0) (own_f5 (0 : Int32) (2 : Int32) v186 v187 v188 q1 q2 q3 q4)).mpr hc599)).2) ?_
        show Steps p.tables e below (T595.setTop (mkF m 258 #[.val (.int p0), .val (.long q1), .second, .val (.long q2), .second, .val (.long q3), .second, .val (.long q4), .second, .val (.long q5), .second, .val (.int (2 : Int32)), .val (.int v186), .val (.int v187), .val (.int v188), .val (.ref b459), .val (.ref b475), .val (.long q4), .second, .val (.long q5), .second, .val (.long v494), .second, .val (.long v495), .second, .val (.ref b496), .val (.ref b534)] [])) _
        refine XS.aload X595.here hx rfl (hb hby at_258) rfl rfl ?_
        show Steps p.tables e below (T595.setTop (mkF m 260 #[.val (.int p0), .val (.long q1), .second, .val (.long q2), .second, .val (.long q3), .second, .val (.long q4), .second, .val (.long q5), .second, .val (.int (2 : Int32)), .val (.int v186), .val (.int v187), .val (.int v188), .val (.ref b459), .val (.ref b475), .val (.long q4), .second, .val (.long q5), .second, .val (.long v494), .second, .val (.long v495), .second, .val (.ref b496), .val (.ref b534)] [(.ref b496)])) _
        refine XS.iconst X595.here hx rfl (hb hby at_260) ?_
        show Steps p.tables e below (T595.setTop (mkF m 261 #[.val (.int p0), .val (.long q1), .second, .val (.long q2), .second, .val (.long q3), .second, .val (.long q4), .second, .val (.long q5), .second, .val (.int (2 : Int32)), .val (.int v186), .val (.int v187), .val (.int v188), .val (.ref b459), .val (.ref b475), .val (.long q4), .second, .val (.long q5), .second, .val (.long v494), .second, .val (.long v495), .second, .val (.ref b496), .val (.ref b534)] [(.int (1 : Int32)), (.ref b496)])) _
        refine X595.laload hx (j := (1 : Int32)) (v := (.long ((own_upd (own_upd (own_g4 q4 q5 v494 v495) v186 q1) v187 q2) 1))) (by rw [e597]; exact Ar600.1) (State.isArrayOf_alike hZ.alike Ar600.2.1) Ar600.2.2 hin600 hat600 (g := (mkF m 261 #[.val (.int p0), .val (.long q1), .second, .val (.long q2), .second, .val (.long q3), .second, .val (.long q4), .second, .val (.long q5), .second, .val (.int (2 : Int32)), .val (.int v186), .val (.int v187), .val (.int v188), .val (.ref b459), .val (.ref b475), .val (.long q4), .second, .val (.long q5), .second, .val (.long v494), .second, .val (.long v495), .second, .val (.ref b496), .val (.ref b534)] [(.int (1 : Int32)), (.ref b496)])) rfl rfl (hb hby at_261) _ ?_
        show Steps p.tables e below (T595.setTop (mkF m 262 #[.val (.int p0), .val (.long q1), .second, .val (.long q2), .second, .val (.long q3), .second, .val (.long q4), .second, .val (.long q5), .second, .val (.int (2 : Int32)), .val (.int v186), .val (.int v187), .val (.int v188), .val (.ref b459), .val (.ref b475), .val (.long q4), .second, .val (.long q5), .second, .val (.long v494), .second, .val (.long v495), .second, .val (.ref b496), .val (.ref b534)] [(.long ((own_upd (own_upd (own_g4 q4 q5 v494 v495) v186 q1) v187 q2) 1))])) _
        refine XS.iconst X595.here hx rfl (hb hby at_262) ?_
        show Steps p.tables e below (T595.setTop (mkF m 263 #[.val (.int p0), .val (.long q1), .second, .val (.long q2), .second, .val (.long q3), .second, .val (.long q4), .second, .val (.long q5), .second, .val (.int (2 : Int32)), .val (.int v186), .val (.int v187), .val (.int v188), .val (.ref b459), .val (.ref b475), .val (.long q4), .second, .val (.long q5), .second, .val (.long v494), .second, .val (.long v495), .second, .val (.ref b496), .val (.ref b534)] [(.int (1 : Int32)), (.long ((own_upd (own_upd (own_g4 q4 q5 v494 v495) v186 q1) v187 q2) 1))])) _
        refine XS.iload X595.here hx rfl (hb hby at_263) rfl ?_
        show Steps p.tables e below (T595.setTop (mkF m 265 #[.val (.int p0), .val (.long q1), .second, .val (.long q2), .second, .val (.long q3), .second, .val (.long q4), .second, .val (.long q5), .second, .val (.int (2 : Int32)), .val (.int v186), .val (.int v187), .val (.int v188), .val (.ref b459), .val (.ref b475), .val (.long q4), .second, .val (.long q5), .second, .val (.long v494), .second, .val (.long v495), .second, .val (.ref b496), .val (.ref b534)] [(.int (2 : Int32)), (.int (1 : Int32)), (.long ((own_upd (own_upd (own_g4 q4 q5 v494 v495) v186 q1) v187 q2) 1))])) _
        refine XS.iload X595.here hx rfl (hb hby at_265) rfl ?_
        show Steps p.tables e below (T595.setTop (mkF m 267 #[.val (.int p0), .val (.long q1), .second, .val (.long q2), .second, .val (.long q3), .second, .val (.long q4), .second, .val (.long q5), .second, .val (.int (2 : Int32)), .val (.int v186), .val (.int v187), .val (.int v188), .val (.ref b459), .val (.ref b475), .val (.long q4), .second, .val (.long q5), .second, .val (.long v494), .second, .val (.long v495), .second, .val (.ref b496), .val (.ref b534)] [(.int v186), (.int (2 : Int32)), (.int (1 : Int32)), (.long ((own_upd (own_upd (own_g4 q4 q5 v494 v495) v186 q1) v187 q2) 1))])) _
        refine XS.iload X595.here hx rfl (hb hby at_267) rfl ?_
        show Steps p.tables e below (T595.setTop (mkF m 269 #[.val (.int p0), .val (.long q1), .second, .val (.long q2), .second, .val (.long q3), .second, .val (.long q4), .second, .val (.long q5), .second, .val (.int (2 : Int32)), .val (.int v186), .val (.int v187), .val (.int v188), .val (.ref b459), .val (.ref b475), .val (.long q4), .second, .val (.long q5), .second, .val (.long v494), .second, .val (.long v495), .second, .val (.ref b496), .val (.ref b534)] [(.int v187), (.int v186), (.int (2 : Int32)), (.int (1 : Int32)), (.long ((own_upd (own_upd (own_g4 q4 q5 v494 v495) v186 q1) v187 q2) 1))])) _
        refine XS.iload X595.here hx rfl (hb hby at_269) rfl ?_
        show Steps p.tables e below (T595.setTop (mkF m 271 #[.val (.int p0), .val (.long q1), .second, .val (.long q2), .second, .val (.long q3), .second, .val (.long q4), .second, .val (.long q5), .second, .val (.int (2 : Int32)), .val (.int v186), .val (.int v187), .val (.int v188), .val (.ref b459), .val (.ref b475), .val (.long q4), .second, .val (.long q5), .second, .val (.long v494), .second, .val (.long v495), .second, .val (.ref b496), .val (.ref b534)] [(.int v188), (.int v187), (.int v186), (.int (2 : Int32)), (.int (1 : Int32)), (.long ((own_upd (own_upd (own_g4 q4 q5 v494 v495) v186 q1) v187 q2) 1))])) _
        refine XS.lloadN X595.here hx rfl (hb hby at_271) rfl ?_
        show Steps p.tables e below (T595.setTop (mkF m 272 #[.val (.int p0), .val (.long q1), .second, .val (.long q2), .second, .val (.long q3), .second, .val (.long q4), .second, .val (.long q5), .second, .val (.int (2 : Int32)), .val (.int v186), .val (.int v187), .val (.int v188), .val (.ref b459), .val (.ref b475), .val (.long q4), .second, .val (.long q5), .second, .val (.long v494), .second, .val (.long v495), .second, .val (.ref b496), .val (.ref b534)] [(.long q1), (.int v188), (.int v187), (.int v186), (.int (2 : Int32)), (.int (1 : Int32)), (.long ((own_upd (own_upd (own_g4 q4 q5 v494 v495) v186 q1) v187 q2) 1))])) _
        refine XS.lloadN X595.here hx rfl (hb hby at_272) rfl ?_
        show Steps p.tables e below (T595.setTop (mkF m 273 #[.val (.int p0), .val (.long q1), .second, .val (.long q2), .second, .val (.long q3), .second, .val (.long q4), .second, .val (.long q5), .second, .val (.int (2 : Int32)), .val (.int v186), .val (.int v187), .val (.int v188), .val (.ref b459), .val (.ref b475), .val (.long q4), .second, .val (.long q5), .second, .val (.long v494), .second, .val (.long v495), .second, .val (.ref b496), .val (.ref b534)] [(.long q2), (.long q1), (.int v188), (.int v187), (.int v186), (.int (2 : Int32)), (.int (1 : Int32)), (.long ((own_upd (own_upd (own_g4 q4 q5 v494 v495) v186 q1) v187 q2) 1))])) _
        refine XS.lload X595.here hx rfl (hb hby at_273) rfl ?_
        show Steps p.tables e below (T595.setTop (mkF m 275 #[.val (.int p0), .val (.long q1), .second, .val (.long q2), .second, .val (.long q3), .second, .val (.long q4), .second, .val (.long q5), .second, .val (.int (2 : Int32)), .val (.int v186), .val (.int v187), .val (.int v188), .val (.ref b459), .val (.ref b475), .val (.long q4), .second, .val (.long q5), .second, .val (.long v494), .second, .val (.long v495), .second, .val (.ref b496), .val (.ref b534)] [(.long q3), (.long q2), (.long q1), (.int v188), (.int v187), (.int v186), (.int (2 : Int32)), (.int (1 : Int32)), (.long ((own_upd (own_upd (own_g4 q4 q5 v494 v495) v186 q1) v187 q2) 1))])) _
        refine XS.lload X595.here hx rfl (hb hby at_275) rfl ?_
        show Steps p.tables e below (T595.setTop (mkF m 277 #[.val (.int p0), .val (.long q1), .second, .val (.long q2), .second, .val (.long q3), .second, .val (.long q4), .second, .val (.long q5), .second, .val (.int (2 : Int32)), .val (.int v186), .val (.int v187), .val (.int v188), .val (.ref b459), .val (.ref b475), .val (.long q4), .second, .val (.long q5), .second, .val (.long v494), .second, .val (.long v495), .second, .val (.ref b496), .val (.ref b534)] [(.long q5), (.long q3), (.long q2), (.long q1), (.int v188), (.int v187), (.int v186), (.int (2 : Int32)), (.int (1 : Int32)), (.long ((own_upd (own_upd (own_g4 q4 q5 v494 v495) v186 q1) v187 q2) 1))])) _
        refine st601 _ ?_
        show Steps p.tables e below (T601.setTop (mkF m 280 #[.val (.int p0), .val (.long q1), .second, .val (.long q2), .second, .val (.long q3), .second, .val (.long q4), .second, .val (.long q5), .second, .val (.int (2 : Int32)), .val (.int v186), .val (.int v187), .val (.int v188), .val (.ref b459), .val (.ref b475), .val (.long q4), .second, .val (.long q5), .second, .val (.long v494), .second, .val (.long v495), .second, .val (.ref b496), .val (.ref b534)] [(.long (own_f5 (1 : Int32) (2 : Int32) v186 v187 v188 q1 q2 q3 q5)), (.long ((own_upd (own_upd (own_g4 q4 q5 v494 v495) v186 q1) v187 q2) 1))])) _
        refine XS.lcmp X601.here hx rfl (hb hby at_280) rfl ?_
        show Steps p.tables e below (T601.setTop (mkF m 281 #[.val (.int p0), .val (.long q1), .second, .val (.long q2), .second, .val (.long q3), .second, .val (.long q4), .second, .val (.long q5), .second, .val (.int (2 : Int32)), .val (.int v186), .val (.int v187), .val (.int v188), .val (.ref b459), .val (.ref b475), .val (.long q4), .second, .val (.long q5), .second, .val (.long v494), .second, .val (.long v495), .second, .val (.ref b496), .val (.ref b534)] [(.int (lcmpW ((own_upd (own_upd (own_g4 q4 q5 v494 v495) v186 q1) v187 q2) 1) (own_f5 (1 : Int32) (2 : Int32) v186 v187 v188 q1 q2 q3 q5)))])) _
        exact kk)
      by_cases hc605 : ((own_upd (own_upd (own_g4 q4 q5 v494 v495) v186 q1) v187 q2) 1) = (own_f5 (1 : Int32) (2 : Int32) v186 v187 v188 q1 q2 q3 q5)
      · obtain ⟨cl606, Ar606, q606, S606, M606, H606, G606⟩ := id f583
        have hin606 : ¬ ((2 : Int32) < 0 ∨ cl606.slots.size ≤ ((2 : Int32)).toNatClampNeg) := inb_of S606 ⟨by decide, by decide⟩
        have hat606 : cl606.slots[((2 : Int32)).toNatClampNeg]? = some (.long ((own_upd (own_upd (own_g4 q4 q5 v494 v495) v186 q1) v187 q2) 2)) := H606.at hin606 rfl
        obtain ⟨_, _, ⟨T607, L607, k607, n607⟩, -, X607, ⟨Lc607, hQ607, l607, y607, z607⟩, st607⟩ := Jvm.LawKit.callS X601 hx (y := (⟨"com/example/thyme/thyme/engine/RestartWritePinLaw", "expect", "(IIIIIJJJJ)J"⟩ : MethodName)) hown (mvT hZ (hw _ (List.mem_of_getElem? (i := 28) rfl))) (mvT hZ (hw _ (List.mem_of_getElem? (i := 29) rfl))) (mvT hZ (hw _ (List.mem_of_getElem? (i := 30) rfl))) (mvT hZ (hw _ (List.mem_of_getElem? (i := 31) rfl))) (by decide) (backOf (W := 2) (own_rm5 l Z av hw [] (2 : Int32) (2 : Int32) v186 v187 v188 q1 q2 q3 v494 T579.heap n0 z592 ) hZ (hw _ (List.mem_of_getElem? (i := 31) rfl)) (hw _ (List.mem_of_getElem? (i := 30) rfl)) (by decide) (by decide)) (g := (mkF m 303 #[.val (.int p0), .val (.long q1), .second, .val (.long q2), .second, .val (.long q3), .second, .val (.long q4), .second, .val (.long q5), .second, .val (.int (2 : Int32)), .val (.int v186), .val (.int v187), .val (.int v188), .val (.ref b459), .val (.ref b475), .val (.long q4), .second, .val (.long q5), .second, .val (.long v494), .second, .val (.long v495), .second, .val (.ref b496), .val (.ref b534)] [(.long v494), (.long q3), (.long q2), (.long q1), (.int v188), (.int v187), (.int v186), (.int (2 : Int32)), (.int (2 : Int32)), (.long ((own_upd (own_upd (own_g4 q4 q5 v494 v495) v186 q1) v187 q2) 2))])) rfl (by rw [hml]; rfl) (argsL := [(.int (2 : Int32)), (.int (2 : Int32)), (.int v186), (.int v187), (.int v188), (.long q1), (.long q2), (.long q3), (.long v494)]) (rest := [(.long ((own_upd (own_upd (own_g4 q4 q5 v494 v495) v186 q1) v187 q2) 2))]) (lenOf own_pd3 rfl) rfl (by show 2 * 0 + _ ≤ _; exact Nat.le_of_eq rfl) (hb hby at_303) (fun _ _ => ⟨rfl, e603, (by decide : 5 + 0 ≤ _), (by decide : 12 + 0 ≤ _)⟩)
        dsimp only [Pt.U, Pt.locs, Pt.cells, Pt.slots] at X607 l607 y607 z607 st607 hQ607
        subst l607 y607 z607
        obtain ⟨rfl, N607q, e609⟩ := hQ607
        have N608 := Fr.app N602 N607q
        have pre610 : ∀ t, Steps p.tables e below (T607.setTop (mkF m 307 #[.val (.int p0), .val (.long q1), .second, .val (.long q2), .second, .val (.long q3), .second, .val (.long q4), .second, .val (.long q5), .second, .val (.int (2 : Int32)), .val (.int v186), .val (.int v187), .val (.int v188), .val (.ref b459), .val (.ref b475), .val (.long q4), .second, .val (.long q5), .second, .val (.long v494), .second, .val (.long v495), .second, .val (.ref b496), .val (.ref b534)] [(.int (lcmpW ((own_upd (own_upd (own_g4 q4 q5 v494 v495) v186 q1) v187 q2) 2) (own_f5 (2 : Int32) (2 : Int32) v186 v187 v188 q1 q2 q3 v494)))])) t → Steps p.tables e below (s₁.setTop (entryFrame m #[(.int p0), (.long q1), (.long q2), (.long q3), (.long q4), (.long q5)] maxLocals)) t := fun t kk => pre604 t (by
          show Steps p.tables e below (T601.setTop (mkF m 281 #[.val (.int p0), .val (.long q1), .second, .val (.long q2), .second, .val (.long q3), .second, .val (.long q4), .second, .val (.long q5), .second, .val (.int (2 : Int32)), .val (.int v186), .val (.int v187), .val (.int v188), .val (.ref b459), .val (.ref b475), .val (.long q4), .second, .val (.long q5), .second, .val (.long v494), .second, .val (.long v495), .second, .val (.ref b496), .val (.ref b534)] [(.int (lcmpW ((own_upd (own_upd (own_g4 q4 q5 v494 v495) v186 q1) v187 q2) 1) (own_f5 (1 : Int32) (2 : Int32) v186 v187 v188 q1 q2 q3 q5)))])) _
          refine XS.ifNo X601.here hx rfl (hb hby at_281) rfl ((if0 _ _).trans (teq ((lw_eq ((own_upd (own_upd (own_g4 q4 q5 v494 v495) v186 q1) v187 q2) 1) (own_f5 (1 : Int32) (2 : Int32) v186 v187 v188 q1 q2 q3 q5)).mpr hc605)).2) ?_
          show Steps p.tables e below (T601.setTop (mkF m 284 #[.val (.int p0), .val (.long q1), .second, .val (.long q2), .second, .val (.long q3), .second, .val (.long q4), .second, .val (.long q5), .second, .val (.int (2 : Int32)), .val (.int v186), .val (.int v187), .val (.int v188), .val (.ref b459), .val (.ref b475), .val (.long q4), .second, .val (.long q5), .second, .val (.long v494), .second, .val (.long v495), .second, .val (.ref b496), .val (.ref b534)] [])) _
          refine XS.aload X601.here hx rfl (hb hby at_284) rfl rfl ?_
          show Steps p.tables e below (T601.setTop (mkF m 286 #[.val (.int p0), .val (.long q1), .second, .val (.long q2), .second, .val (.long q3), .second, .val (.long q4), .second, .val (.long q5), .second, .val (.int (2 : Int32)), .val (.int v186), .val (.int v187), .val (.int v188), .val (.ref b459), .val (.ref b475), .val (.long q4), .second, .val (.long q5), .second, .val (.long v494), .second, .val (.long v495), .second, .val (.ref b496), .val (.ref b534)] [(.ref b496)])) _
          refine XS.iconst X601.here hx rfl (hb hby at_286) ?_
          show Steps p.tables e below (T601.setTop (mkF m 287 #[.val (.int p0), .val (.long q1), .second, .val (.long q2), .second, .val (.long q3), .second, .val (.long q4), .second, .val (.long q5), .second, .val (.int (2 : Int32)), .val (.int v186), .val (.int v187), .val (.int v188), .val (.ref b459), .val (.ref b475), .val (.long q4), .second, .val (.long q5), .second, .val (.long v494), .second, .val (.long v495), .second, .val (.ref b496), .val (.ref b534)] [(.int (2 : Int32)), (.ref b496)])) _
          refine X601.laload hx (j := (2 : Int32)) (v := (.long ((own_upd (own_upd (own_g4 q4 q5 v494 v495) v186 q1) v187 q2) 2))) (by rw [e603]; exact Ar606.1) (State.isArrayOf_alike hZ.alike Ar606.2.1) Ar606.2.2 hin606 hat606 (g := (mkF m 287 #[.val (.int p0), .val (.long q1), .second, .val (.long q2), .second, .val (.long q3), .second, .val (.long q4), .second, .val (.long q5), .second, .val (.int (2 : Int32)), .val (.int v186), .val (.int v187), .val (.int v188), .val (.ref b459), .val (.ref b475), .val (.long q4), .second, .val (.long q5), .second, .val (.long v494), .second, .val (.long v495), .second, .val (.ref b496), .val (.ref b534)] [(.int (2 : Int32)), (.ref b496)])) rfl rfl (hb hby at_287) _ ?_
          show Steps p.tables e below (T601.setTop (mkF m 288 #[.val (.int p0), .val (.long q1), .second, .val (.long q2), .second, .val (.long q3), .second, .val (.long q4), .second, .val (.long q5), .second, .val (.int (2 : Int32)), .val (.int v186), .val (.int v187), .val (.int v188), .val (.ref b459), .val (.ref b475), .val (.long q4), .second, .val (.long q5), .second, .val (.long v494), .second, .val (.long v495), .second, .val (.ref b496), .val (.ref b534)] [(.long ((own_upd (own_upd (own_g4 q4 q5 v494 v495) v186 q1) v187 q2) 2))])) _
          refine XS.iconst X601.here hx rfl (hb hby at_288) ?_
          show Steps p.tables e below (T601.setTop (mkF m 289 #[.val (.int p0), .val (.long q1), .second, .val (.long q2), .second, .val (.long q3), .second, .val (.long q4), .second, .val (.long q5), .second, .val (.int (2 : Int32)), .val (.int v186), .val (.int v187), .val (.int v188), .val (.ref b459), .val (.ref b475), .val (.long q4), .second, .val (.long q5), .second, .val (.long v494), .second, .val (.long v495), .second, .val (.ref b496), .val (.ref b534)] [(.int (2 : Int32)), (.long ((own_upd (own_upd (own_g4 q4 q5 v494 v495) v186 q1) v187 q2) 2))])) _
          refine XS.iload X601.here hx rfl (hb hby at_289) rfl ?_
          show Steps p.tables e below (T601.setTop (mkF m 291 #[.val (.int p0), .val (.long q1), .second, .val (.long q2), .second, .val (.long q3), .second, .val (.long q4), .second, .val (.long q5), .second, .val (.int (2 : Int32)), .val (.int v186), .val (.int v187), .val (.int v188), .val (.ref b459), .val (.ref b475), .val (.long q4), .second, .val (.long q5), .second, .val (.long v494), .second, .val (.long v495), .second, .val (.ref b496), .val (.ref b534)] [(.int (2 : Int32)), (.int (2 : Int32)), (.long ((own_upd (own_upd (own_g4 q4 q5 v494 v495) v186 q1) v187 q2) 2))])) _
          refine XS.iload X601.here hx rfl (hb hby at_291) rfl ?_
          show Steps p.tables e below (T601.setTop (mkF m 293 #[.val (.int p0), .val (.long q1), .second, .val (.long q2), .second, .val (.long q3), .second, .val (.long q4), .second, .val (.long q5), .second, .val (.int (2 : Int32)), .val (.int v186), .val (.int v187), .val (.int v188), .val (.ref b459), .val (.ref b475), .val (.long q4), .second, .val (.long q5), .second, .val (.long v494), .second, .val (.long v495), .second, .val (.ref b496), .val (.ref b534)] [(.int v186), (.int (2 : Int32)), (.int (2 : Int32)), (.long ((own_upd (own_upd (own_g4 q4 q5 v494 v495) v186 q1) v187 q2) 2))])) _
          refine XS.iload X601.here hx rfl (hb hby at_293) rfl ?_
          show Steps p.tables e below (T601.setTop (mkF m 295 #[.val (.int p0), .val (.long q1), .second, .val (.long q2), .second, .val (.long q3), .second, .val (.long q4), .second, .val (.long q5), .second, .val (.int (2 : Int32)), .val (.int v186), .val (.int v187), .val (.int v188), .val (.ref b459), .val (.ref b475), .val (.long q4), .second, .val (.long q5), .second, .val (.long v494), .second, .val (.long v495), .second, .val (.ref b496), .val (.ref b534)] [(.int v187), (.int v186), (.int (2 : Int32)), (.int (2 : Int32)), (.long ((own_upd (own_upd (own_g4 q4 q5 v494 v495) v186 q1) v187 q2) 2))])) _
          refine XS.iload X601.here hx rfl (hb hby at_295) rfl ?_
          show Steps p.tables e below (T601.setTop (mkF m 297 #[.val (.int p0), .val (.long q1), .second, .val (.long q2), .second, .val (.long q3), .second, .val (.long q4), .second, .val (.long q5), .second, .val (.int (2 : Int32)), .val (.int v186), .val (.int v187), .val (.int v188), .val (.ref b459), .val (.ref b475), .val (.long q4), .second, .val (.long q5), .second, .val (.long v494), .second, .val (.long v495), .second, .val (.ref b496), .val (.ref b534)] [(.int v188), (.int v187), (.int v186), (.int (2 : Int32)), (.int (2 : Int32)), (.long ((own_upd (own_upd (own_g4 q4 q5 v494 v495) v186 q1) v187 q2) 2))])) _
          refine XS.lloadN X601.here hx rfl (hb hby at_297) rfl ?_
          show Steps p.tables e below (T601.setTop (mkF m 298 #[.val (.int p0), .val (.long q1), .second, .val (.long q2), .second, .val (.long q3), .second, .val (.long q4), .second, .val (.long q5), .second, .val (.int (2 : Int32)), .val (.int v186), .val (.int v187), .val (.int v188), .val (.ref b459), .val (.ref b475), .val (.long q4), .second, .val (.long q5), .second, .val (.long v494), .second, .val (.long v495), .second, .val (.ref b496), .val (.ref b534)] [(.long q1), (.int v188), (.int v187), (.int v186), (.int (2 : Int32)), (.int (2 : Int32)), (.long ((own_upd (own_upd (own_g4 q4 q5 v494 v495) v186 q1) v187 q2) 2))])) _
          refine XS.lloadN X601.here hx rfl (hb hby at_298) rfl ?_
          show Steps p.tables e below (T601.setTop (mkF m 299 #[.val (.int p0), .val (.long q1), .second, .val (.long q2), .second, .val (.long q3), .second, .val (.long q4), .second, .val (.long q5), .second, .val (.int (2 : Int32)), .val (.int v186), .val (.int v187), .val (.int v188), .val (.ref b459), .val (.ref b475), .val (.long q4), .second, .val (.long q5), .second, .val (.long v494), .second, .val (.long v495), .second, .val (.ref b496), .val (.ref b534)] [(.long q2), (.long q1), (.int v188), (.int v187), (.int v186), (.int (2 : Int32)), (.int (2 : Int32)), (.long ((own_upd (own_upd (own_g4 q4 q5 v494 v495) v186 q1) v187 q2) 2))])) _
          refine XS.lload X601.here hx rfl (hb hby at_299) rfl ?_
          show Steps p.tables e below (T601.setTop (mkF m 301 #[.val (.int p0), .val (.long q1), .second, .val (.long q2), .second, .val (.long q3), .second, .val (.long q4), .second, .val (.long q5), .second, .val (.int (2 : Int32)), .val (.int v186), .val (.int v187), .val (.int v188), .val (.ref b459), .val (.ref b475), .val (.long q4), .second, .val (.long q5), .second, .val (.long v494), .second, .val (.long v495), .second, .val (.ref b496), .val (.ref b534)] [(.long q3), (.long q2), (.long q1), (.int v188), (.int v187), (.int v186), (.int (2 : Int32)), (.int (2 : Int32)), (.long ((own_upd (own_upd (own_g4 q4 q5 v494 v495) v186 q1) v187 q2) 2))])) _
          refine XS.lload X601.here hx rfl (hb hby at_301) rfl ?_
          show Steps p.tables e below (T601.setTop (mkF m 303 #[.val (.int p0), .val (.long q1), .second, .val (.long q2), .second, .val (.long q3), .second, .val (.long q4), .second, .val (.long q5), .second, .val (.int (2 : Int32)), .val (.int v186), .val (.int v187), .val (.int v188), .val (.ref b459), .val (.ref b475), .val (.long q4), .second, .val (.long q5), .second, .val (.long v494), .second, .val (.long v495), .second, .val (.ref b496), .val (.ref b534)] [(.long v494), (.long q3), (.long q2), (.long q1), (.int v188), (.int v187), (.int v186), (.int (2 : Int32)), (.int (2 : Int32)), (.long ((own_upd (own_upd (own_g4 q4 q5 v494 v495) v186 q1) v187 q2) 2))])) _
          refine st607 _ ?_
          show Steps p.tables e below (T607.setTop (mkF m 306 #[.val (.int p0), .val (.long q1), .second, .val (.long q2), .second, .val (.long q3), .second, .val (.long q4), .second, .val (.long q5), .second, .val (.int (2 : Int32)), .val (.int v186), .val (.int v187), .val (.int v188), .val (.ref b459), .val (.ref b475), .val (.long q4), .second, .val (.long q5), .second, .val (.long v494), .second, .val (.long v495), .second, .val (.ref b496), .val (.ref b534)] [(.long (own_f5 (2 : Int32) (2 : Int32) v186 v187 v188 q1 q2 q3 v494)), (.long ((own_upd (own_upd (own_g4 q4 q5 v494 v495) v186 q1) v187 q2) 2))])) _
          refine XS.lcmp X607.here hx rfl (hb hby at_306) rfl ?_
          show Steps p.tables e below (T607.setTop (mkF m 307 #[.val (.int p0), .val (.long q1), .second, .val (.long q2), .second, .val (.long q3), .second, .val (.long q4), .second, .val (.long q5), .second, .val (.int (2 : Int32)), .val (.int v186), .val (.int v187), .val (.int v188), .val (.ref b459), .val (.ref b475), .val (.long q4), .second, .val (.long q5), .second, .val (.long v494), .second, .val (.long v495), .second, .val (.ref b496), .val (.ref b534)] [(.int (lcmpW ((own_upd (own_upd (own_g4 q4 q5 v494 v495) v186 q1) v187 q2) 2) (own_f5 (2 : Int32) (2 : Int32) v186 v187 v188 q1 q2 q3 v494)))])) _
          exact kk)
        by_cases hc611 : ((own_upd (own_upd (own_g4 q4 q5 v494 v495) v186 q1) v187 q2) 2) = (own_f5 (2 : Int32) (2 : Int32) v186 v187 v188 q1 q2 q3 v494)
        · obtain ⟨cl612, Ar612, q612, S612, M612, H612, G612⟩ := id f583
          have hin612 : ¬ ((3 : Int32) < 0 ∨ cl612.slots.size ≤ ((3 : Int32)).toNatClampNeg) := inb_of S612 ⟨by decide, by decide⟩
          have hat612 : cl612.slots[((3 : Int32)).toNatClampNeg]? = some (.long ((own_upd (own_upd (own_g4 q4 q5 v494 v495) v186 q1) v187 q2) 3)) := H612.at hin612 rfl
          obtain ⟨_, _, ⟨T613, L613, k613, n613⟩, -, X613, ⟨Lc613, hQ613, l613, y613, z613⟩, st613⟩ := Jvm.LawKit.callS X607 hx (y := (⟨"com/example/thyme/thyme/engine/RestartWritePinLaw", "expect", "(IIIIIJJJJ)J"⟩ : MethodName)) hown (mvT hZ (hw _ (List.mem_of_getElem? (i := 28) rfl))) (mvT hZ (hw _ (List.mem_of_getElem? (i := 29) rfl))) (mvT hZ (hw _ (List.mem_of_getElem? (i := 30) rfl))) (mvT hZ (hw _ (List.mem_of_getElem? (i := 31) rfl))) (by decide) (backOf (W := 2) (own_rm5 l Z av hw [] (3 : Int32) (2 : Int32) v186 v187 v188 q1 q2 q3 v495 T579.heap n0 z592 ) hZ (hw _ (List.mem_of_getElem? (i := 31) rfl)) (hw _ (List.mem_of_getElem? (i := 30) rfl)) (by decide) (by decide)) (g := (mkF m 329 #[.val (.int p0), .val (.long q1), .second, .val (.long q2), .second, .val (.long q3), .second, .val (.long q4), .second, .val (.long q5), .second, .val (.int (2 : Int32)), .val (.int v186), .val (.int v187), .val (.int v188), .val (.ref b459), .val (.ref b475), .val (.long q4), .second, .val (.long q5), .second, .val (.long v494), .second, .val (.long v495), .second, .val (.ref b496), .val (.ref b534)] [(.long v495), (.long q3), (.long q2), (.long q1), (.int v188), (.int v187), (.int v186), (.int (2 : Int32)), (.int (3 : Int32)), (.long ((own_upd (own_upd (own_g4 q4 q5 v494 v495) v186 q1) v187 q2) 3))])) rfl (by rw [hml]; rfl) (argsL := [(.int (3 : Int32)), (.int (2 : Int32)), (.int v186), (.int v187), (.int v188), (.long q1), (.long q2), (.long q3), (.long v495)]) (rest := [(.long ((own_upd (own_upd (own_g4 q4 q5 v494 v495) v186 q1) v187 q2) 3))]) (lenOf own_pd3 rfl) rfl (by show 2 * 0 + _ ≤ _; exact Nat.le_of_eq rfl) (hb hby at_329) (fun _ _ => ⟨rfl, e609, (by decide : 5 + 0 ≤ _), (by decide : 12 + 0 ≤ _)⟩)
          dsimp only [Pt.U, Pt.locs, Pt.cells, Pt.slots] at X613 l613 y613 z613 st613 hQ613
          subst l613 y613 z613
          obtain ⟨rfl, N613q, e615⟩ := hQ613
          have N614 := Fr.app N608 N613q
          have pre616 : ∀ t, Steps p.tables e below (T613.setTop (mkF m 333 #[.val (.int p0), .val (.long q1), .second, .val (.long q2), .second, .val (.long q3), .second, .val (.long q4), .second, .val (.long q5), .second, .val (.int (2 : Int32)), .val (.int v186), .val (.int v187), .val (.int v188), .val (.ref b459), .val (.ref b475), .val (.long q4), .second, .val (.long q5), .second, .val (.long v494), .second, .val (.long v495), .second, .val (.ref b496), .val (.ref b534)] [(.int (lcmpW ((own_upd (own_upd (own_g4 q4 q5 v494 v495) v186 q1) v187 q2) 3) (own_f5 (3 : Int32) (2 : Int32) v186 v187 v188 q1 q2 q3 v495)))])) t → Steps p.tables e below (s₁.setTop (entryFrame m #[(.int p0), (.long q1), (.long q2), (.long q3), (.long q4), (.long q5)] maxLocals)) t := fun t kk => pre610 t (by
            show Steps p.tables e below (T607.setTop (mkF m 307 #[.val (.int p0), .val (.long q1), .second, .val (.long q2), .second, .val (.long q3), .second, .val (.long q4), .second, .val (.long q5), .second, .val (.int (2 : Int32)), .val (.int v186), .val (.int v187), .val (.int v188), .val (.ref b459), .val (.ref b475), .val (.long q4), .second, .val (.long q5), .second, .val (.long v494), .second, .val (.long v495), .second, .val (.ref b496), .val (.ref b534)] [(.int (lcmpW ((own_upd (own_upd (own_g4 q4 q5 v494 v495) v186 q1) v187 q2) 2) (own_f5 (2 : Int32) (2 : Int32) v186 v187 v188 q1 q2 q3 v494)))])) _
            refine XS.ifNo X607.here hx rfl (hb hby at_307) rfl ((if0 _ _).trans (teq ((lw_eq ((own_upd (own_upd (own_g4 q4 q5 v494 v495) v186 q1) v187 q2) 2) (own_f5 (2 : Int32) (2 : Int32) v186 v187 v188 q1 q2 q3 v494)).mpr hc611)).2) ?_
            show Steps p.tables e below (T607.setTop (mkF m 310 #[.val (.int p0), .val (.long q1), .second, .val (.long q2), .second, .val (.long q3), .second, .val (.long q4), .second, .val (.long q5), .second, .val (.int (2 : Int32)), .val (.int v186), .val (.int v187), .val (.int v188), .val (.ref b459), .val (.ref b475), .val (.long q4), .second, .val (.long q5), .second, .val (.long v494), .second, .val (.long v495), .second, .val (.ref b496), .val (.ref b534)] [])) _
            refine XS.aload X607.here hx rfl (hb hby at_310) rfl rfl ?_
            show Steps p.tables e below (T607.setTop (mkF m 312 #[.val (.int p0), .val (.long q1), .second, .val (.long q2), .second, .val (.long q3), .second, .val (.long q4), .second, .val (.long q5), .second, .val (.int (2 : Int32)), .val (.int v186), .val (.int v187), .val (.int v188), .val (.ref b459), .val (.ref b475), .val (.long q4), .second, .val (.long q5), .second, .val (.long v494), .second, .val (.long v495), .second, .val (.ref b496), .val (.ref b534)] [(.ref b496)])) _
            refine XS.iconst X607.here hx rfl (hb hby at_312) ?_
            show Steps p.tables e below (T607.setTop (mkF m 313 #[.val (.int p0), .val (.long q1), .second, .val (.long q2), .second, .val (.long q3), .second, .val (.long q4), .second, .val (.long q5), .second, .val (.int (2 : Int32)), .val (.int v186), .val (.int v187), .val (.int v188), .val (.ref b459), .val (.ref b475), .val (.long q4), .second, .val (.long q5), .second, .val (.long v494), .second, .val (.long v495), .second, .val (.ref b496), .val (.ref b534)] [(.int (3 : Int32)), (.ref b496)])) _
            refine X607.laload hx (j := (3 : Int32)) (v := (.long ((own_upd (own_upd (own_g4 q4 q5 v494 v495) v186 q1) v187 q2) 3))) (by rw [e609]; exact Ar612.1) (State.isArrayOf_alike hZ.alike Ar612.2.1) Ar612.2.2 hin612 hat612 (g := (mkF m 313 #[.val (.int p0), .val (.long q1), .second, .val (.long q2), .second, .val (.long q3), .second, .val (.long q4), .second, .val (.long q5), .second, .val (.int (2 : Int32)), .val (.int v186), .val (.int v187), .val (.int v188), .val (.ref b459), .val (.ref b475), .val (.long q4), .second, .val (.long q5), .second, .val (.long v494), .second, .val (.long v495), .second, .val (.ref b496), .val (.ref b534)] [(.int (3 : Int32)), (.ref b496)])) rfl rfl (hb hby at_313) _ ?_
            show Steps p.tables e below (T607.setTop (mkF m 314 #[.val (.int p0), .val (.long q1), .second, .val (.long q2), .second, .val (.long q3), .second, .val (.long q4), .second, .val (.long q5), .second, .val (.int (2 : Int32)), .val (.int v186), .val (.int v187), .val (.int v188), .val (.ref b459), .val (.ref b475), .val (.long q4), .second, .val (.long q5), .second, .val (.long v494), .second, .val (.long v495), .second, .val (.ref b496), .val (.ref b534)] [(.long ((own_upd (own_upd (own_g4 q4 q5 v494 v495) v186 q1) v187 q2) 3))])) _
            refine XS.iconst X607.here hx rfl (hb hby at_314) ?_
            show Steps p.tables e below (T607.setTop (mkF m 315 #[.val (.int p0), .val (.long q1), .second, .val (.long q2), .second, .val (.long q3), .second, .val (.long q4), .second, .val (.long q5), .second, .val (.int (2 : Int32)), .val (.int v186), .val (.int v187), .val (.int v188), .val (.ref b459), .val (.ref b475), .val (.long q4), .second, .val (.long q5), .second, .val (.long v494), .second, .val (.long v495), .second, .val (.ref b496), .val (.ref b534)] [(.int (3 : Int32)), (.long ((own_upd (own_upd (own_g4 q4 q5 v494 v495) v186 q1) v187 q2) 3))])) _
            refine XS.iload X607.here hx rfl (hb hby at_315) rfl ?_
            show Steps p.tables e below (T607.setTop (mkF m 317 #[.val (.int p0), .val (.long q1), .second, .val (.long q2), .second, .val (.long q3), .second, .val (.long q4), .second, .val (.long q5), .second, .val (.int (2 : Int32)), .val (.int v186), .val (.int v187), .val (.int v188), .val (.ref b459), .val (.ref b475), .val (.long q4), .second, .val (.long q5), .second, .val (.long v494), .second, .val (.long v495), .second, .val (.ref b496), .val (.ref b534)] [(.int (2 : Int32)), (.int (3 : Int32)), (.long ((own_upd (own_upd (own_g4 q4 q5 v494 v495) v186 q1) v187 q2) 3))])) _
            refine XS.iload X607.here hx rfl (hb hby at_317) rfl ?_
            show Steps p.tables e below (T607.setTop (mkF m 319 #[.val (.int p0), .val (.long q1), .second, .val (.long q2), .second, .val (.long q3), .second, .val (.long q4), .second, .val (.long q5), .second, .val (.int (2 : Int32)), .val (.int v186), .val (.int v187), .val (.int v188), .val (.ref b459), .val (.ref b475), .val (.long q4), .second, .val (.long q5), .second, .val (.long v494), .second, .val (.long v495), .second, .val (.ref b496), .val (.ref b534)] [(.int v186), (.int (2 : Int32)), (.int (3 : Int32)), (.long ((own_upd (own_upd (own_g4 q4 q5 v494 v495) v186 q1) v187 q2) 3))])) _
            refine XS.iload X607.here hx rfl (hb hby at_319) rfl ?_
            show Steps p.tables e below (T607.setTop (mkF m 321 #[.val (.int p0), .val (.long q1), .second, .val (.long q2), .second, .val (.long q3), .second, .val (.long q4), .second, .val (.long q5), .second, .val (.int (2 : Int32)), .val (.int v186), .val (.int v187), .val (.int v188), .val (.ref b459), .val (.ref b475), .val (.long q4), .second, .val (.long q5), .second, .val (.long v494), .second, .val (.long v495), .second, .val (.ref b496), .val (.ref b534)] [(.int v187), (.int v186), (.int (2 : Int32)), (.int (3 : Int32)), (.long ((own_upd (own_upd (own_g4 q4 q5 v494 v495) v186 q1) v187 q2) 3))])) _
            refine XS.iload X607.here hx rfl (hb hby at_321) rfl ?_
            show Steps p.tables e below (T607.setTop (mkF m 323 #[.val (.int p0), .val (.long q1), .second, .val (.long q2), .second, .val (.long q3), .second, .val (.long q4), .second, .val (.long q5), .second, .val (.int (2 : Int32)), .val (.int v186), .val (.int v187), .val (.int v188), .val (.ref b459), .val (.ref b475), .val (.long q4), .second, .val (.long q5), .second, .val (.long v494), .second, .val (.long v495), .second, .val (.ref b496), .val (.ref b534)] [(.int v188), (.int v187), (.int v186), (.int (2 : Int32)), (.int (3 : Int32)), (.long ((own_upd (own_upd (own_g4 q4 q5 v494 v495) v186 q1) v187 q2) 3))])) _
            refine XS.lloadN X607.here hx rfl (hb hby at_323) rfl ?_
            show Steps p.tables e below (T607.setTop (mkF m 324 #[.val (.int p0), .val (.long q1), .second, .val (.long q2), .second, .val (.long q3), .second, .val (.long q4), .second, .val (.long q5), .second, .val (.int (2 : Int32)), .val (.int v186), .val (.int v187), .val (.int v188), .val (.ref b459), .val (.ref b475), .val (.long q4), .second, .val (.long q5), .second, .val (.long v494), .second, .val (.long v495), .second, .val (.ref b496), .val (.ref b534)] [(.long q1), (.int v188), (.int v187), (.int v186), (.int (2 : Int32)), (.int (3 : Int32)), (.long ((own_upd (own_upd (own_g4 q4 q5 v494 v495) v186 q1) v187 q2) 3))])) _
            refine XS.lloadN X607.here hx rfl (hb hby at_324) rfl ?_
            show Steps p.tables e below (T607.setTop (mkF m 325 #[.val (.int p0), .val (.long q1), .second, .val (.long q2), .second, .val (.long q3), .second, .val (.long q4), .second, .val (.long q5), .second, .val (.int (2 : Int32)), .val (.int v186), .val (.int v187), .val (.int v188), .val (.ref b459), .val (.ref b475), .val (.long q4), .second, .val (.long q5), .second, .val (.long v494), .second, .val (.long v495), .second, .val (.ref b496), .val (.ref b534)] [(.long q2), (.long q1), (.int v188), (.int v187), (.int v186), (.int (2 : Int32)), (.int (3 : Int32)), (.long ((own_upd (own_upd (own_g4 q4 q5 v494 v495) v186 q1) v187 q2) 3))])) _
            refine XS.lload X607.here hx rfl (hb hby at_325) rfl ?_
            show Steps p.tables e below (T607.setTop (mkF m 327 #[.val (.int p0), .val (.long q1), .second, .val (.long q2), .second, .val (.long q3), .second, .val (.long q4), .second, .val (.long q5), .second, .val (.int (2 : Int32)), .val (.int v186), .val (.int v187), .val (.int v188), .val (.ref b459), .val (.ref b475), .val (.long q4), .second, .val (.long q5), .second, .val (.long v494), .second, .val (.long v495), .second, .val (.ref b496), .val (.ref b534)] [(.long q3), (.long q2), (.long q1), (.int v188), (.int v187), (.int v186), (.int (2 : Int32)), (.int (3 : Int32)), (.long ((own_upd (own_upd (own_g4 q4 q5 v494 v495) v186 q1) v187 q2) 3))])) _
            refine XS.lload X607.here hx rfl (hb hby at_327) rfl ?_
            show Steps p.tables e below (T607.setTop (mkF m 329 #[.val (.int p0), .val (.long q1), .second, .val (.long q2), .second, .val (.long q3), .second, .val (.long q4), .second, .val (.long q5), .second, .val (.int (2 : Int32)), .val (.int v186), .val (.int v187), .val (.int v188), .val (.ref b459), .val (.ref b475), .val (.long q4), .second, .val (.long q5), .second, .val (.long v494), .second, .val (.long v495), .second, .val (.ref b496), .val (.ref b534)] [(.long v495), (.long q3), (.long q2), (.long q1), (.int v188), (.int v187), (.int v186), (.int (2 : Int32)), (.int (3 : Int32)), (.long ((own_upd (own_upd (own_g4 q4 q5 v494 v495) v186 q1) v187 q2) 3))])) _
            refine st613 _ ?_
            show Steps p.tables e below (T613.setTop (mkF m 332 #[.val (.int p0), .val (.long q1), .second, .val (.long q2), .second, .val (.long q3), .second, .val (.long q4), .second, .val (.long q5), .second, .val (.int (2 : Int32)), .val (.int v186), .val (.int v187), .val (.int v188), .val (.ref b459), .val (.ref b475), .val (.long q4), .second, .val (.long q5), .second, .val (.long v494), .second, .val (.long v495), .second, .val (.ref b496), .val (.ref b534)] [(.long (own_f5 (3 : Int32) (2 : Int32) v186 v187 v188 q1 q2 q3 v495)), (.long ((own_upd (own_upd (own_g4 q4 q5 v494 v495) v186 q1) v187 q2) 3))])) _
            refine XS.lcmp X613.here hx rfl (hb hby at_332) rfl ?_
            show Steps p.tables e below (T613.setTop (mkF m 333 #[.val (.int p0), .val (.long q1), .second, .val (.long q2), .second, .val (.long q3), .second, .val (.long q4), .second, .val (.long q5), .second, .val (.int (2 : Int32)), .val (.int v186), .val (.int v187), .val (.int v188), .val (.ref b459), .val (.ref b475), .val (.long q4), .second, .val (.long q5), .second, .val (.long v494), .second, .val (.long v495), .second, .val (.ref b496), .val (.ref b534)] [(.int (lcmpW ((own_upd (own_upd (own_g4 q4 q5 v494 v495) v186 q1) v187 q2) 3) (own_f5 (3 : Int32) (2 : Int32) v186 v187 v188 q1 q2 q3 v495)))])) _
            exact kk)
          by_cases hc617 : ((own_upd (own_upd (own_g4 q4 q5 v494 v495) v186 q1) v187 q2) 3) = (own_f5 (3 : Int32) (2 : Int32) v186 v187 v188 q1 q2 q3 v495)
          · obtain ⟨fs, hr, hrun, hended, hW, hsame⟩ := X613.leave (v := some (.int (1 : Int32))) (fun h => by rw [Bd.returns] at h; cases h)
            refine ⟨_, _, pre616 _ ?_, hrun, hended, _, _, rfl, ?_, ⟨_, rfl⟩, hW, hsame.mono (by decide) (by decide)⟩
            · show Steps p.tables e below (T613.setTop (mkF m 333 #[.val (.int p0), .val (.long q1), .second, .val (.long q2), .second, .val (.long q3), .second, .val (.long q4), .second, .val (.long q5), .second, .val (.int (2 : Int32)), .val (.int v186), .val (.int v187), .val (.int v188), .val (.ref b459), .val (.ref b475), .val (.long q4), .second, .val (.long q5), .second, .val (.long v494), .second, .val (.long v495), .second, .val (.ref b496), .val (.ref b534)] [(.int (lcmpW ((own_upd (own_upd (own_g4 q4 q5 v494 v495) v186 q1) v187 q2) 3) (own_f5 (3 : Int32) (2 : Int32) v186 v187 v188 q1 q2 q3 v495)))])) _
              refine XS.ifNo X613.here hx rfl (hb hby at_333) rfl ((if0 _ _).trans (teq ((lw_eq ((own_upd (own_upd (own_g4 q4 q5 v494 v495) v186 q1) v187 q2) 3) (own_f5 (3 : Int32) (2 : Int32) v186 v187 v188 q1 q2 q3 v495)).mpr hc617)).2) ?_
              show Steps p.tables e below (T613.setTop (mkF m 336 #[.val (.int p0), .val (.long q1), .second, .val (.long q2), .second, .val (.long q3), .second, .val (.long q4), .second, .val (.long q5), .second, .val (.int (2 : Int32)), .val (.int v186), .val (.int v187), .val (.int v188), .val (.ref b459), .val (.ref b475), .val (.long q4), .second, .val (.long q5), .second, .val (.long v494), .second, .val (.long v495), .second, .val (.ref b496), .val (.ref b534)] [])) _
              refine XS.iconst X613.here hx rfl (hb hby at_336) ?_
              show Steps p.tables e below (T613.setTop (mkF m 337 #[.val (.int p0), .val (.long q1), .second, .val (.long q2), .second, .val (.long q3), .second, .val (.long q4), .second, .val (.long q5), .second, .val (.int (2 : Int32)), .val (.int v186), .val (.int v187), .val (.int v188), .val (.ref b459), .val (.ref b475), .val (.long q4), .second, .val (.long q5), .second, .val (.long v494), .second, .val (.long v495), .second, .val (.ref b496), .val (.ref b534)] [(.int (1 : Int32))])) _
              refine XS.goto X613.here hx rfl (pc0 := 337) (pc' := 341) rfl (hb hby at_337) (by decide) (by decide) ?_
              show Steps p.tables e below (T613.setTop (mkF m 341 #[.val (.int p0), .val (.long q1), .second, .val (.long q2), .second, .val (.long q3), .second, .val (.long q4), .second, .val (.long q5), .second, .val (.int (2 : Int32)), .val (.int v186), .val (.int v187), .val (.int v188), .val (.ref b459), .val (.ref b475), .val (.long q4), .second, .val (.long q5), .second, .val (.long v494), .second, .val (.long v495), .second, .val (.ref b496), .val (.ref b534)] [(.int (1 : Int32))])) _
              exact retN X613 hx (t := .boolean) Bd.returns (by simp) (hb hby at_341) hr
            · show own_Q0 Z p0 q1 q2 q3 q4 q5 h0 n0 _ T613.heap _
              rw [e615]
              exact ⟨rfl, N614⟩
          · exact (own_leaf0_12 p0 q1 q2 q3 q4 q5 hv185 v186 hv186 v187 hv187 v188 hv188 v494 hv494 v495 hv495 hc599 hc605 hc611 hc617).elim
        · exact (own_leaf0_13 p0 q1 q2 q3 q4 q5 hv185 v186 hv186 v187 hv187 v188 hv188 v494 hv494 v495 hv495 hc599 hc605 hc611).elim
      · exact (own_leaf0_14 p0 q1 q2 q3 q4 q5 hv185 v186 hv186 v187 hv187 v188 hv188 v494 hv494 v495 hv495 hc599 hc605).elim
    · exact (own_leaf0_15 p0 q1 q2 q3 q4 q5 hv185 v186 hv186 v187 hv187 v188 hv188 v494 hv494 v495 hv495 hc599).elim
  · subst hs191
    obtain ⟨T618, h618, k618, X618, e618, E618, A618, st618⟩ := newP X0 hx hZ (hw _ (List.mem_of_getElem? (i := 0) rfl)) e0 (g := (mkF m 111 #[.val (.int p0), .val (.long q1), .second, .val (.long q2), .second, .val (.long q3), .second, .val (.long q4), .second, .val (.long q5), .second, .val (.int (3 : Int32)), .val (.int v186), .val (.int v187), .val (.int v188), .unset, .unset, .unset, .unset, .unset, .unset, .unset, .unset, .unset, .unset, .unset, .unset] [(.int (3 : Int32))])) rfl (hb hby at_111) rfl (by decide) (cap := 3) (by decide) (by decide) (by decide) (by decide)
    obtain ⟨b618, g618⟩ : ∃ z, z = h0.size := ⟨_, rfl⟩
    have g_b618 : n0 ≤ b618 := Nat.le_trans Z0 (Nat.le_of_eq g618.symm)
    have sz_b618 : h0.size ≤ b618 := Nat.le_trans (Keep.refl h0 []).1 (Nat.le_of_eq g618.symm)
    rw [← g618] at A618 st618
    have z619 : n0 ≤ h618.size := Nat.le_trans Z0 E618.1
    have K620 : Keep h0 h618 [] := (Keep.refl h0 []).ext E618
    have f621 : Arv Z h618 b618 k618 .int (3 : Int32) [(.int (0 : Int32)), (.int (0 : Int32)), (.int (0 : Int32))] (.int (0 : Int32)) := (Arv.new A618 (by decide)).pad (pad_rep [] (.int (0 : Int32)) 3)
    obtain ⟨cl622, Ar622, q622, S622, M622, H622, G622⟩ := id f621
    have hin622 : ¬ ((0 : Int32) < 0 ∨ cl622.slots.size ≤ ((0 : Int32)).toNatClampNeg) := inb_of S622 ⟨by decide, by decide⟩
    obtain ⟨T623, h623, X623, e623, W623, st623⟩ := stI X618 hx hZ e618 Ar622 (j := (0 : Int32)) hin622 (g := (mkF m 117 #[.val (.int p0), .val (.long q1), .second, .val (.long q2), .second, .val (.long q3), .second, .val (.long q4), .second, .val (.long q5), .second, .val (.int (3 : Int32)), .val (.int v186), .val (.int v187), .val (.int v188), .unset, .unset, .unset, .unset, .unset, .unset, .unset, .unset, .unset, .unset, .unset, .unset] [(.int v186), (.int (0 : Int32)), (.ref b618), (.ref b618)])) rfl rfl (hb hby at_117)
    have K624 : Keep h0 h623 [] := K620.wr W623 (Or.inr sz_b618)
    have z625 : n0 ≤ h623.size := Nat.le_trans z619 (Keep.of_wr W623).1
    have N626 := Fr.snoc X623 N0 g_b618
    have f627 : Arv Z h623 b618 k618 .int (3 : Int32) [(.int v186), (.int (0 : Int32)), (.int (0 : Int32))] (.int (0 : Int32)) := Arv.set Ar622 q622 S622 M622 H622 G622 rfl W623 0 rfl (Nat.le_of_ble_eq_true rfl)
    obtain ⟨cl628, Ar628, q628, S628, M628, H628, G628⟩ := id f627
    have hin628 : ¬ ((1 : Int32) < 0 ∨ cl628.slots.size ≤ ((1 : Int32)).toNatClampNeg) := inb_of S628 ⟨by decide, by decide⟩
    obtain ⟨T629, h629, X629, e629, W629, st629⟩ := stI X623 hx hZ e623 Ar628 (j := (1 : Int32)) hin628 (g := (mkF m 122 #[.val (.int p0), .val (.long q1), .second, .val (.long q2), .second, .val (.long q3), .second, .val (.long q4), .second, .val (.long q5), .second, .val (.int (3 : Int32)), .val (.int v186), .val (.int v187), .val (.int v188), .unset, .unset, .unset, .unset, .unset, .unset, .unset, .unset, .unset, .unset, .unset, .unset] [(.int v187), (.int (1 : Int32)), (.ref b618), (.ref b618)])) rfl rfl (hb hby at_122)
    have K630 : Keep h0 h629 [] := K624.wr W629 (Or.inr sz_b618)
    have z631 : n0 ≤ h629.size := Nat.le_trans z625 (Keep.of_wr W629).1
    have N632 := Fr.snoc X629 N626 g_b618
    have f633 : Arv Z h629 b618 k618 .int (3 : Int32) [(.int v186), (.int v187), (.int (0 : Int32))] (.int (0 : Int32)) := Arv.set Ar628 q628 S628 M628 H628 G628 rfl W629 1 rfl (Nat.le_of_ble_eq_true rfl)
    obtain ⟨cl634, Ar634, q634, S634, M634, H634, G634⟩ := id f633
    have hin634 : ¬ ((2 : Int32) < 0 ∨ cl634.slots.size ≤ ((2 : Int32)).toNatClampNeg) := inb_of S634 ⟨by decide, by decide⟩
    obtain ⟨T635, h635, X635, e635, W635, st635⟩ := stI X629 hx hZ e629 Ar634 (j := (2 : Int32)) hin634 (g := (mkF m 127 #[.val (.int p0), .val (.long q1), .second, .val (.long q2), .second, .val (.long q3), .second, .val (.long q4), .second, .val (.long q5), .second, .val (.int (3 : Int32)), .val (.int v186), .val (.int v187), .val (.int v188), .unset, .unset, .unset, .unset, .unset, .unset, .unset, .unset, .unset, .unset, .unset, .unset] [(.int v188), (.int (2 : Int32)), (.ref b618), (.ref b618)])) rfl rfl (hb hby at_127)
    have K636 : Keep h0 h635 [] := K630.wr W635 (Or.inr sz_b618)
    have z637 : n0 ≤ h635.size := Nat.le_trans z631 (Keep.of_wr W635).1
    have N638 := Fr.snoc X635 N632 g_b618
    have f639 : Arv Z h635 b618 k618 .int (3 : Int32) [(.int v186), (.int v187), (.int v188)] (.int (0 : Int32)) := Arv.set Ar634 q634 S634 M634 H634 G634 rfl W635 2 rfl (Nat.le_of_ble_eq_true rfl)
    obtain ⟨T640, h640, k640, X640, e640, E640, A640, st640⟩ := newP X635 hx hZ (hw _ (List.mem_of_getElem? (i := 1) rfl)) e635 (g := (mkF m 131 #[.val (.int p0), .val (.long q1), .second, .val (.long q2), .second, .val (.long q3), .second, .val (.long q4), .second, .val (.long q5), .second, .val (.int (3 : Int32)), .val (.int v186), .val (.int v187), .val (.int v188), .val (.ref b618), .unset, .unset, .unset, .unset, .unset, .unset, .unset, .unset, .unset, .unset, .unset] [(.int (3 : Int32))])) rfl (hb hby at_131) rfl (by decide) (cap := 3) (by decide) (by decide) (by decide) (by decide)
    obtain ⟨b640, g640⟩ : ∃ z, z = h635.size := ⟨_, rfl⟩
    have ne_b618_b640 : b618 ≠ b640 := Nat.ne_of_lt (Nat.lt_of_lt_of_le f639.lt (Nat.le_of_eq g640.symm))
    have g_b640 : n0 ≤ b640 := Nat.le_trans z637 (Nat.le_of_eq g640.symm)
    have sz_b640 : h0.size ≤ b640 := Nat.le_trans K636.1 (Nat.le_of_eq g640.symm)
    rw [← g640] at A640 st640
    have f641 := f639.ext E640
    have z642 : n0 ≤ h640.size := Nat.le_trans z637 E640.1
    have K643 : Keep h0 h640 [] := K636.ext E640
    have f644 : Arv Z h640 b640 k640 .long (3 : Int32) [(.long (0 : Int64)), (.long (0 : Int64)), (.long (0 : Int64))] (.long (0 : Int64)) := (Arv.new A640 (by decide)).pad (pad_rep [] (.long (0 : Int64)) 3)
    obtain ⟨cl645, Ar645, q645, S645, M645, H645, G645⟩ := id f644
    have hin645 : ¬ ((0 : Int32) < 0 ∨ cl645.slots.size ≤ ((0 : Int32)).toNatClampNeg) := inb_of S645 ⟨by decide, by decide⟩
    obtain ⟨T646, h646, X646, e646, W646, st646⟩ := stJ X640 hx hZ e640 Ar645 (j := (0 : Int32)) hin645 (g := (mkF m 136 #[.val (.int p0), .val (.long q1), .second, .val (.long q2), .second, .val (.long q3), .second, .val (.long q4), .second, .val (.long q5), .second, .val (.int (3 : Int32)), .val (.int v186), .val (.int v187), .val (.int v188), .val (.ref b618), .unset, .unset, .unset, .unset, .unset, .unset, .unset, .unset, .unset, .unset, .unset] [(.long q1), (.int (0 : Int32)), (.ref b640), (.ref b640)])) rfl rfl (hb hby at_136)
    have f647 := f641.other W646 ne_b618_b640
    have K648 : Keep h0 h646 [] := K643.wr W646 (Or.inr sz_b640)
    have z649 : n0 ≤ h646.size := Nat.le_trans z642 (Keep.of_wr W646).1
    have N650 := Fr.snoc X646 N638 g_b640
    have f651 : Arv Z h646 b640 k640 .long (3 : Int32) [(.long q1), (.long (0 : Int64)), (.long (0 : Int64))] (.long (0 : Int64)) := Arv.set Ar645 q645 S645 M645 H645 G645 rfl W646 0 rfl (Nat.le_of_ble_eq_true rfl)
    obtain ⟨cl652, Ar652, q652, S652, M652, H652, G652⟩ := id f651
    have hin652 : ¬ ((1 : Int32) < 0 ∨ cl652.slots.size ≤ ((1 : Int32)).toNatClampNeg) := inb_of S652 ⟨by decide, by decide⟩
    obtain ⟨T653, h653, X653, e653, W653, st653⟩ := stJ X646 hx hZ e646 Ar652 (j := (1 : Int32)) hin652 (g := (mkF m 140 #[.val (.int p0), .val (.long q1), .second, .val (.long q2), .second, .val (.long q3), .second, .val (.long q4), .second, .val (.long q5), .second, .val (.int (3 : Int32)), .val (.int v186), .val (.int v187), .val (.int v188), .val (.ref b618), .unset, .unset, .unset, .unset, .unset, .unset, .unset, .unset, .unset, .unset, .unset] [(.long q2), (.int (1 : Int32)), (.ref b640), (.ref b640)])) rfl rfl (hb hby at_140)
    have f654 := f647.other W653 ne_b618_b640
    have K655 : Keep h0 h653 [] := K648.wr W653 (Or.inr sz_b640)
    have z656 : n0 ≤ h653.size := Nat.le_trans z649 (Keep.of_wr W653).1
    have N657 := Fr.snoc X653 N650 g_b640
    have f658 : Arv Z h653 b640 k640 .long (3 : Int32) [(.long q1), (.long q2), (.long (0 : Int64))] (.long (0 : Int64)) := Arv.set Ar652 q652 S652 M652 H652 G652 rfl W653 1 rfl (Nat.le_of_ble_eq_true rfl)
    obtain ⟨cl659, Ar659, q659, S659, M659, H659, G659⟩ := id f658
    have hin659 : ¬ ((2 : Int32) < 0 ∨ cl659.slots.size ≤ ((2 : Int32)).toNatClampNeg) := inb_of S659 ⟨by decide, by decide⟩
    obtain ⟨T660, h660, X660, e660, W660, st660⟩ := stJ X653 hx hZ e653 Ar659 (j := (2 : Int32)) hin659 (g := (mkF m 145 #[.val (.int p0), .val (.long q1), .second, .val (.long q2), .second, .val (.long q3), .second, .val (.long q4), .second, .val (.long q5), .second, .val (.int (3 : Int32)), .val (.int v186), .val (.int v187), .val (.int v188), .val (.ref b618), .unset, .unset, .unset, .unset, .unset, .unset, .unset, .unset, .unset, .unset, .unset] [(.long q3), (.int (2 : Int32)), (.ref b640), (.ref b640)])) rfl rfl (hb hby at_145)
    have f661 := f654.other W660 ne_b618_b640
    have K662 : Keep h0 h660 [] := K655.wr W660 (Or.inr sz_b640)
    have z663 : n0 ≤ h660.size := Nat.le_trans z656 (Keep.of_wr W660).1
    have N664 := Fr.snoc X660 N657 g_b640
    have f665 : Arv Z h660 b640 k640 .long (3 : Int32) [(.long q1), (.long q2), (.long q3)] (.long (0 : Int64)) := Arv.set Ar659 q659 S659 M659 H659 G659 rfl W660 2 rfl (Nat.le_of_ble_eq_true rfl)
    obtain ⟨v666, hv666⟩ : ∃ z : Int64, z = (q4 ^^^ (-1 : Int64)) := ⟨_, rfl⟩
    obtain ⟨v667, hv667⟩ : ∃ z : Int64, z = (q5 ^^^ (-1 : Int64)) := ⟨_, rfl⟩
    obtain ⟨T668, h668, k668, X668, e668, E668, A668, st668⟩ := newP X660 hx hZ (hw _ (List.mem_of_getElem? (i := 1) rfl)) e660 (g := (mkF m 173 #[.val (.int p0), .val (.long q1), .second, .val (.long q2), .second, .val (.long q3), .second, .val (.long q4), .second, .val (.long q5), .second, .val (.int (3 : Int32)), .val (.int v186), .val (.int v187), .val (.int v188), .val (.ref b618), .val (.ref b640), .val (.long q4), .second, .val (.long q5), .second, .val (.long v666), .second, .val (.long v667), .second, .unset, .unset] [(.int (4 : Int32))])) rfl (hb hby at_173) rfl (by decide) (cap := 4) (by decide) (by decide) (by decide) (by decide)
    obtain ⟨b668, g668⟩ : ∃ z, z = h660.size := ⟨_, rfl⟩
    have ne_b618_b668 : b618 ≠ b668 := Nat.ne_of_lt (Nat.lt_of_lt_of_le f661.lt (Nat.le_of_eq g668.symm))
    have ne_b640_b668 : b640 ≠ b668 := Nat.ne_of_lt (Nat.lt_of_lt_of_le f665.lt (Nat.le_of_eq g668.symm))
    have g_b668 : n0 ≤ b668 := Nat.le_trans z663 (Nat.le_of_eq g668.symm)
    have sz_b668 : h0.size ≤ b668 := Nat.le_trans K662.1 (Nat.le_of_eq g668.symm)
    rw [← g668] at A668 st668
    have f669 := f661.ext E668
    have f670 := f665.ext E668
    have z671 : n0 ≤ h668.size := Nat.le_trans z663 E668.1
    have K672 : Keep h0 h668 [] := K662.ext E668
    have f673 : Arv Z h668 b668 k668 .long (4 : Int32) [(.long (0 : Int64)), (.long (0 : Int64)), (.long (0 : Int64)), (.long (0 : Int64))] (.long (0 : Int64)) := (Arv.new A668 (by decide)).pad (pad_rep [] (.long (0 : Int64)) 4)
    obtain ⟨cl674, Ar674, q674, S674, M674, H674, G674⟩ := id f673
    have hin674 : ¬ ((0 : Int32) < 0 ∨ cl674.slots.size ≤ ((0 : Int32)).toNatClampNeg) := inb_of S674 ⟨by decide, by decide⟩
    obtain ⟨T675, h675, X675, e675, W675, st675⟩ := stJ X668 hx hZ e668 Ar674 (j := (0 : Int32)) hin674 (g := (mkF m 179 #[.val (.int p0), .val (.long q1), .second, .val (.long q2), .second, .val (.long q3), .second, .val (.long q4), .second, .val (.long q5), .second, .val (.int (3 : Int32)), .val (.int v186), .val (.int v187), .val (.int v188), .val (.ref b618), .val (.ref b640), .val (.long q4), .second, .val (.long q5), .second, .val (.long v666), .second, .val (.long v667), .second, .unset, .unset] [(.long q4), (.int (0 : Int32)), (.ref b668), (.ref b668)])) rfl rfl (hb hby at_179)
    have f676 := f669.other W675 ne_b618_b668
    have f677 := f670.other W675 ne_b640_b668
    have K678 : Keep h0 h675 [] := K672.wr W675 (Or.inr sz_b668)
    have z679 : n0 ≤ h675.size := Nat.le_trans z671 (Keep.of_wr W675).1
    have N680 := Fr.snoc X675 N664 g_b668
    have f681 : Arv Z h675 b668 k668 .long (4 : Int32) [(.long q4), (.long (0 : Int64)), (.long (0 : Int64)), (.long (0 : Int64))] (.long (0 : Int64)) := Arv.set Ar674 q674 S674 M674 H674 G674 rfl W675 0 rfl (Nat.le_of_ble_eq_true rfl)
    obtain ⟨cl682, Ar682, q682, S682, M682, H682, G682⟩ := id f681
    have hin682 : ¬ ((1 : Int32) < 0 ∨ cl682.slots.size ≤ ((1 : Int32)).toNatClampNeg) := inb_of S682 ⟨by decide, by decide⟩
    obtain ⟨T683, h683, X683, e683, W683, st683⟩ := stJ X675 hx hZ e675 Ar682 (j := (1 : Int32)) hin682 (g := (mkF m 184 #[.val (.int p0), .val (.long q1), .second, .val (.long q2), .second, .val (.long q3), .second, .val (.long q4), .second, .val (.long q5), .second, .val (.int (3 : Int32)), .val (.int v186), .val (.int v187), .val (.int v188), .val (.ref b618), .val (.ref b640), .val (.long q4), .second, .val (.long q5), .second, .val (.long v666), .second, .val (.long v667), .second, .unset, .unset] [(.long q5), (.int (1 : Int32)), (.ref b668), (.ref b668)])) rfl rfl (hb hby at_184)
    have f684 := f676.other W683 ne_b618_b668
    have f685 := f677.other W683 ne_b640_b668
    have K686 : Keep h0 h683 [] := K678.wr W683 (Or.inr sz_b668)
    have z687 : n0 ≤ h683.size := Nat.le_trans z679 (Keep.of_wr W683).1
    have N688 := Fr.snoc X683 N680 g_b668
    have f689 : Arv Z h683 b668 k668 .long (4 : Int32) [(.long q4), (.long q5), (.long (0 : Int64)), (.long (0 : Int64))] (.long (0 : Int64)) := Arv.set Ar682 q682 S682 M682 H682 G682 rfl W683 1 rfl (Nat.le_of_ble_eq_true rfl)
    obtain ⟨cl690, Ar690, q690, S690, M690, H690, G690⟩ := id f689
    have hin690 : ¬ ((2 : Int32) < 0 ∨ cl690.slots.size ≤ ((2 : Int32)).toNatClampNeg) := inb_of S690 ⟨by decide, by decide⟩
    obtain ⟨T691, h691, X691, e691, W691, st691⟩ := stJ X683 hx hZ e683 Ar690 (j := (2 : Int32)) hin690 (g := (mkF m 189 #[.val (.int p0), .val (.long q1), .second, .val (.long q2), .second, .val (.long q3), .second, .val (.long q4), .second, .val (.long q5), .second, .val (.int (3 : Int32)), .val (.int v186), .val (.int v187), .val (.int v188), .val (.ref b618), .val (.ref b640), .val (.long q4), .second, .val (.long q5), .second, .val (.long v666), .second, .val (.long v667), .second, .unset, .unset] [(.long v666), (.int (2 : Int32)), (.ref b668), (.ref b668)])) rfl rfl (hb hby at_189)
    have f692 := f684.other W691 ne_b618_b668
    have f693 := f685.other W691 ne_b640_b668
    have K694 : Keep h0 h691 [] := K686.wr W691 (Or.inr sz_b668)
    have z695 : n0 ≤ h691.size := Nat.le_trans z687 (Keep.of_wr W691).1
    have N696 := Fr.snoc X691 N688 g_b668
    have f697 : Arv Z h691 b668 k668 .long (4 : Int32) [(.long q4), (.long q5), (.long v666), (.long (0 : Int64))] (.long (0 : Int64)) := Arv.set Ar690 q690 S690 M690 H690 G690 rfl W691 2 rfl (Nat.le_of_ble_eq_true rfl)
    obtain ⟨cl698, Ar698, q698, S698, M698, H698, G698⟩ := id f697
    have hin698 : ¬ ((3 : Int32) < 0 ∨ cl698.slots.size ≤ ((3 : Int32)).toNatClampNeg) := inb_of S698 ⟨by decide, by decide⟩
    obtain ⟨T699, h699, X699, e699, W699, st699⟩ := stJ X691 hx hZ e691 Ar698 (j := (3 : Int32)) hin698 (g := (mkF m 194 #[.val (.int p0), .val (.long q1), .second, .val (.long q2), .second, .val (.long q3), .second, .val (.long q4), .second, .val (.long q5), .second, .val (.int (3 : Int32)), .val (.int v186), .val (.int v187), .val (.int v188), .val (.ref b618), .val (.ref b640), .val (.long q4), .second, .val (.long q5), .second, .val (.long v666), .second, .val (.long v667), .second, .unset, .unset] [(.long v667), (.int (3 : Int32)), (.ref b668), (.ref b668)])) rfl rfl (hb hby at_194)
    have f700 := f692.other W699 ne_b618_b668
    have f701 := f693.other W699 ne_b640_b668
    have K702 : Keep h0 h699 [] := K694.wr W699 (Or.inr sz_b668)
    have z703 : n0 ≤ h699.size := Nat.le_trans z695 (Keep.of_wr W699).1
    have N704 := Fr.snoc X699 N696 g_b668
    have f705 : Arv Z h699 b668 k668 .long (4 : Int32) [(.long q4), (.long q5), (.long v666), (.long v667)] (.long (0 : Int64)) := Arv.set Ar698 q698 S698 M698 H698 G698 rfl W699 3 rfl (Nat.le_of_ble_eq_true rfl)
    obtain ⟨T706, h706, X706, e706, E706, A706, D706, -, st706⟩ := newO X699 hx hZ hown (hw _ (List.mem_of_getElem? (i := 3) rfl)) (hw _ (List.mem_of_getElem? (i := 4) rfl)) (hw _ (List.mem_of_getElem? (i := 5) rfl)) e699 (g := (mkF m 197 #[.val (.int p0), .val (.long q1), .second, .val (.long q2), .second, .val (.long q3), .second, .val (.long q4), .second, .val (.long q5), .second, .val (.int (3 : Int32)), .val (.int v186), .val (.int v187), .val (.int v188), .val (.ref b618), .val (.ref b640), .val (.long q4), .second, .val (.long q5), .second, .val (.long v666), .second, .val (.long v667), .second, .val (.ref b668), .unset] [])) rfl (hb hby at_197) (by decide) (by decide)
    obtain ⟨b706, g706⟩ : ∃ z, z = h699.size := ⟨_, rfl⟩
    have ne_b618_b706 : b618 ≠ b706 := Nat.ne_of_lt (Nat.lt_of_lt_of_le f700.lt (Nat.le_of_eq g706.symm))
    have ne_b640_b706 : b640 ≠ b706 := Nat.ne_of_lt (Nat.lt_of_lt_of_le f701.lt (Nat.le_of_eq g706.symm))
    have ne_b668_b706 : b668 ≠ b706 := Nat.ne_of_lt (Nat.lt_of_lt_of_le f705.lt (Nat.le_of_eq g706.symm))
    have g_b706 : n0 ≤ b706 := Nat.le_trans z703 (Nat.le_of_eq g706.symm)
    have sz_b706 : h0.size ≤ b706 := Nat.le_trans K702.1 (Nat.le_of_eq g706.symm)
    rw [← g706] at A706 D706 st706
    have f707 := f700.ext E706
    have f708 := f701.ext E706
    have f709 := f705.ext E706
    have z710 : n0 ≤ h706.size := Nat.le_trans z703 E706.1
    have K711 : Keep h0 h706 [] := K702.ext E706
    have f712 : Fld Z h706 b706 "com/example/thyme/thyme/engine/Hierarchy$Restart" "slots" "[I" .null := D706 (Or.inr (hw _ (List.mem_of_getElem? (i := 18) rfl))) (ty := (.array .int)) (by decide)
    have f713 : Fld Z h706 b706 "com/example/thyme/thyme/engine/Hierarchy$Restart" "values" "[J" .null := D706 (Or.inr (hw _ (List.mem_of_getElem? (i := 20) rfl))) (ty := (.array .long)) (by decide)
    have f714 : Fld Z h706 b706 "com/example/thyme/thyme/engine/Hierarchy$Restart" "clocks" "[I" .null := D706 (Or.inr (hw _ (List.mem_of_getElem? (i := 22) rfl))) (ty := (.array .int)) (by decide)
    obtain ⟨T715, h715, k715, X715, e715, E715, A715, st715⟩ := newP X706 hx hZ (hw _ (List.mem_of_getElem? (i := 0) rfl)) e706 (g := (mkF m 206 #[.val (.int p0), .val (.long q1), .second, .val (.long q2), .second, .val (.long q3), .second, .val (.long q4), .second, .val (.long q5), .second, .val (.int (3 : Int32)), .val (.int v186), .val (.int v187), .val (.int v188), .val (.ref b618), .val (.ref b640), .val (.long q4), .second, .val (.long q5), .second, .val (.long v666), .second, .val (.long v667), .second, .val (.ref b668), .unset] [(.int (1 : Int32)), (.ref b640), (.ref b618), (.ref b706), (.ref b706)])) rfl (hb hby at_206) rfl (by decide) (cap := 1) (by decide) (by decide) (by decide) (by decide)
    obtain ⟨b715, g715⟩ : ∃ z, z = h706.size := ⟨_, rfl⟩
    have ne_b618_b715 : b618 ≠ b715 := Nat.ne_of_lt (Nat.lt_of_lt_of_le f707.lt (Nat.le_of_eq g715.symm))
    have ne_b640_b715 : b640 ≠ b715 := Nat.ne_of_lt (Nat.lt_of_lt_of_le f708.lt (Nat.le_of_eq g715.symm))
    have ne_b668_b715 : b668 ≠ b715 := Nat.ne_of_lt (Nat.lt_of_lt_of_le f709.lt (Nat.le_of_eq g715.symm))
    have ne_b706_b715 : b706 ≠ b715 := Nat.ne_of_lt (Nat.lt_of_lt_of_le A706.lt (Nat.le_of_eq g715.symm))
    have g_b715 : n0 ≤ b715 := Nat.le_trans z710 (Nat.le_of_eq g715.symm)
    have sz_b715 : h0.size ≤ b715 := Nat.le_trans K711.1 (Nat.le_of_eq g715.symm)
    rw [← g715] at A715 st715
    have f716 := f707.ext E715
    have f717 := f708.ext E715
    have f718 := f709.ext E715
    have f719 := A706.ext E715
    have f720 := f712.ext E715
    have f721 := f713.ext E715
    have f722 := f714.ext E715
    have z723 : n0 ≤ h715.size := Nat.le_trans z710 E715.1
    have K724 : Keep h0 h715 [] := K711.ext E715
    have f725 : Arv Z h715 b715 k715 .int (1 : Int32) [(.int (0 : Int32))] (.int (0 : Int32)) := (Arv.new A715 (by decide)).pad (pad_rep [] (.int (0 : Int32)) 1)
    obtain ⟨cl726, Ar726, q726, S726, M726, H726, G726⟩ := id f725
    have hin726 : ¬ ((0 : Int32) < 0 ∨ cl726.slots.size ≤ ((0 : Int32)).toNatClampNeg) := inb_of S726 ⟨by decide, by decide⟩
    obtain ⟨T727, h727, X727, e727, W727, st727⟩ := stI X715 hx hZ e715 Ar726 (j := (0 : Int32)) hin726 (g := (mkF m 212 #[.val (.int p0), .val (.long q1), .second, .val (.long q2), .second, .val (.long q3), .second, .val (.long q4), .second, .val (.long q5), .second, .val (.int (3 : Int32)), .val (.int v186), .val (.int v187), .val (.int v188), .val (.ref b618), .val (.ref b640), .val (.long q4), .second, .val (.long q5), .second, .val (.long v666), .second, .val (.long v667), .second, .val (.ref b668), .unset] [(.int v188), (.int (0 : Int32)), (.ref b715), (.ref b715), (.ref b640), (.ref b618), (.ref b706), (.ref b706)])) rfl rfl (hb hby at_212)
    have f728 := f716.other W727 ne_b618_b715
    have f729 := f717.other W727 ne_b640_b715
    have f730 := f718.other W727 ne_b668_b715
    have f731 := f719.wr W727
    have f732 := f720.other W727 (Or.inl ne_b706_b715)
    have f733 := f721.other W727 (Or.inl ne_b706_b715)
    have f734 := f722.other W727 (Or.inl ne_b706_b715)
    have K735 : Keep h0 h727 [] := K724.wr W727 (Or.inr sz_b715)
    have z736 : n0 ≤ h727.size := Nat.le_trans z723 (Keep.of_wr W727).1
    have N737 := Fr.snoc X727 N704 g_b715
    have f738 : Arv Z h727 b715 k715 .int (1 : Int32) [(.int v188)] (.int (0 : Int32)) := Arv.set Ar726 q726 S726 M726 H726 G726 rfl W727 0 rfl (Nat.le_of_ble_eq_true rfl)
    obtain ⟨_, _, ⟨T739, L739, k739, n739⟩, -, X739, ⟨Lc739, hQ739, l739, y739, z739⟩, st739⟩ := X727.specialBack hx (y := (⟨"com/example/thyme/thyme/engine/Hierarchy$Restart", "<init>", "([I[J[I)V"⟩ : MethodName)) rfl hown (mvT hZ (hw _ (List.mem_of_getElem? (i := 6) rfl))) (mvT hZ (hw _ (List.mem_of_getElem? (i := 7) rfl))) (mvT hZ (hw _ (List.mem_of_getElem? (i := 8) rfl))) (by decide) (backOf (W := 1) (own_rm1 l Z av hw [] b706 b618 b640 b715 h727 n0 z736 f731 f732 f733 f734 g_b706) hZ (hw _ (List.mem_of_getElem? (i := 8) rfl)) (hw _ (List.mem_of_getElem? (i := 5) rfl)) (by decide) (by decide)) (g := (mkF m 213 #[.val (.int p0), .val (.long q1), .second, .val (.long q2), .second, .val (.long q3), .second, .val (.long q4), .second, .val (.long q5), .second, .val (.int (3 : Int32)), .val (.int v186), .val (.int v187), .val (.int v188), .val (.ref b618), .val (.ref b640), .val (.long q4), .second, .val (.long q5), .second, .val (.long v666), .second, .val (.long v667), .second, .val (.ref b668), .unset] [(.ref b715), (.ref b640), (.ref b618), (.ref b706), (.ref b706)])) rfl (by rw [hml]; rfl) (Steps.refl _) (a := b706) (argsL := [(.ref b618), (.ref b640), (.ref b715)]) (rest := [(.ref b706)]) (lenOf own_pd1 rfl) rfl (by show 2 * 0 + _ ≤ _; exact Nat.le_of_eq rfl) (hb hby at_213) (fun _ _ => ⟨rfl, e727, (by decide : 5 + 0 ≤ _), (by decide : 14 + 0 ≤ _)⟩)
    dsimp only [Pt.U, Pt.locs, Pt.cells, Pt.slots] at X739 l739 y739 z739 st739 hQ739
    subst l739 y739 z739
    obtain ⟨rfl, N739q, K739, f741, f742, f743, f744⟩ := hQ739
    have f745 := f728.keep K739 (ninS ne_b618_b706 nin0)
    have f746 := f729.keep K739 (ninS ne_b640_b706 nin0)
    have f747 := f730.keep K739 (ninS ne_b668_b706 nin0)
    have f748 := f738.keep K739 (ninS (Ne.symm ne_b706_b715) nin0)
    have K749 : Keep h0 T739.heap [] := K735.trans K739 (allS (Or.inr sz_b706) all0)
    have z750 : n0 ≤ T739.heap.size := Nat.le_trans z736 K739.1
    have N740 := Fr.app N737 N739q
    obtain ⟨cq751, kq751, q751a, q751b, q751c⟩ := isOf hZ rfl f741
    obtain ⟨_, _, ⟨T751, L751, k751, n751⟩, -, X751, ⟨Lc751, hQ751, l751, y751, z751⟩, st751⟩ := X739.virtualBack hx (y := (⟨"com/example/thyme/thyme/engine/Hierarchy$Restart", "write", "([J)V"⟩ : MethodName)) (z := (⟨"com/example/thyme/thyme/engine/Hierarchy$Restart", "write", "([J)V"⟩ : MethodName)) hown (mvT hZ (hw _ (List.mem_of_getElem? (i := 23) rfl))) (mvT hZ (hw _ (List.mem_of_getElem? (i := 24) rfl))) (notFace_of_selects (args := #[]) (mvT hZ (hw _ (List.mem_of_getElem? (i := 26) rfl)))) (mvT hZ (hw _ (List.mem_of_getElem? (i := 26) rfl))) (mvT hZ (hw _ (List.mem_of_getElem? (i := 25) rfl))) (by decide) (backOf (W := 0) (own_rmW3 l Z av hw [] b706 b668 (b618) (b640) (k618) ((.int (0 : Int32))) (k640) ((.long (0 : Int64))) (k668) ((.long (0 : Int64))) ((own_g4 q4 q5 v666 v667)) (v186) (v187) (v188) (q1) (q2) (q3) T739.heap n0 z750 f742 f743 f745 f746 f747 g_b668 (Ne.symm ne_b668_b706) ne_b618_b668 ne_b640_b668 ((own_side752 p0 hv185 v186 hv186)) ((own_side753 p0 hv185 v187 hv187)) ((own_side754 p0 hv185 v188 hv188))) hZ (hw _ (List.mem_of_getElem? (i := 27) rfl)) (hw _ (List.mem_of_getElem? (i := 5) rfl)) (by decide) (by decide)) q751a q751c (g := (mkF m 222 #[.val (.int p0), .val (.long q1), .second, .val (.long q2), .second, .val (.long q3), .second, .val (.long q4), .second, .val (.long q5), .second, .val (.int (3 : Int32)), .val (.int v186), .val (.int v187), .val (.int v188), .val (.ref b618), .val (.ref b640), .val (.long q4), .second, .val (.long q5), .second, .val (.long v666), .second, .val (.long v667), .second, .val (.ref b668), .val (.ref b706)] [(.ref b668), (.ref b706)])) rfl (by rw [hml]; rfl) (Steps.refl _) (argsL := [(.ref b668)]) (rest := []) (lenOf own_pd2 rfl) rfl (by show 2 * 0 + _ ≤ _; exact Nat.le_of_eq rfl) (hb hby at_222) (fun _ _ => ⟨rfl, rfl, (by decide : 5 + 0 ≤ _), (by decide : 14 + 0 ≤ _)⟩)
    dsimp only [Pt.U, Pt.locs, Pt.cells, Pt.slots] at X751 l751 y751 z751 st751 hQ751
    subst l751 y751 z751
    obtain ⟨rfl, N751q, K751, f756⟩ := hQ751
    have f757 := f745.keep K751 (ninS ne_b618_b668 nin0)
    have f758 := f746.keep K751 (ninS ne_b640_b668 nin0)
    have f759 := f748.keep K751 (ninS (Ne.symm ne_b668_b715) nin0)
    have f760 := f741.keep K751
    have f761 := f742.keep K751 (ninS (Ne.symm ne_b668_b706) nin0)
    have f762 := f743.keep K751 (ninS (Ne.symm ne_b668_b706) nin0)
    have f763 := f744.keep K751 (ninS (Ne.symm ne_b668_b706) nin0)
    have K764 : Keep h0 T751.heap [] := K749.trans K751 (allS (Or.inr sz_b668) all0)
    have z765 : n0 ≤ T751.heap.size := Nat.le_trans z750 K751.1
    have N755 := Fr.app N740 N751q
    obtain ⟨cl766, Ar766, q766, S766, M766, H766, G766⟩ := id f756
    obtain ⟨cl767, Ar767, q767, S767, M767, H767, G767⟩ := id f756
    have hin767 : ¬ ((0 : Int32) < 0 ∨ cl767.slots.size ≤ ((0 : Int32)).toNatClampNeg) := inb_of S767 ⟨by decide, by decide⟩
    have hat767 : cl767.slots[((0 : Int32)).toNatClampNeg]? = some (.long ((own_upd (own_upd (own_upd (own_g4 q4 q5 v666 v667) v186 q1) v187 q2) v188 q3) 0)) := H767.at hin767 rfl
    obtain ⟨_, _, ⟨T768, L768, k768, n768⟩, -, X768, ⟨Lc768, hQ768, l768, y768, z768⟩, st768⟩ := Jvm.LawKit.callS X751 hx (y := (⟨"com/example/thyme/thyme/engine/RestartWritePinLaw", "expect", "(IIIIIJJJJ)J"⟩ : MethodName)) hown (mvT hZ (hw _ (List.mem_of_getElem? (i := 28) rfl))) (mvT hZ (hw _ (List.mem_of_getElem? (i := 29) rfl))) (mvT hZ (hw _ (List.mem_of_getElem? (i := 30) rfl))) (mvT hZ (hw _ (List.mem_of_getElem? (i := 31) rfl))) (by decide) (backOf (W := 2) (own_rm5 l Z av hw [] (0 : Int32) (3 : Int32) v186 v187 v188 q1 q2 q3 q4 T751.heap n0 z765 ) hZ (hw _ (List.mem_of_getElem? (i := 31) rfl)) (hw _ (List.mem_of_getElem? (i := 30) rfl)) (by decide) (by decide)) (g := (mkF m 251 #[.val (.int p0), .val (.long q1), .second, .val (.long q2), .second, .val (.long q3), .second, .val (.long q4), .second, .val (.long q5), .second, .val (.int (3 : Int32)), .val (.int v186), .val (.int v187), .val (.int v188), .val (.ref b618), .val (.ref b640), .val (.long q4), .second, .val (.long q5), .second, .val (.long v666), .second, .val (.long v667), .second, .val (.ref b668), .val (.ref b706)] [(.long q4), (.long q3), (.long q2), (.long q1), (.int v188), (.int v187), (.int v186), (.int (3 : Int32)), (.int (0 : Int32)), (.long ((own_upd (own_upd (own_upd (own_g4 q4 q5 v666 v667) v186 q1) v187 q2) v188 q3) 0))])) rfl (by rw [hml]; rfl) (argsL := [(.int (0 : Int32)), (.int (3 : Int32)), (.int v186), (.int v187), (.int v188), (.long q1), (.long q2), (.long q3), (.long q4)]) (rest := [(.long ((own_upd (own_upd (own_upd (own_g4 q4 q5 v666 v667) v186 q1) v187 q2) v188 q3) 0))]) (lenOf own_pd3 rfl) rfl (by show 2 * 0 + _ ≤ _; exact Nat.le_of_eq rfl) (hb hby at_251) (fun _ _ => ⟨rfl, rfl, (by decide : 5 + 0 ≤ _), (by decide : 14 + 0 ≤ _)⟩)
    dsimp only [Pt.U, Pt.locs, Pt.cells, Pt.slots] at X768 l768 y768 z768 st768 hQ768
    subst l768 y768 z768
    obtain ⟨rfl, N768q, e770⟩ := hQ768
    have N769 := Fr.app N755 N768q
    have pre771 : ∀ t, Steps p.tables e below (T768.setTop (mkF m 255 #[.val (.int p0), .val (.long q1), .second, .val (.long q2), .second, .val (.long q3), .second, .val (.long q4), .second, .val (.long q5), .second, .val (.int (3 : Int32)), .val (.int v186), .val (.int v187), .val (.int v188), .val (.ref b618), .val (.ref b640), .val (.long q4), .second, .val (.long q5), .second, .val (.long v666), .second, .val (.long v667), .second, .val (.ref b668), .val (.ref b706)] [(.int (lcmpW ((own_upd (own_upd (own_upd (own_g4 q4 q5 v666 v667) v186 q1) v187 q2) v188 q3) 0) (own_f5 (0 : Int32) (3 : Int32) v186 v187 v188 q1 q2 q3 q4)))])) t → Steps p.tables e below (s₁.setTop (entryFrame m #[(.int p0), (.long q1), (.long q2), (.long q3), (.long q4), (.long q5)] maxLocals)) t := fun t kk => pre190 t (by
      show Steps p.tables e below (s₁.setTop (mkF m 27 #[.val (.int p0), .val (.long q1), .second, .val (.long q2), .second, .val (.long q3), .second, .val (.long q4), .second, .val (.long q5), .second, .val (.int (3 : Int32)), .val (.int v186), .val (.int v187), .val (.int v188), .unset, .unset, .unset, .unset, .unset, .unset, .unset, .unset, .unset, .unset, .unset, .unset] [])) _
      refine XS.iload X0.here hx rfl (hb hby at_27) rfl ?_
      show Steps p.tables e below (s₁.setTop (mkF m 29 #[.val (.int p0), .val (.long q1), .second, .val (.long q2), .second, .val (.long q3), .second, .val (.long q4), .second, .val (.long q5), .second, .val (.int (3 : Int32)), .val (.int v186), .val (.int v187), .val (.int v188), .unset, .unset, .unset, .unset, .unset, .unset, .unset, .unset, .unset, .unset, .unset, .unset] [(.int (3 : Int32))])) _
      refine XS.ifYes X0.here hx rfl (pc0 := 29) (pc' := 45) rfl (hb hby at_29) rfl ((if0 _ _).trans (feq (by decide : ¬ ((3 : Int32) = (0 : Int32)))).2) (by decide) (by decide) ?_
      show Steps p.tables e below (s₁.setTop (mkF m 45 #[.val (.int p0), .val (.long q1), .second, .val (.long q2), .second, .val (.long q3), .second, .val (.long q4), .second, .val (.long q5), .second, .val (.int (3 : Int32)), .val (.int v186), .val (.int v187), .val (.int v188), .unset, .unset, .unset, .unset, .unset, .unset, .unset, .unset, .unset, .unset, .unset, .unset] [])) _
      refine XS.iload X0.here hx rfl (hb hby at_45) rfl ?_
      show Steps p.tables e below (s₁.setTop (mkF m 47 #[.val (.int p0), .val (.long q1), .second, .val (.long q2), .second, .val (.long q3), .second, .val (.long q4), .second, .val (.long q5), .second, .val (.int (3 : Int32)), .val (.int v186), .val (.int v187), .val (.int v188), .unset, .unset, .unset, .unset, .unset, .unset, .unset, .unset, .unset, .unset, .unset, .unset] [(.int (3 : Int32))])) _
      refine XS.iconst X0.here hx rfl (hb hby at_47) ?_
      show Steps p.tables e below (s₁.setTop (mkF m 48 #[.val (.int p0), .val (.long q1), .second, .val (.long q2), .second, .val (.long q3), .second, .val (.long q4), .second, .val (.long q5), .second, .val (.int (3 : Int32)), .val (.int v186), .val (.int v187), .val (.int v188), .unset, .unset, .unset, .unset, .unset, .unset, .unset, .unset, .unset, .unset, .unset, .unset] [(.int (1 : Int32)), (.int (3 : Int32))])) _
      refine XS.icmpYes X0.here hx rfl (pc0 := 48) (pc' := 73) rfl (hb hby at_48) rfl (feq (by decide : ¬ ((3 : Int32) = (1 : Int32)))).2 (by decide) (by decide) ?_
      show Steps p.tables e below (s₁.setTop (mkF m 73 #[.val (.int p0), .val (.long q1), .second, .val (.long q2), .second, .val (.long q3), .second, .val (.long q4), .second, .val (.long q5), .second, .val (.int (3 : Int32)), .val (.int v186), .val (.int v187), .val (.int v188), .unset, .unset, .unset, .unset, .unset, .unset, .unset, .unset, .unset, .unset, .unset, .unset] [])) _
      refine XS.iload X0.here hx rfl (hb hby at_73) rfl ?_
      show Steps p.tables e below (s₁.setTop (mkF m 75 #[.val (.int p0), .val (.long q1), .second, .val (.long q2), .second, .val (.long q3), .second, .val (.long q4), .second, .val (.long q5), .second, .val (.int (3 : Int32)), .val (.int v186), .val (.int v187), .val (.int v188), .unset, .unset, .unset, .unset, .unset, .unset, .unset, .unset, .unset, .unset, .unset, .unset] [(.int (3 : Int32))])) _
      refine XS.iconst X0.here hx rfl (hb hby at_75) ?_
      show Steps p.tables e below (s₁.setTop (mkF m 76 #[.val (.int p0), .val (.long q1), .second, .val (.long q2), .second, .val (.long q3), .second, .val (.long q4), .second, .val (.long q5), .second, .val (.int (3 : Int32)), .val (.int v186), .val (.int v187), .val (.int v188), .unset, .unset, .unset, .unset, .unset, .unset, .unset, .unset, .unset, .unset, .unset, .unset] [(.int (2 : Int32)), (.int (3 : Int32))])) _
      refine XS.icmpYes X0.here hx rfl (pc0 := 76) (pc' := 110) rfl (hb hby at_76) rfl (feq (by decide : ¬ ((3 : Int32) = (2 : Int32)))).2 (by decide) (by decide) ?_
      show Steps p.tables e below (s₁.setTop (mkF m 110 #[.val (.int p0), .val (.long q1), .second, .val (.long q2), .second, .val (.long q3), .second, .val (.long q4), .second, .val (.long q5), .second, .val (.int (3 : Int32)), .val (.int v186), .val (.int v187), .val (.int v188), .unset, .unset, .unset, .unset, .unset, .unset, .unset, .unset, .unset, .unset, .unset, .unset] [])) _
      refine XS.iconst X0.here hx rfl (hb hby at_110) ?_
      show Steps p.tables e below (s₁.setTop (mkF m 111 #[.val (.int p0), .val (.long q1), .second, .val (.long q2), .second, .val (.long q3), .second, .val (.long q4), .second, .val (.long q5), .second, .val (.int (3 : Int32)), .val (.int v186), .val (.int v187), .val (.int v188), .unset, .unset, .unset, .unset, .unset, .unset, .unset, .unset, .unset, .unset, .unset, .unset] [(.int (3 : Int32))])) _
      refine st618 _ ?_
      show Steps p.tables e below (T618.setTop (mkF m 113 #[.val (.int p0), .val (.long q1), .second, .val (.long q2), .second, .val (.long q3), .second, .val (.long q4), .second, .val (.long q5), .second, .val (.int (3 : Int32)), .val (.int v186), .val (.int v187), .val (.int v188), .unset, .unset, .unset, .unset, .unset, .unset, .unset, .unset, .unset, .unset, .unset, .unset] [(.ref b618)])) _
      refine XS.dup X618.here hx rfl (hb hby at_113) rfl rfl ?_
      show Steps p.tables e below (T618.setTop (mkF m 114 #[.val (.int p0), .val (.long q1), .second, .val (.long q2), .second, .val (.long q3), .second, .val (.long q4), .second, .val (.long q5), .second, .val (.int (3 : Int32)), .val (.int v186), .val (.int v187), .val (.int v188), .unset, .unset, .unset, .unset, .unset, .unset, .unset, .unset, .unset, .unset, .unset, .unset] [(.ref b618), (.ref b618)])) _
      refine XS.iconst X618.here hx rfl (hb hby at_114) ?_
      show Steps p.tables e below (T618.setTop (mkF m 115 #[.val (.int p0), .val (.long q1), .second, .val (.long q2), .second, .val (.long q3), .second, .val (.long q4), .second, .val (.long q5), .second, .val (.int (3 : Int32)), .val (.int v186), .val (.int v187), .val (.int v188), .unset, .unset, .unset, .unset, .unset, .unset, .unset, .unset, .unset, .unset, .unset, .unset] [(.int (0 : Int32)), (.ref b618), (.ref b618)])) _
      refine XS.iload X618.here hx rfl (hb hby at_115) rfl ?_
      show Steps p.tables e below (T618.setTop (mkF m 117 #[.val (.int p0), .val (.long q1), .second, .val (.long q2), .second, .val (.long q3), .second, .val (.long q4), .second, .val (.long q5), .second, .val (.int (3 : Int32)), .val (.int v186), .val (.int v187), .val (.int v188), .unset, .unset, .unset, .unset, .unset, .unset, .unset, .unset, .unset, .unset, .unset, .unset] [(.int v186), (.int (0 : Int32)), (.ref b618), (.ref b618)])) _
      refine st623 _ ?_
      show Steps p.tables e below (T623.setTop (mkF m 118 #[.val (.int p0), .val (.long q1), .second, .val (.long q2), .second, .val (.long q3), .second, .val (.long q4), .second, .val (.long q5), .second, .val (.int (3 : Int32)), .val (.int v186), .val (.int v187), .val (.int v188), .unset, .unset, .unset, .unset, .unset, .unset, .unset, .unset, .unset, .unset, .unset, .unset] [(.ref b618)])) _
      refine XS.dup X623.here hx rfl (hb hby at_118) rfl rfl ?_
      show Steps p.tables e below (T623.setTop (mkF m 119 #[.val (.int p0), .val (.long q1), .second, .val (.long q2), .second, .val (.long q3), .second, .val (.long q4), .second, .val (.long q5), .second, .val (.int (3 : Int32)), .val (.int v186), .val (.int v187), .val (.int v188), .unset, .unset, .unset, .unset, .unset, .unset, .unset, .unset, .unset, .unset, .unset, .unset] [(.ref b618), (.ref b618)])) _
      refine XS.iconst X623.here hx rfl (hb hby at_119) ?_
      show Steps p.tables e below (T623.setTop (mkF m 120 #[.val (.int p0), .val (.long q1), .second, .val (.long q2), .second, .val (.long q3), .second, .val (.long q4), .second, .val (.long q5), .second, .val (.int (3 : Int32)), .val (.int v186), .val (.int v187), .val (.int v188), .unset, .unset, .unset, .unset, .unset, .unset, .unset, .unset, .unset, .unset, .unset, .unset] [(.int (1 : Int32)), (.ref b618), (.ref b618)])) _
      refine XS.iload X623.here hx rfl (hb hby at_120) rfl ?_
      show Steps p.tables e below (T623.setTop (mkF m 122 #[.val (.int p0), .val (.long q1), .second, .val (.long q2), .second, .val (.long q3), .second, .val (.long q4), .second, .val (.long q5), .second, .val (.int (3 : Int32)), .val (.int v186), .val (.int v187), .val (.int v188), .unset, .unset, .unset, .unset, .unset, .unset, .unset, .unset, .unset, .unset, .unset, .unset] [(.int v187), (.int (1 : Int32)), (.ref b618), (.ref b618)])) _
      refine st629 _ ?_
      show Steps p.tables e below (T629.setTop (mkF m 123 #[.val (.int p0), .val (.long q1), .second, .val (.long q2), .second, .val (.long q3), .second, .val (.long q4), .second, .val (.long q5), .second, .val (.int (3 : Int32)), .val (.int v186), .val (.int v187), .val (.int v188), .unset, .unset, .unset, .unset, .unset, .unset, .unset, .unset, .unset, .unset, .unset, .unset] [(.ref b618)])) _
      refine XS.dup X629.here hx rfl (hb hby at_123) rfl rfl ?_
      show Steps p.tables e below (T629.setTop (mkF m 124 #[.val (.int p0), .val (.long q1), .second, .val (.long q2), .second, .val (.long q3), .second, .val (.long q4), .second, .val (.long q5), .second, .val (.int (3 : Int32)), .val (.int v186), .val (.int v187), .val (.int v188), .unset, .unset, .unset, .unset, .unset, .unset, .unset, .unset, .unset, .unset, .unset, .unset] [(.ref b618), (.ref b618)])) _
      refine XS.iconst X629.here hx rfl (hb hby at_124) ?_
      show Steps p.tables e below (T629.setTop (mkF m 125 #[.val (.int p0), .val (.long q1), .second, .val (.long q2), .second, .val (.long q3), .second, .val (.long q4), .second, .val (.long q5), .second, .val (.int (3 : Int32)), .val (.int v186), .val (.int v187), .val (.int v188), .unset, .unset, .unset, .unset, .unset, .unset, .unset, .unset, .unset, .unset, .unset, .unset] [(.int (2 : Int32)), (.ref b618), (.ref b618)])) _
      refine XS.iload X629.here hx rfl (hb hby at_125) rfl ?_
      show Steps p.tables e below (T629.setTop (mkF m 127 #[.val (.int p0), .val (.long q1), .second, .val (.long q2), .second, .val (.long q3), .second, .val (.long q4), .second, .val (.long q5), .second, .val (.int (3 : Int32)), .val (.int v186), .val (.int v187), .val (.int v188), .unset, .unset, .unset, .unset, .unset, .unset, .unset, .unset, .unset, .unset, .unset, .unset] [(.int v188), (.int (2 : Int32)), (.ref b618), (.ref b618)])) _
      refine st635 _ ?_
      show Steps p.tables e below (T635.setTop (mkF m 128 #[.val (.int p0), .val (.long q1), .second, .val (.long q2), .second, .val (.long q3), .second, .val (.long q4), .second, .val (.long q5), .second, .val (.int (3 : Int32)), .val (.int v186), .val (.int v187), .val (.int v188), .unset, .unset, .unset, .unset, .unset, .unset, .unset, .unset, .unset, .unset, .unset, .unset] [(.ref b618)])) _
      refine XS.astore X635.here hx rfl (hb hby at_128) rfl rfl (l' := #[.val (.int p0), .val (.long q1), .second, .val (.long q2), .second, .val (.long q3), .second, .val (.long q4), .second, .val (.long q5), .second, .val (.int (3 : Int32)), .val (.int v186), .val (.int v187), .val (.int v188), .val (.ref b618), .unset, .unset, .unset, .unset, .unset, .unset, .unset, .unset, .unset, .unset, .unset]) rfl ?_
      show Steps p.tables e below (T635.setTop (mkF m 130 #[.val (.int p0), .val (.long q1), .second, .val (.long q2), .second, .val (.long q3), .second, .val (.long q4), .second, .val (.long q5), .second, .val (.int (3 : Int32)), .val (.int v186), .val (.int v187), .val (.int v188), .val (.ref b618), .unset, .unset, .unset, .unset, .unset, .unset, .unset, .unset, .unset, .unset, .unset] [])) _
      refine XS.iconst X635.here hx rfl (hb hby at_130) ?_
      show Steps p.tables e below (T635.setTop (mkF m 131 #[.val (.int p0), .val (.long q1), .second, .val (.long q2), .second, .val (.long q3), .second, .val (.long q4), .second, .val (.long q5), .second, .val (.int (3 : Int32)), .val (.int v186), .val (.int v187), .val (.int v188), .val (.ref b618), .unset, .unset, .unset, .unset, .unset, .unset, .unset, .unset, .unset, .unset, .unset] [(.int (3 : Int32))])) _
      refine st640 _ ?_
      show Steps p.tables e below (T640.setTop (mkF m 133 #[.val (.int p0), .val (.long q1), .second, .val (.long q2), .second, .val (.long q3), .second, .val (.long q4), .second, .val (.long q5), .second, .val (.int (3 : Int32)), .val (.int v186), .val (.int v187), .val (.int v188), .val (.ref b618), .unset, .unset, .unset, .unset, .unset, .unset, .unset, .unset, .unset, .unset, .unset] [(.ref b640)])) _
      refine XS.dup X640.here hx rfl (hb hby at_133) rfl rfl ?_
      show Steps p.tables e below (T640.setTop (mkF m 134 #[.val (.int p0), .val (.long q1), .second, .val (.long q2), .second, .val (.long q3), .second, .val (.long q4), .second, .val (.long q5), .second, .val (.int (3 : Int32)), .val (.int v186), .val (.int v187), .val (.int v188), .val (.ref b618), .unset, .unset, .unset, .unset, .unset, .unset, .unset, .unset, .unset, .unset, .unset] [(.ref b640), (.ref b640)])) _
      refine XS.iconst X640.here hx rfl (hb hby at_134) ?_
      show Steps p.tables e below (T640.setTop (mkF m 135 #[.val (.int p0), .val (.long q1), .second, .val (.long q2), .second, .val (.long q3), .second, .val (.long q4), .second, .val (.long q5), .second, .val (.int (3 : Int32)), .val (.int v186), .val (.int v187), .val (.int v188), .val (.ref b618), .unset, .unset, .unset, .unset, .unset, .unset, .unset, .unset, .unset, .unset, .unset] [(.int (0 : Int32)), (.ref b640), (.ref b640)])) _
      refine XS.lloadN X640.here hx rfl (hb hby at_135) rfl ?_
      show Steps p.tables e below (T640.setTop (mkF m 136 #[.val (.int p0), .val (.long q1), .second, .val (.long q2), .second, .val (.long q3), .second, .val (.long q4), .second, .val (.long q5), .second, .val (.int (3 : Int32)), .val (.int v186), .val (.int v187), .val (.int v188), .val (.ref b618), .unset, .unset, .unset, .unset, .unset, .unset, .unset, .unset, .unset, .unset, .unset] [(.long q1), (.int (0 : Int32)), (.ref b640), (.ref b640)])) _
      refine st646 _ ?_
      show Steps p.tables e below (T646.setTop (mkF m 137 #[.val (.int p0), .val (.long q1), .second, .val (.long q2), .second, .val (.long q3), .second, .val (.long q4), .second, .val (.long q5), .second, .val (.int (3 : Int32)), .val (.int v186), .val (.int v187), .val (.int v188), .val (.ref b618), .unset, .unset, .unset, .unset, .unset, .unset, .unset, .unset, .unset, .unset, .unset] [(.ref b640)])) _
      refine XS.dup X646.here hx rfl (hb hby at_137) rfl rfl ?_
      show Steps p.tables e below (T646.setTop (mkF m 138 #[.val (.int p0), .val (.long q1), .second, .val (.long q2), .second, .val (.long q3), .second, .val (.long q4), .second, .val (.long q5), .second, .val (.int (3 : Int32)), .val (.int v186), .val (.int v187), .val (.int v188), .val (.ref b618), .unset, .unset, .unset, .unset, .unset, .unset, .unset, .unset, .unset, .unset, .unset] [(.ref b640), (.ref b640)])) _
      refine XS.iconst X646.here hx rfl (hb hby at_138) ?_
      show Steps p.tables e below (T646.setTop (mkF m 139 #[.val (.int p0), .val (.long q1), .second, .val (.long q2), .second, .val (.long q3), .second, .val (.long q4), .second, .val (.long q5), .second, .val (.int (3 : Int32)), .val (.int v186), .val (.int v187), .val (.int v188), .val (.ref b618), .unset, .unset, .unset, .unset, .unset, .unset, .unset, .unset, .unset, .unset, .unset] [(.int (1 : Int32)), (.ref b640), (.ref b640)])) _
      refine XS.lloadN X646.here hx rfl (hb hby at_139) rfl ?_
      show Steps p.tables e below (T646.setTop (mkF m 140 #[.val (.int p0), .val (.long q1), .second, .val (.long q2), .second, .val (.long q3), .second, .val (.long q4), .second, .val (.long q5), .second, .val (.int (3 : Int32)), .val (.int v186), .val (.int v187), .val (.int v188), .val (.ref b618), .unset, .unset, .unset, .unset, .unset, .unset, .unset, .unset, .unset, .unset, .unset] [(.long q2), (.int (1 : Int32)), (.ref b640), (.ref b640)])) _
      refine st653 _ ?_
      show Steps p.tables e below (T653.setTop (mkF m 141 #[.val (.int p0), .val (.long q1), .second, .val (.long q2), .second, .val (.long q3), .second, .val (.long q4), .second, .val (.long q5), .second, .val (.int (3 : Int32)), .val (.int v186), .val (.int v187), .val (.int v188), .val (.ref b618), .unset, .unset, .unset, .unset, .unset, .unset, .unset, .unset, .unset, .unset, .unset] [(.ref b640)])) _
      refine XS.dup X653.here hx rfl (hb hby at_141) rfl rfl ?_
      show Steps p.tables e below (T653.setTop (mkF m 142 #[.val (.int p0), .val (.long q1), .second, .val (.long q2), .second, .val (.long q3), .second, .val (.long q4), .second, .val (.long q5), .second, .val (.int (3 : Int32)), .val (.int v186), .val (.int v187), .val (.int v188), .val (.ref b618), .unset, .unset, .unset, .unset, .unset, .unset, .unset, .unset, .unset, .unset, .unset] [(.ref b640), (.ref b640)])) _
      refine XS.iconst X653.here hx rfl (hb hby at_142) ?_
      show Steps p.tables e below (T653.setTop (mkF m 143 #[.val (.int p0), .val (.long q1), .second, .val (.long q2), .second, .val (.long q3), .second, .val (.long q4), .second, .val (.long q5), .second, .val (.int (3 : Int32)), .val (.int v186), .val (.int v187), .val (.int v188), .val (.ref b618), .unset, .unset, .unset, .unset, .unset, .unset, .unset, .unset, .unset, .unset, .unset] [(.int (2 : Int32)), (.ref b640), (.ref b640)])) _
      refine XS.lload X653.here hx rfl (hb hby at_143) rfl ?_
      show Steps p.tables e below (T653.setTop (mkF m 145 #[.val (.int p0), .val (.long q1), .second, .val (.long q2), .second, .val (.long q3), .second, .val (.long q4), .second, .val (.long q5), .second, .val (.int (3 : Int32)), .val (.int v186), .val (.int v187), .val (.int v188), .val (.ref b618), .unset, .unset, .unset, .unset, .unset, .unset, .unset, .unset, .unset, .unset, .unset] [(.long q3), (.int (2 : Int32)), (.ref b640), (.ref b640)])) _
      refine st660 _ ?_
      show Steps p.tables e below (T660.setTop (mkF m 146 #[.val (.int p0), .val (.long q1), .second, .val (.long q2), .second, .val (.long q3), .second, .val (.long q4), .second, .val (.long q5), .second, .val (.int (3 : Int32)), .val (.int v186), .val (.int v187), .val (.int v188), .val (.ref b618), .unset, .unset, .unset, .unset, .unset, .unset, .unset, .unset, .unset, .unset, .unset] [(.ref b640)])) _
      refine XS.astore X660.here hx rfl (hb hby at_146) rfl rfl (l' := #[.val (.int p0), .val (.long q1), .second, .val (.long q2), .second, .val (.long q3), .second, .val (.long q4), .second, .val (.long q5), .second, .val (.int (3 : Int32)), .val (.int v186), .val (.int v187), .val (.int v188), .val (.ref b618), .val (.ref b640), .unset, .unset, .unset, .unset, .unset, .unset, .unset, .unset, .unset, .unset]) rfl ?_
      show Steps p.tables e below (T660.setTop (mkF m 148 #[.val (.int p0), .val (.long q1), .second, .val (.long q2), .second, .val (.long q3), .second, .val (.long q4), .second, .val (.long q5), .second, .val (.int (3 : Int32)), .val (.int v186), .val (.int v187), .val (.int v188), .val (.ref b618), .val (.ref b640), .unset, .unset, .unset, .unset, .unset, .unset, .unset, .unset, .unset, .unset] [])) _
      refine XS.lload X660.here hx rfl (hb hby at_148) rfl ?_
      show Steps p.tables e below (T660.setTop (mkF m 150 #[.val (.int p0), .val (.long q1), .second, .val (.long q2), .second, .val (.long q3), .second, .val (.long q4), .second, .val (.long q5), .second, .val (.int (3 : Int32)), .val (.int v186), .val (.int v187), .val (.int v188), .val (.ref b618), .val (.ref b640), .unset, .unset, .unset, .unset, .unset, .unset, .unset, .unset, .unset, .unset] [(.long q4)])) _
      refine XS.lstore X660.here hx rfl (hb hby at_150) rfl (l' := #[.val (.int p0), .val (.long q1), .second, .val (.long q2), .second, .val (.long q3), .second, .val (.long q4), .second, .val (.long q5), .second, .val (.int (3 : Int32)), .val (.int v186), .val (.int v187), .val (.int v188), .val (.ref b618), .val (.ref b640), .val (.long q4), .second, .unset, .unset, .unset, .unset, .unset, .unset, .unset, .unset]) rfl ?_
      show Steps p.tables e below (T660.setTop (mkF m 152 #[.val (.int p0), .val (.long q1), .second, .val (.long q2), .second, .val (.long q3), .second, .val (.long q4), .second, .val (.long q5), .second, .val (.int (3 : Int32)), .val (.int v186), .val (.int v187), .val (.int v188), .val (.ref b618), .val (.ref b640), .val (.long q4), .second, .unset, .unset, .unset, .unset, .unset, .unset, .unset, .unset] [])) _
      refine XS.lload X660.here hx rfl (hb hby at_152) rfl ?_
      show Steps p.tables e below (T660.setTop (mkF m 154 #[.val (.int p0), .val (.long q1), .second, .val (.long q2), .second, .val (.long q3), .second, .val (.long q4), .second, .val (.long q5), .second, .val (.int (3 : Int32)), .val (.int v186), .val (.int v187), .val (.int v188), .val (.ref b618), .val (.ref b640), .val (.long q4), .second, .unset, .unset, .unset, .unset, .unset, .unset, .unset, .unset] [(.long q5)])) _
      refine XS.lstore X660.here hx rfl (hb hby at_154) rfl (l' := #[.val (.int p0), .val (.long q1), .second, .val (.long q2), .second, .val (.long q3), .second, .val (.long q4), .second, .val (.long q5), .second, .val (.int (3 : Int32)), .val (.int v186), .val (.int v187), .val (.int v188), .val (.ref b618), .val (.ref b640), .val (.long q4), .second, .val (.long q5), .second, .unset, .unset, .unset, .unset, .unset, .unset]) rfl ?_
      show Steps p.tables e below (T660.setTop (mkF m 156 #[.val (.int p0), .val (.long q1), .second, .val (.long q2), .second, .val (.long q3), .second, .val (.long q4), .second, .val (.long q5), .second, .val (.int (3 : Int32)), .val (.int v186), .val (.int v187), .val (.int v188), .val (.ref b618), .val (.ref b640), .val (.long q4), .second, .val (.long q5), .second, .unset, .unset, .unset, .unset, .unset, .unset] [])) _
      refine XS.lload X660.here hx rfl (hb hby at_156) rfl ?_
      show Steps p.tables e below (T660.setTop (mkF m 158 #[.val (.int p0), .val (.long q1), .second, .val (.long q2), .second, .val (.long q3), .second, .val (.long q4), .second, .val (.long q5), .second, .val (.int (3 : Int32)), .val (.int v186), .val (.int v187), .val (.int v188), .val (.ref b618), .val (.ref b640), .val (.long q4), .second, .val (.long q5), .second, .unset, .unset, .unset, .unset, .unset, .unset] [(.long q4)])) _
      refine X660.ldc2Long hx hown (mvT hZ (hw _ (List.mem_of_getElem? (i := 2) rfl))) (g := (mkF m 158 #[.val (.int p0), .val (.long q1), .second, .val (.long q2), .second, .val (.long q3), .second, .val (.long q4), .second, .val (.long q5), .second, .val (.int (3 : Int32)), .val (.int v186), .val (.int v187), .val (.int v188), .val (.ref b618), .val (.ref b640), .val (.long q4), .second, .val (.long q5), .second, .unset, .unset, .unset, .unset, .unset, .unset] [(.long q4)])) rfl (hb hby at_158) _ ?_
      show Steps p.tables e below (T660.setTop (mkF m 161 #[.val (.int p0), .val (.long q1), .second, .val (.long q2), .second, .val (.long q3), .second, .val (.long q4), .second, .val (.long q5), .second, .val (.int (3 : Int32)), .val (.int v186), .val (.int v187), .val (.int v188), .val (.ref b618), .val (.ref b640), .val (.long q4), .second, .val (.long q5), .second, .unset, .unset, .unset, .unset, .unset, .unset] [(.long (-1 : Int64)), (.long q4)])) _
      refine XS.lxor X660.here hx rfl (hb hby at_161) rfl ?_
      show Steps p.tables e below (T660.setTop (mkF m 162 #[.val (.int p0), .val (.long q1), .second, .val (.long q2), .second, .val (.long q3), .second, .val (.long q4), .second, .val (.long q5), .second, .val (.int (3 : Int32)), .val (.int v186), .val (.int v187), .val (.int v188), .val (.ref b618), .val (.ref b640), .val (.long q4), .second, .val (.long q5), .second, .unset, .unset, .unset, .unset, .unset, .unset] [(.long (q4 ^^^ (-1 : Int64)))])) _
      refine castTop (congrArg (fun z : Int64 => mkF m 162 #[.val (.int p0), .val (.long q1), .second, .val (.long q2), .second, .val (.long q3), .second, .val (.long q4), .second, .val (.long q5), .second, .val (.int (3 : Int32)), .val (.int v186), .val (.int v187), .val (.int v188), .val (.ref b618), .val (.ref b640), .val (.long q4), .second, .val (.long q5), .second, .unset, .unset, .unset, .unset, .unset, .unset] [(.long z)]) hv666.symm) ?_
      show Steps p.tables e below (T660.setTop (mkF m 162 #[.val (.int p0), .val (.long q1), .second, .val (.long q2), .second, .val (.long q3), .second, .val (.long q4), .second, .val (.long q5), .second, .val (.int (3 : Int32)), .val (.int v186), .val (.int v187), .val (.int v188), .val (.ref b618), .val (.ref b640), .val (.long q4), .second, .val (.long q5), .second, .unset, .unset, .unset, .unset, .unset, .unset] [(.long v666)])) _
      refine XS.lstore X660.here hx rfl (hb hby at_162) rfl (l' := #[.val (.int p0), .val (.long q1), .second, .val (.long q2), .second, .val (.long q3), .second, .val (.long q4), .second, .val (.long q5), .second, .val (.int (3 : Int32)), .val (.int v186), .val (.int v187), .val (.int v188), .val (.ref b618), .val (.ref b640), .val (.long q4), .second, .val (.long q5), .second, .val (.long v666), .second, .unset, .unset, .unset, .unset]) rfl ?_
      show Steps p.tables e below (T660.setTop (mkF m 164 #[.val (.int p0), .val (.long q1), .second, .val (.long q2), .second, .val (.long q3), .second, .val (.long q4), .second, .val (.long q5), .second, .val (.int (3 : Int32)), .val (.int v186), .val (.int v187), .val (.int v188), .val (.ref b618), .val (.ref b640), .val (.long q4), .second, .val (.long q5), .second, .val (.long v666), .second, .unset, .unset, .unset, .unset] [])) _
      refine XS.lload X660.here hx rfl (hb hby at_164) rfl ?_
      show Steps p.tables e below (T660.setTop (mkF m 166 #[.val (.int p0), .val (.long q1), .second, .val (.long q2), .second, .val (.long q3), .second, .val (.long q4), .second, .val (.long q5), .second, .val (.int (3 : Int32)), .val (.int v186), .val (.int v187), .val (.int v188), .val (.ref b618), .val (.ref b640), .val (.long q4), .second, .val (.long q5), .second, .val (.long v666), .second, .unset, .unset, .unset, .unset] [(.long q5)])) _
      refine X660.ldc2Long hx hown (mvT hZ (hw _ (List.mem_of_getElem? (i := 2) rfl))) (g := (mkF m 166 #[.val (.int p0), .val (.long q1), .second, .val (.long q2), .second, .val (.long q3), .second, .val (.long q4), .second, .val (.long q5), .second, .val (.int (3 : Int32)), .val (.int v186), .val (.int v187), .val (.int v188), .val (.ref b618), .val (.ref b640), .val (.long q4), .second, .val (.long q5), .second, .val (.long v666), .second, .unset, .unset, .unset, .unset] [(.long q5)])) rfl (hb hby at_166) _ ?_
      show Steps p.tables e below (T660.setTop (mkF m 169 #[.val (.int p0), .val (.long q1), .second, .val (.long q2), .second, .val (.long q3), .second, .val (.long q4), .second, .val (.long q5), .second, .val (.int (3 : Int32)), .val (.int v186), .val (.int v187), .val (.int v188), .val (.ref b618), .val (.ref b640), .val (.long q4), .second, .val (.long q5), .second, .val (.long v666), .second, .unset, .unset, .unset, .unset] [(.long (-1 : Int64)), (.long q5)])) _
      refine XS.lxor X660.here hx rfl (hb hby at_169) rfl ?_
      show Steps p.tables e below (T660.setTop (mkF m 170 #[.val (.int p0), .val (.long q1), .second, .val (.long q2), .second, .val (.long q3), .second, .val (.long q4), .second, .val (.long q5), .second, .val (.int (3 : Int32)), .val (.int v186), .val (.int v187), .val (.int v188), .val (.ref b618), .val (.ref b640), .val (.long q4), .second, .val (.long q5), .second, .val (.long v666), .second, .unset, .unset, .unset, .unset] [(.long (q5 ^^^ (-1 : Int64)))])) _
      refine castTop (congrArg (fun z : Int64 => mkF m 170 #[.val (.int p0), .val (.long q1), .second, .val (.long q2), .second, .val (.long q3), .second, .val (.long q4), .second, .val (.long q5), .second, .val (.int (3 : Int32)), .val (.int v186), .val (.int v187), .val (.int v188), .val (.ref b618), .val (.ref b640), .val (.long q4), .second, .val (.long q5), .second, .val (.long v666), .second, .unset, .unset, .unset, .unset] [(.long z)]) hv667.symm) ?_
      show Steps p.tables e below (T660.setTop (mkF m 170 #[.val (.int p0), .val (.long q1), .second, .val (.long q2), .second, .val (.long q3), .second, .val (.long q4), .second, .val (.long q5), .second, .val (.int (3 : Int32)), .val (.int v186), .val (.int v187), .val (.int v188), .val (.ref b618), .val (.ref b640), .val (.long q4), .second, .val (.long q5), .second, .val (.long v666), .second, .unset, .unset, .unset, .unset] [(.long v667)])) _
      refine XS.lstore X660.here hx rfl (hb hby at_170) rfl (l' := #[.val (.int p0), .val (.long q1), .second, .val (.long q2), .second, .val (.long q3), .second, .val (.long q4), .second, .val (.long q5), .second, .val (.int (3 : Int32)), .val (.int v186), .val (.int v187), .val (.int v188), .val (.ref b618), .val (.ref b640), .val (.long q4), .second, .val (.long q5), .second, .val (.long v666), .second, .val (.long v667), .second, .unset, .unset]) rfl ?_
      show Steps p.tables e below (T660.setTop (mkF m 172 #[.val (.int p0), .val (.long q1), .second, .val (.long q2), .second, .val (.long q3), .second, .val (.long q4), .second, .val (.long q5), .second, .val (.int (3 : Int32)), .val (.int v186), .val (.int v187), .val (.int v188), .val (.ref b618), .val (.ref b640), .val (.long q4), .second, .val (.long q5), .second, .val (.long v666), .second, .val (.long v667), .second, .unset, .unset] [])) _
      refine XS.iconst X660.here hx rfl (hb hby at_172) ?_
      show Steps p.tables e below (T660.setTop (mkF m 173 #[.val (.int p0), .val (.long q1), .second, .val (.long q2), .second, .val (.long q3), .second, .val (.long q4), .second, .val (.long q5), .second, .val (.int (3 : Int32)), .val (.int v186), .val (.int v187), .val (.int v188), .val (.ref b618), .val (.ref b640), .val (.long q4), .second, .val (.long q5), .second, .val (.long v666), .second, .val (.long v667), .second, .unset, .unset] [(.int (4 : Int32))])) _
      refine st668 _ ?_
      show Steps p.tables e below (T668.setTop (mkF m 175 #[.val (.int p0), .val (.long q1), .second, .val (.long q2), .second, .val (.long q3), .second, .val (.long q4), .second, .val (.long q5), .second, .val (.int (3 : Int32)), .val (.int v186), .val (.int v187), .val (.int v188), .val (.ref b618), .val (.ref b640), .val (.long q4), .second, .val (.long q5), .second, .val (.long v666), .second, .val (.long v667), .second, .unset, .unset] [(.ref b668)])) _
      refine XS.dup X668.here hx rfl (hb hby at_175) rfl rfl ?_
      show Steps p.tables e below (T668.setTop (mkF m 176 #[.val (.int p0), .val (.long q1), .second, .val (.long q2), .second, .val (.long q3), .second, .val (.long q4), .second, .val (.long q5), .second, .val (.int (3 : Int32)), .val (.int v186), .val (.int v187), .val (.int v188), .val (.ref b618), .val (.ref b640), .val (.long q4), .second, .val (.long q5), .second, .val (.long v666), .second, .val (.long v667), .second, .unset, .unset] [(.ref b668), (.ref b668)])) _
      refine XS.iconst X668.here hx rfl (hb hby at_176) ?_
      show Steps p.tables e below (T668.setTop (mkF m 177 #[.val (.int p0), .val (.long q1), .second, .val (.long q2), .second, .val (.long q3), .second, .val (.long q4), .second, .val (.long q5), .second, .val (.int (3 : Int32)), .val (.int v186), .val (.int v187), .val (.int v188), .val (.ref b618), .val (.ref b640), .val (.long q4), .second, .val (.long q5), .second, .val (.long v666), .second, .val (.long v667), .second, .unset, .unset] [(.int (0 : Int32)), (.ref b668), (.ref b668)])) _
      refine XS.lload X668.here hx rfl (hb hby at_177) rfl ?_
      show Steps p.tables e below (T668.setTop (mkF m 179 #[.val (.int p0), .val (.long q1), .second, .val (.long q2), .second, .val (.long q3), .second, .val (.long q4), .second, .val (.long q5), .second, .val (.int (3 : Int32)), .val (.int v186), .val (.int v187), .val (.int v188), .val (.ref b618), .val (.ref b640), .val (.long q4), .second, .val (.long q5), .second, .val (.long v666), .second, .val (.long v667), .second, .unset, .unset] [(.long q4), (.int (0 : Int32)), (.ref b668), (.ref b668)])) _
      refine st675 _ ?_
      show Steps p.tables e below (T675.setTop (mkF m 180 #[.val (.int p0), .val (.long q1), .second, .val (.long q2), .second, .val (.long q3), .second, .val (.long q4), .second, .val (.long q5), .second, .val (.int (3 : Int32)), .val (.int v186), .val (.int v187), .val (.int v188), .val (.ref b618), .val (.ref b640), .val (.long q4), .second, .val (.long q5), .second, .val (.long v666), .second, .val (.long v667), .second, .unset, .unset] [(.ref b668)])) _
      refine XS.dup X675.here hx rfl (hb hby at_180) rfl rfl ?_
      show Steps p.tables e below (T675.setTop (mkF m 181 #[.val (.int p0), .val (.long q1), .second, .val (.long q2), .second, .val (.long q3), .second, .val (.long q4), .second, .val (.long q5), .second, .val (.int (3 : Int32)), .val (.int v186), .val (.int v187), .val (.int v188), .val (.ref b618), .val (.ref b640), .val (.long q4), .second, .val (.long q5), .second, .val (.long v666), .second, .val (.long v667), .second, .unset, .unset] [(.ref b668), (.ref b668)])) _
      refine XS.iconst X675.here hx rfl (hb hby at_181) ?_
      show Steps p.tables e below (T675.setTop (mkF m 182 #[.val (.int p0), .val (.long q1), .second, .val (.long q2), .second, .val (.long q3), .second, .val (.long q4), .second, .val (.long q5), .second, .val (.int (3 : Int32)), .val (.int v186), .val (.int v187), .val (.int v188), .val (.ref b618), .val (.ref b640), .val (.long q4), .second, .val (.long q5), .second, .val (.long v666), .second, .val (.long v667), .second, .unset, .unset] [(.int (1 : Int32)), (.ref b668), (.ref b668)])) _
      refine XS.lload X675.here hx rfl (hb hby at_182) rfl ?_
      show Steps p.tables e below (T675.setTop (mkF m 184 #[.val (.int p0), .val (.long q1), .second, .val (.long q2), .second, .val (.long q3), .second, .val (.long q4), .second, .val (.long q5), .second, .val (.int (3 : Int32)), .val (.int v186), .val (.int v187), .val (.int v188), .val (.ref b618), .val (.ref b640), .val (.long q4), .second, .val (.long q5), .second, .val (.long v666), .second, .val (.long v667), .second, .unset, .unset] [(.long q5), (.int (1 : Int32)), (.ref b668), (.ref b668)])) _
      refine st683 _ ?_
      show Steps p.tables e below (T683.setTop (mkF m 185 #[.val (.int p0), .val (.long q1), .second, .val (.long q2), .second, .val (.long q3), .second, .val (.long q4), .second, .val (.long q5), .second, .val (.int (3 : Int32)), .val (.int v186), .val (.int v187), .val (.int v188), .val (.ref b618), .val (.ref b640), .val (.long q4), .second, .val (.long q5), .second, .val (.long v666), .second, .val (.long v667), .second, .unset, .unset] [(.ref b668)])) _
      refine XS.dup X683.here hx rfl (hb hby at_185) rfl rfl ?_
      show Steps p.tables e below (T683.setTop (mkF m 186 #[.val (.int p0), .val (.long q1), .second, .val (.long q2), .second, .val (.long q3), .second, .val (.long q4), .second, .val (.long q5), .second, .val (.int (3 : Int32)), .val (.int v186), .val (.int v187), .val (.int v188), .val (.ref b618), .val (.ref b640), .val (.long q4), .second, .val (.long q5), .second, .val (.long v666), .second, .val (.long v667), .second, .unset, .unset] [(.ref b668), (.ref b668)])) _
      refine XS.iconst X683.here hx rfl (hb hby at_186) ?_
      show Steps p.tables e below (T683.setTop (mkF m 187 #[.val (.int p0), .val (.long q1), .second, .val (.long q2), .second, .val (.long q3), .second, .val (.long q4), .second, .val (.long q5), .second, .val (.int (3 : Int32)), .val (.int v186), .val (.int v187), .val (.int v188), .val (.ref b618), .val (.ref b640), .val (.long q4), .second, .val (.long q5), .second, .val (.long v666), .second, .val (.long v667), .second, .unset, .unset] [(.int (2 : Int32)), (.ref b668), (.ref b668)])) _
      refine XS.lload X683.here hx rfl (hb hby at_187) rfl ?_
      show Steps p.tables e below (T683.setTop (mkF m 189 #[.val (.int p0), .val (.long q1), .second, .val (.long q2), .second, .val (.long q3), .second, .val (.long q4), .second, .val (.long q5), .second, .val (.int (3 : Int32)), .val (.int v186), .val (.int v187), .val (.int v188), .val (.ref b618), .val (.ref b640), .val (.long q4), .second, .val (.long q5), .second, .val (.long v666), .second, .val (.long v667), .second, .unset, .unset] [(.long v666), (.int (2 : Int32)), (.ref b668), (.ref b668)])) _
      refine st691 _ ?_
      show Steps p.tables e below (T691.setTop (mkF m 190 #[.val (.int p0), .val (.long q1), .second, .val (.long q2), .second, .val (.long q3), .second, .val (.long q4), .second, .val (.long q5), .second, .val (.int (3 : Int32)), .val (.int v186), .val (.int v187), .val (.int v188), .val (.ref b618), .val (.ref b640), .val (.long q4), .second, .val (.long q5), .second, .val (.long v666), .second, .val (.long v667), .second, .unset, .unset] [(.ref b668)])) _
      refine XS.dup X691.here hx rfl (hb hby at_190) rfl rfl ?_
      show Steps p.tables e below (T691.setTop (mkF m 191 #[.val (.int p0), .val (.long q1), .second, .val (.long q2), .second, .val (.long q3), .second, .val (.long q4), .second, .val (.long q5), .second, .val (.int (3 : Int32)), .val (.int v186), .val (.int v187), .val (.int v188), .val (.ref b618), .val (.ref b640), .val (.long q4), .second, .val (.long q5), .second, .val (.long v666), .second, .val (.long v667), .second, .unset, .unset] [(.ref b668), (.ref b668)])) _
      refine XS.iconst X691.here hx rfl (hb hby at_191) ?_
      show Steps p.tables e below (T691.setTop (mkF m 192 #[.val (.int p0), .val (.long q1), .second, .val (.long q2), .second, .val (.long q3), .second, .val (.long q4), .second, .val (.long q5), .second, .val (.int (3 : Int32)), .val (.int v186), .val (.int v187), .val (.int v188), .val (.ref b618), .val (.ref b640), .val (.long q4), .second, .val (.long q5), .second, .val (.long v666), .second, .val (.long v667), .second, .unset, .unset] [(.int (3 : Int32)), (.ref b668), (.ref b668)])) _
      refine XS.lload X691.here hx rfl (hb hby at_192) rfl ?_
      show Steps p.tables e below (T691.setTop (mkF m 194 #[.val (.int p0), .val (.long q1), .second, .val (.long q2), .second, .val (.long q3), .second, .val (.long q4), .second, .val (.long q5), .second, .val (.int (3 : Int32)), .val (.int v186), .val (.int v187), .val (.int v188), .val (.ref b618), .val (.ref b640), .val (.long q4), .second, .val (.long q5), .second, .val (.long v666), .second, .val (.long v667), .second, .unset, .unset] [(.long v667), (.int (3 : Int32)), (.ref b668), (.ref b668)])) _
      refine st699 _ ?_
      show Steps p.tables e below (T699.setTop (mkF m 195 #[.val (.int p0), .val (.long q1), .second, .val (.long q2), .second, .val (.long q3), .second, .val (.long q4), .second, .val (.long q5), .second, .val (.int (3 : Int32)), .val (.int v186), .val (.int v187), .val (.int v188), .val (.ref b618), .val (.ref b640), .val (.long q4), .second, .val (.long q5), .second, .val (.long v666), .second, .val (.long v667), .second, .unset, .unset] [(.ref b668)])) _
      refine XS.astore X699.here hx rfl (hb hby at_195) rfl rfl (l' := #[.val (.int p0), .val (.long q1), .second, .val (.long q2), .second, .val (.long q3), .second, .val (.long q4), .second, .val (.long q5), .second, .val (.int (3 : Int32)), .val (.int v186), .val (.int v187), .val (.int v188), .val (.ref b618), .val (.ref b640), .val (.long q4), .second, .val (.long q5), .second, .val (.long v666), .second, .val (.long v667), .second, .val (.ref b668), .unset]) rfl ?_
      show Steps p.tables e below (T699.setTop (mkF m 197 #[.val (.int p0), .val (.long q1), .second, .val (.long q2), .second, .val (.long q3), .second, .val (.long q4), .second, .val (.long q5), .second, .val (.int (3 : Int32)), .val (.int v186), .val (.int v187), .val (.int v188), .val (.ref b618), .val (.ref b640), .val (.long q4), .second, .val (.long q5), .second, .val (.long v666), .second, .val (.long v667), .second, .val (.ref b668), .unset] [])) _
      refine st706 _ ?_
      show Steps p.tables e below (T706.setTop (mkF m 200 #[.val (.int p0), .val (.long q1), .second, .val (.long q2), .second, .val (.long q3), .second, .val (.long q4), .second, .val (.long q5), .second, .val (.int (3 : Int32)), .val (.int v186), .val (.int v187), .val (.int v188), .val (.ref b618), .val (.ref b640), .val (.long q4), .second, .val (.long q5), .second, .val (.long v666), .second, .val (.long v667), .second, .val (.ref b668), .unset] [(.ref b706)])) _
      refine XS.dup X706.here hx rfl (hb hby at_200) rfl rfl ?_
      show Steps p.tables e below (T706.setTop (mkF m 201 #[.val (.int p0), .val (.long q1), .second, .val (.long q2), .second, .val (.long q3), .second, .val (.long q4), .second, .val (.long q5), .second, .val (.int (3 : Int32)), .val (.int v186), .val (.int v187), .val (.int v188), .val (.ref b618), .val (.ref b640), .val (.long q4), .second, .val (.long q5), .second, .val (.long v666), .second, .val (.long v667), .second, .val (.ref b668), .unset] [(.ref b706), (.ref b706)])) _
      refine XS.aload X706.here hx rfl (hb hby at_201) rfl rfl ?_
      show Steps p.tables e below (T706.setTop (mkF m 203 #[.val (.int p0), .val (.long q1), .second, .val (.long q2), .second, .val (.long q3), .second, .val (.long q4), .second, .val (.long q5), .second, .val (.int (3 : Int32)), .val (.int v186), .val (.int v187), .val (.int v188), .val (.ref b618), .val (.ref b640), .val (.long q4), .second, .val (.long q5), .second, .val (.long v666), .second, .val (.long v667), .second, .val (.ref b668), .unset] [(.ref b618), (.ref b706), (.ref b706)])) _
      refine XS.aload X706.here hx rfl (hb hby at_203) rfl rfl ?_
      show Steps p.tables e below (T706.setTop (mkF m 205 #[.val (.int p0), .val (.long q1), .second, .val (.long q2), .second, .val (.long q3), .second, .val (.long q4), .second, .val (.long q5), .second, .val (.int (3 : Int32)), .val (.int v186), .val (.int v187), .val (.int v188), .val (.ref b618), .val (.ref b640), .val (.long q4), .second, .val (.long q5), .second, .val (.long v666), .second, .val (.long v667), .second, .val (.ref b668), .unset] [(.ref b640), (.ref b618), (.ref b706), (.ref b706)])) _
      refine XS.iconst X706.here hx rfl (hb hby at_205) ?_
      show Steps p.tables e below (T706.setTop (mkF m 206 #[.val (.int p0), .val (.long q1), .second, .val (.long q2), .second, .val (.long q3), .second, .val (.long q4), .second, .val (.long q5), .second, .val (.int (3 : Int32)), .val (.int v186), .val (.int v187), .val (.int v188), .val (.ref b618), .val (.ref b640), .val (.long q4), .second, .val (.long q5), .second, .val (.long v666), .second, .val (.long v667), .second, .val (.ref b668), .unset] [(.int (1 : Int32)), (.ref b640), (.ref b618), (.ref b706), (.ref b706)])) _
      refine st715 _ ?_
      show Steps p.tables e below (T715.setTop (mkF m 208 #[.val (.int p0), .val (.long q1), .second, .val (.long q2), .second, .val (.long q3), .second, .val (.long q4), .second, .val (.long q5), .second, .val (.int (3 : Int32)), .val (.int v186), .val (.int v187), .val (.int v188), .val (.ref b618), .val (.ref b640), .val (.long q4), .second, .val (.long q5), .second, .val (.long v666), .second, .val (.long v667), .second, .val (.ref b668), .unset] [(.ref b715), (.ref b640), (.ref b618), (.ref b706), (.ref b706)])) _
      refine XS.dup X715.here hx rfl (hb hby at_208) rfl rfl ?_
      show Steps p.tables e below (T715.setTop (mkF m 209 #[.val (.int p0), .val (.long q1), .second, .val (.long q2), .second, .val (.long q3), .second, .val (.long q4), .second, .val (.long q5), .second, .val (.int (3 : Int32)), .val (.int v186), .val (.int v187), .val (.int v188), .val (.ref b618), .val (.ref b640), .val (.long q4), .second, .val (.long q5), .second, .val (.long v666), .second, .val (.long v667), .second, .val (.ref b668), .unset] [(.ref b715), (.ref b715), (.ref b640), (.ref b618), (.ref b706), (.ref b706)])) _
      refine XS.iconst X715.here hx rfl (hb hby at_209) ?_
      show Steps p.tables e below (T715.setTop (mkF m 210 #[.val (.int p0), .val (.long q1), .second, .val (.long q2), .second, .val (.long q3), .second, .val (.long q4), .second, .val (.long q5), .second, .val (.int (3 : Int32)), .val (.int v186), .val (.int v187), .val (.int v188), .val (.ref b618), .val (.ref b640), .val (.long q4), .second, .val (.long q5), .second, .val (.long v666), .second, .val (.long v667), .second, .val (.ref b668), .unset] [(.int (0 : Int32)), (.ref b715), (.ref b715), (.ref b640), (.ref b618), (.ref b706), (.ref b706)])) _
      refine XS.iload X715.here hx rfl (hb hby at_210) rfl ?_
      show Steps p.tables e below (T715.setTop (mkF m 212 #[.val (.int p0), .val (.long q1), .second, .val (.long q2), .second, .val (.long q3), .second, .val (.long q4), .second, .val (.long q5), .second, .val (.int (3 : Int32)), .val (.int v186), .val (.int v187), .val (.int v188), .val (.ref b618), .val (.ref b640), .val (.long q4), .second, .val (.long q5), .second, .val (.long v666), .second, .val (.long v667), .second, .val (.ref b668), .unset] [(.int v188), (.int (0 : Int32)), (.ref b715), (.ref b715), (.ref b640), (.ref b618), (.ref b706), (.ref b706)])) _
      refine st727 _ ?_
      show Steps p.tables e below (T727.setTop (mkF m 213 #[.val (.int p0), .val (.long q1), .second, .val (.long q2), .second, .val (.long q3), .second, .val (.long q4), .second, .val (.long q5), .second, .val (.int (3 : Int32)), .val (.int v186), .val (.int v187), .val (.int v188), .val (.ref b618), .val (.ref b640), .val (.long q4), .second, .val (.long q5), .second, .val (.long v666), .second, .val (.long v667), .second, .val (.ref b668), .unset] [(.ref b715), (.ref b640), (.ref b618), (.ref b706), (.ref b706)])) _
      refine st739.trans ?_
      show Steps p.tables e below (T739.setTop (mkF m 216 #[.val (.int p0), .val (.long q1), .second, .val (.long q2), .second, .val (.long q3), .second, .val (.long q4), .second, .val (.long q5), .second, .val (.int (3 : Int32)), .val (.int v186), .val (.int v187), .val (.int v188), .val (.ref b618), .val (.ref b640), .val (.long q4), .second, .val (.long q5), .second, .val (.long v666), .second, .val (.long v667), .second, .val (.ref b668), .unset] [(.ref b706)])) _
      refine XS.astore X739.here hx rfl (hb hby at_216) rfl rfl (l' := #[.val (.int p0), .val (.long q1), .second, .val (.long q2), .second, .val (.long q3), .second, .val (.long q4), .second, .val (.long q5), .second, .val (.int (3 : Int32)), .val (.int v186), .val (.int v187), .val (.int v188), .val (.ref b618), .val (.ref b640), .val (.long q4), .second, .val (.long q5), .second, .val (.long v666), .second, .val (.long v667), .second, .val (.ref b668), .val (.ref b706)]) rfl ?_
      show Steps p.tables e below (T739.setTop (mkF m 218 #[.val (.int p0), .val (.long q1), .second, .val (.long q2), .second, .val (.long q3), .second, .val (.long q4), .second, .val (.long q5), .second, .val (.int (3 : Int32)), .val (.int v186), .val (.int v187), .val (.int v188), .val (.ref b618), .val (.ref b640), .val (.long q4), .second, .val (.long q5), .second, .val (.long v666), .second, .val (.long v667), .second, .val (.ref b668), .val (.ref b706)] [])) _
      refine XS.aload X739.here hx rfl (hb hby at_218) rfl rfl ?_
      show Steps p.tables e below (T739.setTop (mkF m 220 #[.val (.int p0), .val (.long q1), .second, .val (.long q2), .second, .val (.long q3), .second, .val (.long q4), .second, .val (.long q5), .second, .val (.int (3 : Int32)), .val (.int v186), .val (.int v187), .val (.int v188), .val (.ref b618), .val (.ref b640), .val (.long q4), .second, .val (.long q5), .second, .val (.long v666), .second, .val (.long v667), .second, .val (.ref b668), .val (.ref b706)] [(.ref b706)])) _
      refine XS.aload X739.here hx rfl (hb hby at_220) rfl rfl ?_
      show Steps p.tables e below (T739.setTop (mkF m 222 #[.val (.int p0), .val (.long q1), .second, .val (.long q2), .second, .val (.long q3), .second, .val (.long q4), .second, .val (.long q5), .second, .val (.int (3 : Int32)), .val (.int v186), .val (.int v187), .val (.int v188), .val (.ref b618), .val (.ref b640), .val (.long q4), .second, .val (.long q5), .second, .val (.long v666), .second, .val (.long v667), .second, .val (.ref b668), .val (.ref b706)] [(.ref b668), (.ref b706)])) _
      refine st751.trans ?_
      show Steps p.tables e below (T751.setTop (mkF m 225 #[.val (.int p0), .val (.long q1), .second, .val (.long q2), .second, .val (.long q3), .second, .val (.long q4), .second, .val (.long q5), .second, .val (.int (3 : Int32)), .val (.int v186), .val (.int v187), .val (.int v188), .val (.ref b618), .val (.ref b640), .val (.long q4), .second, .val (.long q5), .second, .val (.long v666), .second, .val (.long v667), .second, .val (.ref b668), .val (.ref b706)] [])) _
      refine XS.aload X751.here hx rfl (hb hby at_225) rfl rfl ?_
      show Steps p.tables e below (T751.setTop (mkF m 227 #[.val (.int p0), .val (.long q1), .second, .val (.long q2), .second, .val (.long q3), .second, .val (.long q4), .second, .val (.long q5), .second, .val (.int (3 : Int32)), .val (.int v186), .val (.int v187), .val (.int v188), .val (.ref b618), .val (.ref b640), .val (.long q4), .second, .val (.long q5), .second, .val (.long v666), .second, .val (.long v667), .second, .val (.ref b668), .val (.ref b706)] [(.ref b668)])) _
      refine X751.arraylength hx Ar766.1 (State.isArrayOf_alike hZ.alike Ar766.2.1) (g := (mkF m 227 #[.val (.int p0), .val (.long q1), .second, .val (.long q2), .second, .val (.long q3), .second, .val (.long q4), .second, .val (.long q5), .second, .val (.int (3 : Int32)), .val (.int v186), .val (.int v187), .val (.int v188), .val (.ref b618), .val (.ref b640), .val (.long q4), .second, .val (.long q5), .second, .val (.long v666), .second, .val (.long v667), .second, .val (.ref b668), .val (.ref b706)] [(.ref b668)])) rfl rfl (hb hby at_227) _ ?_
      rw [len_of S766 M766]
      show Steps p.tables e below (T751.setTop (mkF m 228 #[.val (.int p0), .val (.long q1), .second, .val (.long q2), .second, .val (.long q3), .second, .val (.long q4), .second, .val (.long q5), .second, .val (.int (3 : Int32)), .val (.int v186), .val (.int v187), .val (.int v188), .val (.ref b618), .val (.ref b640), .val (.long q4), .second, .val (.long q5), .second, .val (.long v666), .second, .val (.long v667), .second, .val (.ref b668), .val (.ref b706)] [(.int (4 : Int32))])) _
      refine XS.iconst X751.here hx rfl (hb hby at_228) ?_
      show Steps p.tables e below (T751.setTop (mkF m 229 #[.val (.int p0), .val (.long q1), .second, .val (.long q2), .second, .val (.long q3), .second, .val (.long q4), .second, .val (.long q5), .second, .val (.int (3 : Int32)), .val (.int v186), .val (.int v187), .val (.int v188), .val (.ref b618), .val (.ref b640), .val (.long q4), .second, .val (.long q5), .second, .val (.long v666), .second, .val (.long v667), .second, .val (.ref b668), .val (.ref b706)] [(.int (4 : Int32)), (.int (4 : Int32))])) _
      refine XS.icmpNo X751.here hx rfl (hb hby at_229) rfl (teq (by decide : (4 : Int32) = (4 : Int32))).2 ?_
      show Steps p.tables e below (T751.setTop (mkF m 232 #[.val (.int p0), .val (.long q1), .second, .val (.long q2), .second, .val (.long q3), .second, .val (.long q4), .second, .val (.long q5), .second, .val (.int (3 : Int32)), .val (.int v186), .val (.int v187), .val (.int v188), .val (.ref b618), .val (.ref b640), .val (.long q4), .second, .val (.long q5), .second, .val (.long v666), .second, .val (.long v667), .second, .val (.ref b668), .val (.ref b706)] [])) _
      refine XS.aload X751.here hx rfl (hb hby at_232) rfl rfl ?_
      show Steps p.tables e below (T751.setTop (mkF m 234 #[.val (.int p0), .val (.long q1), .second, .val (.long q2), .second, .val (.long q3), .second, .val (.long q4), .second, .val (.long q5), .second, .val (.int (3 : Int32)), .val (.int v186), .val (.int v187), .val (.int v188), .val (.ref b618), .val (.ref b640), .val (.long q4), .second, .val (.long q5), .second, .val (.long v666), .second, .val (.long v667), .second, .val (.ref b668), .val (.ref b706)] [(.ref b668)])) _
      refine XS.iconst X751.here hx rfl (hb hby at_234) ?_
      show Steps p.tables e below (T751.setTop (mkF m 235 #[.val (.int p0), .val (.long q1), .second, .val (.long q2), .second, .val (.long q3), .second, .val (.long q4), .second, .val (.long q5), .second, .val (.int (3 : Int32)), .val (.int v186), .val (.int v187), .val (.int v188), .val (.ref b618), .val (.ref b640), .val (.long q4), .second, .val (.long q5), .second, .val (.long v666), .second, .val (.long v667), .second, .val (.ref b668), .val (.ref b706)] [(.int (0 : Int32)), (.ref b668)])) _
      refine X751.laload hx (j := (0 : Int32)) (v := (.long ((own_upd (own_upd (own_upd (own_g4 q4 q5 v666 v667) v186 q1) v187 q2) v188 q3) 0))) Ar767.1 (State.isArrayOf_alike hZ.alike Ar767.2.1) Ar767.2.2 hin767 hat767 (g := (mkF m 235 #[.val (.int p0), .val (.long q1), .second, .val (.long q2), .second, .val (.long q3), .second, .val (.long q4), .second, .val (.long q5), .second, .val (.int (3 : Int32)), .val (.int v186), .val (.int v187), .val (.int v188), .val (.ref b618), .val (.ref b640), .val (.long q4), .second, .val (.long q5), .second, .val (.long v666), .second, .val (.long v667), .second, .val (.ref b668), .val (.ref b706)] [(.int (0 : Int32)), (.ref b668)])) rfl rfl (hb hby at_235) _ ?_
      show Steps p.tables e below (T751.setTop (mkF m 236 #[.val (.int p0), .val (.long q1), .second, .val (.long q2), .second, .val (.long q3), .second, .val (.long q4), .second, .val (.long q5), .second, .val (.int (3 : Int32)), .val (.int v186), .val (.int v187), .val (.int v188), .val (.ref b618), .val (.ref b640), .val (.long q4), .second, .val (.long q5), .second, .val (.long v666), .second, .val (.long v667), .second, .val (.ref b668), .val (.ref b706)] [(.long ((own_upd (own_upd (own_upd (own_g4 q4 q5 v666 v667) v186 q1) v187 q2) v188 q3) 0))])) _
      refine XS.iconst X751.here hx rfl (hb hby at_236) ?_
      show Steps p.tables e below (T751.setTop (mkF m 237 #[.val (.int p0), .val (.long q1), .second, .val (.long q2), .second, .val (.long q3), .second, .val (.long q4), .second, .val (.long q5), .second, .val (.int (3 : Int32)), .val (.int v186), .val (.int v187), .val (.int v188), .val (.ref b618), .val (.ref b640), .val (.long q4), .second, .val (.long q5), .second, .val (.long v666), .second, .val (.long v667), .second, .val (.ref b668), .val (.ref b706)] [(.int (0 : Int32)), (.long ((own_upd (own_upd (own_upd (own_g4 q4 q5 v666 v667) v186 q1) v187 q2) v188 q3) 0))])) _
      refine XS.iload X751.here hx rfl (hb hby at_237) rfl ?_
      show Steps p.tables e below (T751.setTop (mkF m 239 #[.val (.int p0), .val (.long q1), .second, .val (.long q2), .second, .val (.long q3), .second, .val (.long q4), .second, .val (.long q5), .second, .val (.int (3 : Int32)), .val (.int v186), .val (.int v187), .val (.int v188), .val (.ref b618), .val (.ref b640), .val (.long q4), .second, .val (.long q5), .second, .val (.long v666), .second, .val (.long v667), .second, .val (.ref b668), .val (.ref b706)] [(.int (3 : Int32)), (.int (0 : Int32)), (.long ((own_upd (own_upd (own_upd (own_g4 q4 q5 v666 v667) v186 q1) v187 q2) v188 q3) 0))])) _
      refine XS.iload X751.here hx rfl (hb hby at_239) rfl ?_
      show Steps p.tables e below (T751.setTop (mkF m 241 #[.val (.int p0), .val (.long q1), .second, .val (.long q2), .second, .val (.long q3), .second, .val (.long q4), .second, .val (.long q5), .second, .val (.int (3 : Int32)), .val (.int v186), .val (.int v187), .val (.int v188), .val (.ref b618), .val (.ref b640), .val (.long q4), .second, .val (.long q5), .second, .val (.long v666), .second, .val (.long v667), .second, .val (.ref b668), .val (.ref b706)] [(.int v186), (.int (3 : Int32)), (.int (0 : Int32)), (.long ((own_upd (own_upd (own_upd (own_g4 q4 q5 v666 v667) v186 q1) v187 q2) v188 q3) 0))])) _
      refine XS.iload X751.here hx rfl (hb hby at_241) rfl ?_
      show Steps p.tables e below (T751.setTop (mkF m 243 #[.val (.int p0), .val (.long q1), .second, .val (.long q2), .second, .val (.long q3), .second, .val (.long q4), .second, .val (.long q5), .second, .val (.int (3 : Int32)), .val (.int v186), .val (.int v187), .val (.int v188), .val (.ref b618), .val (.ref b640), .val (.long q4), .second, .val (.long q5), .second, .val (.long v666), .second, .val (.long v667), .second, .val (.ref b668), .val (.ref b706)] [(.int v187), (.int v186), (.int (3 : Int32)), (.int (0 : Int32)), (.long ((own_upd (own_upd (own_upd (own_g4 q4 q5 v666 v667) v186 q1) v187 q2) v188 q3) 0))])) _
      refine XS.iload X751.here hx rfl (hb hby at_243) rfl ?_
      show Steps p.tables e below (T751.setTop (mkF m 245 #[.val (.int p0), .val (.long q1), .second, .val (.long q2), .second, .val (.long q3), .second, .val (.long q4), .second, .val (.long q5), .second, .val (.int (3 : Int32)), .val (.int v186), .val (.int v187), .val (.int v188), .val (.ref b618), .val (.ref b640), .val (.long q4), .second, .val (.long q5), .second, .val (.long v666), .second, .val (.long v667), .second, .val (.ref b668), .val (.ref b706)] [(.int v188), (.int v187), (.int v186), (.int (3 : Int32)), (.int (0 : Int32)), (.long ((own_upd (own_upd (own_upd (own_g4 q4 q5 v666 v667) v186 q1) v187 q2) v188 q3) 0))])) _
      refine XS.lloadN X751.here hx rfl (hb hby at_245) rfl ?_
      show Steps p.tables e below (T751.setTop (mkF m 246 #[.val (.int p0), .val (.long q1), .second, .val (.long q2), .second, .val (.long q3), .second, .val (.long q4), .second, .val (.long q5), .second, .val (.int (3 : Int32)), .val (.int v186), .val (.int v187), .val (.int v188), .val (.ref b618), .val (.ref b640), .val (.long q4), .second, .val (.long q5), .second, .val (.long v666), .second, .val (.long v667), .second, .val (.ref b668), .val (.ref b706)] [(.long q1), (.int v188), (.int v187), (.int v186), (.int (3 : Int32)), (.int (0 : Int32)), (.long ((own_upd (own_upd (own_upd (own_g4 q4 q5 v666 v667) v186 q1) v187 q2) v188 q3) 0))])) _
      refine XS.lloadN X751.here hx rfl (hb hby at_246) rfl ?_
      show Steps p.tables e below (T751.setTop (mkF m 247 #[.val (.int p0), .val (.long q1), .second, .val (.long q2), .second, .val (.long q3), .second, .val (.long q4), .second, .val (.long q5), .second, .val (.int (3 : Int32)), .val (.int v186), .val (.int v187), .val (.int v188), .val (.ref b618), .val (.ref b640), .val (.long q4), .second, .val (.long q5), .second, .val (.long v666), .second, .val (.long v667), .second, .val (.ref b668), .val (.ref b706)] [(.long q2), (.long q1), (.int v188), (.int v187), (.int v186), (.int (3 : Int32)), (.int (0 : Int32)), (.long ((own_upd (own_upd (own_upd (own_g4 q4 q5 v666 v667) v186 q1) v187 q2) v188 q3) 0))])) _
      refine XS.lload X751.here hx rfl (hb hby at_247) rfl ?_
      show Steps p.tables e below (T751.setTop (mkF m 249 #[.val (.int p0), .val (.long q1), .second, .val (.long q2), .second, .val (.long q3), .second, .val (.long q4), .second, .val (.long q5), .second, .val (.int (3 : Int32)), .val (.int v186), .val (.int v187), .val (.int v188), .val (.ref b618), .val (.ref b640), .val (.long q4), .second, .val (.long q5), .second, .val (.long v666), .second, .val (.long v667), .second, .val (.ref b668), .val (.ref b706)] [(.long q3), (.long q2), (.long q1), (.int v188), (.int v187), (.int v186), (.int (3 : Int32)), (.int (0 : Int32)), (.long ((own_upd (own_upd (own_upd (own_g4 q4 q5 v666 v667) v186 q1) v187 q2) v188 q3) 0))])) _
      refine XS.lload X751.here hx rfl (hb hby at_249) rfl ?_
      show Steps p.tables e below (T751.setTop (mkF m 251 #[.val (.int p0), .val (.long q1), .second, .val (.long q2), .second, .val (.long q3), .second, .val (.long q4), .second, .val (.long q5), .second, .val (.int (3 : Int32)), .val (.int v186), .val (.int v187), .val (.int v188), .val (.ref b618), .val (.ref b640), .val (.long q4), .second, .val (.long q5), .second, .val (.long v666), .second, .val (.long v667), .second, .val (.ref b668), .val (.ref b706)] [(.long q4), (.long q3), (.long q2), (.long q1), (.int v188), (.int v187), (.int v186), (.int (3 : Int32)), (.int (0 : Int32)), (.long ((own_upd (own_upd (own_upd (own_g4 q4 q5 v666 v667) v186 q1) v187 q2) v188 q3) 0))])) _
      refine st768 _ ?_
      show Steps p.tables e below (T768.setTop (mkF m 254 #[.val (.int p0), .val (.long q1), .second, .val (.long q2), .second, .val (.long q3), .second, .val (.long q4), .second, .val (.long q5), .second, .val (.int (3 : Int32)), .val (.int v186), .val (.int v187), .val (.int v188), .val (.ref b618), .val (.ref b640), .val (.long q4), .second, .val (.long q5), .second, .val (.long v666), .second, .val (.long v667), .second, .val (.ref b668), .val (.ref b706)] [(.long (own_f5 (0 : Int32) (3 : Int32) v186 v187 v188 q1 q2 q3 q4)), (.long ((own_upd (own_upd (own_upd (own_g4 q4 q5 v666 v667) v186 q1) v187 q2) v188 q3) 0))])) _
      refine XS.lcmp X768.here hx rfl (hb hby at_254) rfl ?_
      show Steps p.tables e below (T768.setTop (mkF m 255 #[.val (.int p0), .val (.long q1), .second, .val (.long q2), .second, .val (.long q3), .second, .val (.long q4), .second, .val (.long q5), .second, .val (.int (3 : Int32)), .val (.int v186), .val (.int v187), .val (.int v188), .val (.ref b618), .val (.ref b640), .val (.long q4), .second, .val (.long q5), .second, .val (.long v666), .second, .val (.long v667), .second, .val (.ref b668), .val (.ref b706)] [(.int (lcmpW ((own_upd (own_upd (own_upd (own_g4 q4 q5 v666 v667) v186 q1) v187 q2) v188 q3) 0) (own_f5 (0 : Int32) (3 : Int32) v186 v187 v188 q1 q2 q3 q4)))])) _
      exact kk)
    by_cases hc772 : ((own_upd (own_upd (own_upd (own_g4 q4 q5 v666 v667) v186 q1) v187 q2) v188 q3) 0) = (own_f5 (0 : Int32) (3 : Int32) v186 v187 v188 q1 q2 q3 q4)
    · obtain ⟨cl773, Ar773, q773, S773, M773, H773, G773⟩ := id f756
      have hin773 : ¬ ((1 : Int32) < 0 ∨ cl773.slots.size ≤ ((1 : Int32)).toNatClampNeg) := inb_of S773 ⟨by decide, by decide⟩
      have hat773 : cl773.slots[((1 : Int32)).toNatClampNeg]? = some (.long ((own_upd (own_upd (own_upd (own_g4 q4 q5 v666 v667) v186 q1) v187 q2) v188 q3) 1)) := H773.at hin773 rfl
      obtain ⟨_, _, ⟨T774, L774, k774, n774⟩, -, X774, ⟨Lc774, hQ774, l774, y774, z774⟩, st774⟩ := Jvm.LawKit.callS X768 hx (y := (⟨"com/example/thyme/thyme/engine/RestartWritePinLaw", "expect", "(IIIIIJJJJ)J"⟩ : MethodName)) hown (mvT hZ (hw _ (List.mem_of_getElem? (i := 28) rfl))) (mvT hZ (hw _ (List.mem_of_getElem? (i := 29) rfl))) (mvT hZ (hw _ (List.mem_of_getElem? (i := 30) rfl))) (mvT hZ (hw _ (List.mem_of_getElem? (i := 31) rfl))) (by decide) (backOf (W := 2) (own_rm5 l Z av hw [] (1 : Int32) (3 : Int32) v186 v187 v188 q1 q2 q3 q5 T751.heap n0 z765 ) hZ (hw _ (List.mem_of_getElem? (i := 31) rfl)) (hw _ (List.mem_of_getElem? (i := 30) rfl)) (by decide) (by decide)) (g := (mkF m 277 #[.val (.int p0), .val (.long q1), .second, .val (.long q2), .second, .val (.long q3), .second, .val (.long q4), .second, .val (.long q5), .second, .val (.int (3 : Int32)), .val (.int v186), .val (.int v187), .val (.int v188), .val (.ref b618), .val (.ref b640), .val (.long q4), .second, .val (.long q5), .second, .val (.long v666), .second, .val (.long v667), .second, .val (.ref b668), .val (.ref b706)] [(.long q5), (.long q3), (.long q2), (.long q1), (.int v188), (.int v187), (.int v186), (.int (3 : Int32)), (.int (1 : Int32)), (.long ((own_upd (own_upd (own_upd (own_g4 q4 q5 v666 v667) v186 q1) v187 q2) v188 q3) 1))])) rfl (by rw [hml]; rfl) (argsL := [(.int (1 : Int32)), (.int (3 : Int32)), (.int v186), (.int v187), (.int v188), (.long q1), (.long q2), (.long q3), (.long q5)]) (rest := [(.long ((own_upd (own_upd (own_upd (own_g4 q4 q5 v666 v667) v186 q1) v187 q2) v188 q3) 1))]) (lenOf own_pd3 rfl) rfl (by show 2 * 0 + _ ≤ _; exact Nat.le_of_eq rfl) (hb hby at_277) (fun _ _ => ⟨rfl, e770, (by decide : 5 + 0 ≤ _), (by decide : 14 + 0 ≤ _)⟩)
      dsimp only [Pt.U, Pt.locs, Pt.cells, Pt.slots] at X774 l774 y774 z774 st774 hQ774
      subst l774 y774 z774
      obtain ⟨rfl, N774q, e776⟩ := hQ774
      have N775 := Fr.app N769 N774q
      have pre777 : ∀ t, Steps p.tables e below (T774.setTop (mkF m 281 #[.val (.int p0), .val (.long q1), .second, .val (.long q2), .second, .val (.long q3), .second, .val (.long q4), .second, .val (.long q5), .second, .val (.int (3 : Int32)), .val (.int v186), .val (.int v187), .val (.int v188), .val (.ref b618), .val (.ref b640), .val (.long q4), .second, .val (.long q5), .second, .val (.long v666), .second, .val (.long v667), .second, .val (.ref b668), .val (.ref b706)] [(.int (lcmpW ((own_upd (own_upd (own_upd (own_g4 q4 q5 v666 v667) v186 q1) v187 q2) v188 q3) 1) (own_f5 (1 : Int32) (3 : Int32) v186 v187 v188 q1 q2 q3 q5)))])) t → Steps p.tables e below (s₁.setTop (entryFrame m #[(.int p0), (.long q1), (.long q2), (.long q3), (.long q4), (.long q5)] maxLocals)) t := fun t kk => pre771 t (by
        show Steps p.tables e below (T768.setTop (mkF m 255 #[.val (.int p0), .val (.long q1), .second, .val (.long q2), .second, .val (.long q3), .second, .val (.long q4), .second, .val (.long q5), .second, .val (.int (3 : Int32)), .val (.int v186), .val (.int v187), .val (.int v188), .val (.ref b618), .val (.ref b640), .val (.long q4), .second, .val (.long q5), .second, .val (.long v666), .second, .val (.long v667), .second, .val (.ref b668), .val (.ref b706)] [(.int (lcmpW ((own_upd (own_upd (own_upd (own_g4 q4 q5 v666 v667) v186 q1) v187 q2) v188 q3) 0) (own_f5 (0 : Int32) (3 : Int32) v186 v187 v188 q1 q2 q3 q4)))])) _
        refine XS.ifNo X768.here hx rfl (hb hby at_255) rfl ((if0 _ _).trans (teq ((lw_eq ((own_upd (own_upd (own_upd (own_g4 q4 q5 v666 v667) v186 q1) v187 q2) v188 q3) 0) (own_f5 (0 : Int32) (3 : Int32) v186 v187 v188 q1 q2 q3 q4)).mpr hc772)).2) ?_
        show Steps p.tables e below (T768.setTop (mkF m 258 #[.val (.int p0), .val (.long q1), .second, .val (.long q2), .second, .val (.long q3), .second, .val (.long q4), .second, .val (.long q5), .second, .val (.int (3 : Int32)), .val (.int v186), .val (.int v187), .val (.int v188), .val (.ref b618), .val (.ref b640), .val (.long q4), .second, .val (.long q5), .second, .val (.long v666), .second, .val (.long v667), .second, .val (.ref b668), .val (.ref b706)] [])) _
        refine XS.aload X768.here hx rfl (hb hby at_258) rfl rfl ?_
        show Steps p.tables e below (T768.setTop (mkF m 260 #[.val (.int p0), .val (.long q1), .second, .val (.long q2), .second, .val (.long q3), .second, .val (.long q4), .second, .val (.long q5), .second, .val (.int (3 : Int32)), .val (.int v186), .val (.int v187), .val (.int v188), .val (.ref b618), .val (.ref b640), .val (.long q4), .second, .val (.long q5), .second, .val (.long v666), .second, .val (.long v667), .second, .val (.ref b668), .val (.ref b706)] [(.ref b668)])) _
        refine XS.iconst X768.here hx rfl (hb hby at_260) ?_
        show Steps p.tables e below (T768.setTop (mkF m 261 #[.val (.int p0), .val (.long q1), .second, .val (.long q2), .second, .val (.long q3), .second, .val (.long q4), .second, .val (.long q5), .second, .val (.int (3 : Int32)), .val (.int v186), .val (.int v187), .val (.int v188), .val (.ref b618), .val (.ref b640), .val (.long q4), .second, .val (.long q5), .second, .val (.long v666), .second, .val (.long v667), .second, .val (.ref b668), .val (.ref b706)] [(.int (1 : Int32)), (.ref b668)])) _
        refine X768.laload hx (j := (1 : Int32)) (v := (.long ((own_upd (own_upd (own_upd (own_g4 q4 q5 v666 v667) v186 q1) v187 q2) v188 q3) 1))) (by rw [e770]; exact Ar773.1) (State.isArrayOf_alike hZ.alike Ar773.2.1) Ar773.2.2 hin773 hat773 (g := (mkF m 261 #[.val (.int p0), .val (.long q1), .second, .val (.long q2), .second, .val (.long q3), .second, .val (.long q4), .second, .val (.long q5), .second, .val (.int (3 : Int32)), .val (.int v186), .val (.int v187), .val (.int v188), .val (.ref b618), .val (.ref b640), .val (.long q4), .second, .val (.long q5), .second, .val (.long v666), .second, .val (.long v667), .second, .val (.ref b668), .val (.ref b706)] [(.int (1 : Int32)), (.ref b668)])) rfl rfl (hb hby at_261) _ ?_
        show Steps p.tables e below (T768.setTop (mkF m 262 #[.val (.int p0), .val (.long q1), .second, .val (.long q2), .second, .val (.long q3), .second, .val (.long q4), .second, .val (.long q5), .second, .val (.int (3 : Int32)), .val (.int v186), .val (.int v187), .val (.int v188), .val (.ref b618), .val (.ref b640), .val (.long q4), .second, .val (.long q5), .second, .val (.long v666), .second, .val (.long v667), .second, .val (.ref b668), .val (.ref b706)] [(.long ((own_upd (own_upd (own_upd (own_g4 q4 q5 v666 v667) v186 q1) v187 q2) v188 q3) 1))])) _
        refine XS.iconst X768.here hx rfl (hb hby at_262) ?_
        show Steps p.tables e below (T768.setTop (mkF m 263 #[.val (.int p0), .val (.long q1), .second, .val (.long q2), .second, .val (.long q3), .second, .val (.long q4), .second, .val (.long q5), .second, .val (.int (3 : Int32)), .val (.int v186), .val (.int v187), .val (.int v188), .val (.ref b618), .val (.ref b640), .val (.long q4), .second, .val (.long q5), .second, .val (.long v666), .second, .val (.long v667), .second, .val (.ref b668), .val (.ref b706)] [(.int (1 : Int32)), (.long ((own_upd (own_upd (own_upd (own_g4 q4 q5 v666 v667) v186 q1) v187 q2) v188 q3) 1))])) _
        refine XS.iload X768.here hx rfl (hb hby at_263) rfl ?_
        show Steps p.tables e below (T768.setTop (mkF m 265 #[.val (.int p0), .val (.long q1), .second, .val (.long q2), .second, .val (.long q3), .second, .val (.long q4), .second, .val (.long q5), .second, .val (.int (3 : Int32)), .val (.int v186), .val (.int v187), .val (.int v188), .val (.ref b618), .val (.ref b640), .val (.long q4), .second, .val (.long q5), .second, .val (.long v666), .second, .val (.long v667), .second, .val (.ref b668), .val (.ref b706)] [(.int (3 : Int32)), (.int (1 : Int32)), (.long ((own_upd (own_upd (own_upd (own_g4 q4 q5 v666 v667) v186 q1) v187 q2) v188 q3) 1))])) _
        refine XS.iload X768.here hx rfl (hb hby at_265) rfl ?_
        show Steps p.tables e below (T768.setTop (mkF m 267 #[.val (.int p0), .val (.long q1), .second, .val (.long q2), .second, .val (.long q3), .second, .val (.long q4), .second, .val (.long q5), .second, .val (.int (3 : Int32)), .val (.int v186), .val (.int v187), .val (.int v188), .val (.ref b618), .val (.ref b640), .val (.long q4), .second, .val (.long q5), .second, .val (.long v666), .second, .val (.long v667), .second, .val (.ref b668), .val (.ref b706)] [(.int v186), (.int (3 : Int32)), (.int (1 : Int32)), (.long ((own_upd (own_upd (own_upd (own_g4 q4 q5 v666 v667) v186 q1) v187 q2) v188 q3) 1))])) _
        refine XS.iload X768.here hx rfl (hb hby at_267) rfl ?_
        show Steps p.tables e below (T768.setTop (mkF m 269 #[.val (.int p0), .val (.long q1), .second, .val (.long q2), .second, .val (.long q3), .second, .val (.long q4), .second, .val (.long q5), .second, .val (.int (3 : Int32)), .val (.int v186), .val (.int v187), .val (.int v188), .val (.ref b618), .val (.ref b640), .val (.long q4), .second, .val (.long q5), .second, .val (.long v666), .second, .val (.long v667), .second, .val (.ref b668), .val (.ref b706)] [(.int v187), (.int v186), (.int (3 : Int32)), (.int (1 : Int32)), (.long ((own_upd (own_upd (own_upd (own_g4 q4 q5 v666 v667) v186 q1) v187 q2) v188 q3) 1))])) _
        refine XS.iload X768.here hx rfl (hb hby at_269) rfl ?_
        show Steps p.tables e below (T768.setTop (mkF m 271 #[.val (.int p0), .val (.long q1), .second, .val (.long q2), .second, .val (.long q3), .second, .val (.long q4), .second, .val (.long q5), .second, .val (.int (3 : Int32)), .val (.int v186), .val (.int v187), .val (.int v188), .val (.ref b618), .val (.ref b640), .val (.long q4), .second, .val (.long q5), .second, .val (.long v666), .second, .val (.long v667), .second, .val (.ref b668), .val (.ref b706)] [(.int v188), (.int v187), (.int v186), (.int (3 : Int32)), (.int (1 : Int32)), (.long ((own_upd (own_upd (own_upd (own_g4 q4 q5 v666 v667) v186 q1) v187 q2) v188 q3) 1))])) _
        refine XS.lloadN X768.here hx rfl (hb hby at_271) rfl ?_
        show Steps p.tables e below (T768.setTop (mkF m 272 #[.val (.int p0), .val (.long q1), .second, .val (.long q2), .second, .val (.long q3), .second, .val (.long q4), .second, .val (.long q5), .second, .val (.int (3 : Int32)), .val (.int v186), .val (.int v187), .val (.int v188), .val (.ref b618), .val (.ref b640), .val (.long q4), .second, .val (.long q5), .second, .val (.long v666), .second, .val (.long v667), .second, .val (.ref b668), .val (.ref b706)] [(.long q1), (.int v188), (.int v187), (.int v186), (.int (3 : Int32)), (.int (1 : Int32)), (.long ((own_upd (own_upd (own_upd (own_g4 q4 q5 v666 v667) v186 q1) v187 q2) v188 q3) 1))])) _
        refine XS.lloadN X768.here hx rfl (hb hby at_272) rfl ?_
        show Steps p.tables e below (T768.setTop (mkF m 273 #[.val (.int p0), .val (.long q1), .second, .val (.long q2), .second, .val (.long q3), .second, .val (.long q4), .second, .val (.long q5), .second, .val (.int (3 : Int32)), .val (.int v186), .val (.int v187), .val (.int v188), .val (.ref b618), .val (.ref b640), .val (.long q4), .second, .val (.long q5), .second, .val (.long v666), .second, .val (.long v667), .second, .val (.ref b668), .val (.ref b706)] [(.long q2), (.long q1), (.int v188), (.int v187), (.int v186), (.int (3 : Int32)), (.int (1 : Int32)), (.long ((own_upd (own_upd (own_upd (own_g4 q4 q5 v666 v667) v186 q1) v187 q2) v188 q3) 1))])) _
        refine XS.lload X768.here hx rfl (hb hby at_273) rfl ?_
        show Steps p.tables e below (T768.setTop (mkF m 275 #[.val (.int p0), .val (.long q1), .second, .val (.long q2), .second, .val (.long q3), .second, .val (.long q4), .second, .val (.long q5), .second, .val (.int (3 : Int32)), .val (.int v186), .val (.int v187), .val (.int v188), .val (.ref b618), .val (.ref b640), .val (.long q4), .second, .val (.long q5), .second, .val (.long v666), .second, .val (.long v667), .second, .val (.ref b668), .val (.ref b706)] [(.long q3), (.long q2), (.long q1), (.int v188), (.int v187), (.int v186), (.int (3 : Int32)), (.int (1 : Int32)), (.long ((own_upd (own_upd (own_upd (own_g4 q4 q5 v666 v667) v186 q1) v187 q2) v188 q3) 1))])) _
        refine XS.lload X768.here hx rfl (hb hby at_275) rfl ?_
        show Steps p.tables e below (T768.setTop (mkF m 277 #[.val (.int p0), .val (.long q1), .second, .val (.long q2), .second, .val (.long q3), .second, .val (.long q4), .second, .val (.long q5), .second, .val (.int (3 : Int32)), .val (.int v186), .val (.int v187), .val (.int v188), .val (.ref b618), .val (.ref b640), .val (.long q4), .second, .val (.long q5), .second, .val (.long v666), .second, .val (.long v667), .second, .val (.ref b668), .val (.ref b706)] [(.long q5), (.long q3), (.long q2), (.long q1), (.int v188), (.int v187), (.int v186), (.int (3 : Int32)), (.int (1 : Int32)), (.long ((own_upd (own_upd (own_upd (own_g4 q4 q5 v666 v667) v186 q1) v187 q2) v188 q3) 1))])) _
        refine st774 _ ?_
        show Steps p.tables e below (T774.setTop (mkF m 280 #[.val (.int p0), .val (.long q1), .second, .val (.long q2), .second, .val (.long q3), .second, .val (.long q4), .second, .val (.long q5), .second, .val (.int (3 : Int32)), .val (.int v186), .val (.int v187), .val (.int v188), .val (.ref b618), .val (.ref b640), .val (.long q4), .second, .val (.long q5), .second, .val (.long v666), .second, .val (.long v667), .second, .val (.ref b668), .val (.ref b706)] [(.long (own_f5 (1 : Int32) (3 : Int32) v186 v187 v188 q1 q2 q3 q5)), (.long ((own_upd (own_upd (own_upd (own_g4 q4 q5 v666 v667) v186 q1) v187 q2) v188 q3) 1))])) _
        refine XS.lcmp X774.here hx rfl (hb hby at_280) rfl ?_
        show Steps p.tables e below (T774.setTop (mkF m 281 #[.val (.int p0), .val (.long q1), .second, .val (.long q2), .second, .val (.long q3), .second, .val (.long q4), .second, .val (.long q5), .second, .val (.int (3 : Int32)), .val (.int v186), .val (.int v187), .val (.int v188), .val (.ref b618), .val (.ref b640), .val (.long q4), .second, .val (.long q5), .second, .val (.long v666), .second, .val (.long v667), .second, .val (.ref b668), .val (.ref b706)] [(.int (lcmpW ((own_upd (own_upd (own_upd (own_g4 q4 q5 v666 v667) v186 q1) v187 q2) v188 q3) 1) (own_f5 (1 : Int32) (3 : Int32) v186 v187 v188 q1 q2 q3 q5)))])) _
        exact kk)
      by_cases hc778 : ((own_upd (own_upd (own_upd (own_g4 q4 q5 v666 v667) v186 q1) v187 q2) v188 q3) 1) = (own_f5 (1 : Int32) (3 : Int32) v186 v187 v188 q1 q2 q3 q5)
      · obtain ⟨cl779, Ar779, q779, S779, M779, H779, G779⟩ := id f756
        have hin779 : ¬ ((2 : Int32) < 0 ∨ cl779.slots.size ≤ ((2 : Int32)).toNatClampNeg) := inb_of S779 ⟨by decide, by decide⟩
        have hat779 : cl779.slots[((2 : Int32)).toNatClampNeg]? = some (.long ((own_upd (own_upd (own_upd (own_g4 q4 q5 v666 v667) v186 q1) v187 q2) v188 q3) 2)) := H779.at hin779 rfl
        obtain ⟨_, _, ⟨T780, L780, k780, n780⟩, -, X780, ⟨Lc780, hQ780, l780, y780, z780⟩, st780⟩ := Jvm.LawKit.callS X774 hx (y := (⟨"com/example/thyme/thyme/engine/RestartWritePinLaw", "expect", "(IIIIIJJJJ)J"⟩ : MethodName)) hown (mvT hZ (hw _ (List.mem_of_getElem? (i := 28) rfl))) (mvT hZ (hw _ (List.mem_of_getElem? (i := 29) rfl))) (mvT hZ (hw _ (List.mem_of_getElem? (i := 30) rfl))) (mvT hZ (hw _ (List.mem_of_getElem? (i := 31) rfl))) (by decide) (backOf (W := 2) (own_rm5 l Z av hw [] (2 : Int32) (3 : Int32) v186 v187 v188 q1 q2 q3 v666 T751.heap n0 z765 ) hZ (hw _ (List.mem_of_getElem? (i := 31) rfl)) (hw _ (List.mem_of_getElem? (i := 30) rfl)) (by decide) (by decide)) (g := (mkF m 303 #[.val (.int p0), .val (.long q1), .second, .val (.long q2), .second, .val (.long q3), .second, .val (.long q4), .second, .val (.long q5), .second, .val (.int (3 : Int32)), .val (.int v186), .val (.int v187), .val (.int v188), .val (.ref b618), .val (.ref b640), .val (.long q4), .second, .val (.long q5), .second, .val (.long v666), .second, .val (.long v667), .second, .val (.ref b668), .val (.ref b706)] [(.long v666), (.long q3), (.long q2), (.long q1), (.int v188), (.int v187), (.int v186), (.int (3 : Int32)), (.int (2 : Int32)), (.long ((own_upd (own_upd (own_upd (own_g4 q4 q5 v666 v667) v186 q1) v187 q2) v188 q3) 2))])) rfl (by rw [hml]; rfl) (argsL := [(.int (2 : Int32)), (.int (3 : Int32)), (.int v186), (.int v187), (.int v188), (.long q1), (.long q2), (.long q3), (.long v666)]) (rest := [(.long ((own_upd (own_upd (own_upd (own_g4 q4 q5 v666 v667) v186 q1) v187 q2) v188 q3) 2))]) (lenOf own_pd3 rfl) rfl (by show 2 * 0 + _ ≤ _; exact Nat.le_of_eq rfl) (hb hby at_303) (fun _ _ => ⟨rfl, e776, (by decide : 5 + 0 ≤ _), (by decide : 14 + 0 ≤ _)⟩)
        dsimp only [Pt.U, Pt.locs, Pt.cells, Pt.slots] at X780 l780 y780 z780 st780 hQ780
        subst l780 y780 z780
        obtain ⟨rfl, N780q, e782⟩ := hQ780
        have N781 := Fr.app N775 N780q
        have pre783 : ∀ t, Steps p.tables e below (T780.setTop (mkF m 307 #[.val (.int p0), .val (.long q1), .second, .val (.long q2), .second, .val (.long q3), .second, .val (.long q4), .second, .val (.long q5), .second, .val (.int (3 : Int32)), .val (.int v186), .val (.int v187), .val (.int v188), .val (.ref b618), .val (.ref b640), .val (.long q4), .second, .val (.long q5), .second, .val (.long v666), .second, .val (.long v667), .second, .val (.ref b668), .val (.ref b706)] [(.int (lcmpW ((own_upd (own_upd (own_upd (own_g4 q4 q5 v666 v667) v186 q1) v187 q2) v188 q3) 2) (own_f5 (2 : Int32) (3 : Int32) v186 v187 v188 q1 q2 q3 v666)))])) t → Steps p.tables e below (s₁.setTop (entryFrame m #[(.int p0), (.long q1), (.long q2), (.long q3), (.long q4), (.long q5)] maxLocals)) t := fun t kk => pre777 t (by
          show Steps p.tables e below (T774.setTop (mkF m 281 #[.val (.int p0), .val (.long q1), .second, .val (.long q2), .second, .val (.long q3), .second, .val (.long q4), .second, .val (.long q5), .second, .val (.int (3 : Int32)), .val (.int v186), .val (.int v187), .val (.int v188), .val (.ref b618), .val (.ref b640), .val (.long q4), .second, .val (.long q5), .second, .val (.long v666), .second, .val (.long v667), .second, .val (.ref b668), .val (.ref b706)] [(.int (lcmpW ((own_upd (own_upd (own_upd (own_g4 q4 q5 v666 v667) v186 q1) v187 q2) v188 q3) 1) (own_f5 (1 : Int32) (3 : Int32) v186 v187 v188 q1 q2 q3 q5)))])) _
          refine XS.ifNo X774.here hx rfl (hb hby at_281) rfl ((if0 _ _).trans (teq ((lw_eq ((own_upd (own_upd (own_upd (own_g4 q4 q5 v666 v667) v186 q1) v187 q2) v188 q3) 1) (own_f5 (1 : Int32) (3 : Int32) v186 v187 v188 q1 q2 q3 q5)).mpr hc778)).2) ?_
          show Steps p.tables e below (T774.setTop (mkF m 284 #[.val (.int p0), .val (.long q1), .second, .val (.long q2), .second, .val (.long q3), .second, .val (.long q4), .second, .val (.long q5), .second, .val (.int (3 : Int32)), .val (.int v186), .val (.int v187), .val (.int v188), .val (.ref b618), .val (.ref b640), .val (.long q4), .second, .val (.long q5), .second, .val (.long v666), .second, .val (.long v667), .second, .val (.ref b668), .val (.ref b706)] [])) _
          refine XS.aload X774.here hx rfl (hb hby at_284) rfl rfl ?_
          show Steps p.tables e below (T774.setTop (mkF m 286 #[.val (.int p0), .val (.long q1), .second, .val (.long q2), .second, .val (.long q3), .second, .val (.long q4), .second, .val (.long q5), .second, .val (.int (3 : Int32)), .val (.int v186), .val (.int v187), .val (.int v188), .val (.ref b618), .val (.ref b640), .val (.long q4), .second, .val (.long q5), .second, .val (.long v666), .second, .val (.long v667), .second, .val (.ref b668), .val (.ref b706)] [(.ref b668)])) _
          refine XS.iconst X774.here hx rfl (hb hby at_286) ?_
          show Steps p.tables e below (T774.setTop (mkF m 287 #[.val (.int p0), .val (.long q1), .second, .val (.long q2), .second, .val (.long q3), .second, .val (.long q4), .second, .val (.long q5), .second, .val (.int (3 : Int32)), .val (.int v186), .val (.int v187), .val (.int v188), .val (.ref b618), .val (.ref b640), .val (.long q4), .second, .val (.long q5), .second, .val (.long v666), .second, .val (.long v667), .second, .val (.ref b668), .val (.ref b706)] [(.int (2 : Int32)), (.ref b668)])) _
          refine X774.laload hx (j := (2 : Int32)) (v := (.long ((own_upd (own_upd (own_upd (own_g4 q4 q5 v666 v667) v186 q1) v187 q2) v188 q3) 2))) (by rw [e776]; exact Ar779.1) (State.isArrayOf_alike hZ.alike Ar779.2.1) Ar779.2.2 hin779 hat779 (g := (mkF m 287 #[.val (.int p0), .val (.long q1), .second, .val (.long q2), .second, .val (.long q3), .second, .val (.long q4), .second, .val (.long q5), .second, .val (.int (3 : Int32)), .val (.int v186), .val (.int v187), .val (.int v188), .val (.ref b618), .val (.ref b640), .val (.long q4), .second, .val (.long q5), .second, .val (.long v666), .second, .val (.long v667), .second, .val (.ref b668), .val (.ref b706)] [(.int (2 : Int32)), (.ref b668)])) rfl rfl (hb hby at_287) _ ?_
          show Steps p.tables e below (T774.setTop (mkF m 288 #[.val (.int p0), .val (.long q1), .second, .val (.long q2), .second, .val (.long q3), .second, .val (.long q4), .second, .val (.long q5), .second, .val (.int (3 : Int32)), .val (.int v186), .val (.int v187), .val (.int v188), .val (.ref b618), .val (.ref b640), .val (.long q4), .second, .val (.long q5), .second, .val (.long v666), .second, .val (.long v667), .second, .val (.ref b668), .val (.ref b706)] [(.long ((own_upd (own_upd (own_upd (own_g4 q4 q5 v666 v667) v186 q1) v187 q2) v188 q3) 2))])) _
          refine XS.iconst X774.here hx rfl (hb hby at_288) ?_
          show Steps p.tables e below (T774.setTop (mkF m 289 #[.val (.int p0), .val (.long q1), .second, .val (.long q2), .second, .val (.long q3), .second, .val (.long q4), .second, .val (.long q5), .second, .val (.int (3 : Int32)), .val (.int v186), .val (.int v187), .val (.int v188), .val (.ref b618), .val (.ref b640), .val (.long q4), .second, .val (.long q5), .second, .val (.long v666), .second, .val (.long v667), .second, .val (.ref b668), .val (.ref b706)] [(.int (2 : Int32)), (.long ((own_upd (own_upd (own_upd (own_g4 q4 q5 v666 v667) v186 q1) v187 q2) v188 q3) 2))])) _
          refine XS.iload X774.here hx rfl (hb hby at_289) rfl ?_
          show Steps p.tables e below (T774.setTop (mkF m 291 #[.val (.int p0), .val (.long q1), .second, .val (.long q2), .second, .val (.long q3), .second, .val (.long q4), .second, .val (.long q5), .second, .val (.int (3 : Int32)), .val (.int v186), .val (.int v187), .val (.int v188), .val (.ref b618), .val (.ref b640), .val (.long q4), .second, .val (.long q5), .second, .val (.long v666), .second, .val (.long v667), .second, .val (.ref b668), .val (.ref b706)] [(.int (3 : Int32)), (.int (2 : Int32)), (.long ((own_upd (own_upd (own_upd (own_g4 q4 q5 v666 v667) v186 q1) v187 q2) v188 q3) 2))])) _
          refine XS.iload X774.here hx rfl (hb hby at_291) rfl ?_
          show Steps p.tables e below (T774.setTop (mkF m 293 #[.val (.int p0), .val (.long q1), .second, .val (.long q2), .second, .val (.long q3), .second, .val (.long q4), .second, .val (.long q5), .second, .val (.int (3 : Int32)), .val (.int v186), .val (.int v187), .val (.int v188), .val (.ref b618), .val (.ref b640), .val (.long q4), .second, .val (.long q5), .second, .val (.long v666), .second, .val (.long v667), .second, .val (.ref b668), .val (.ref b706)] [(.int v186), (.int (3 : Int32)), (.int (2 : Int32)), (.long ((own_upd (own_upd (own_upd (own_g4 q4 q5 v666 v667) v186 q1) v187 q2) v188 q3) 2))])) _
          refine XS.iload X774.here hx rfl (hb hby at_293) rfl ?_
          show Steps p.tables e below (T774.setTop (mkF m 295 #[.val (.int p0), .val (.long q1), .second, .val (.long q2), .second, .val (.long q3), .second, .val (.long q4), .second, .val (.long q5), .second, .val (.int (3 : Int32)), .val (.int v186), .val (.int v187), .val (.int v188), .val (.ref b618), .val (.ref b640), .val (.long q4), .second, .val (.long q5), .second, .val (.long v666), .second, .val (.long v667), .second, .val (.ref b668), .val (.ref b706)] [(.int v187), (.int v186), (.int (3 : Int32)), (.int (2 : Int32)), (.long ((own_upd (own_upd (own_upd (own_g4 q4 q5 v666 v667) v186 q1) v187 q2) v188 q3) 2))])) _
          refine XS.iload X774.here hx rfl (hb hby at_295) rfl ?_
          show Steps p.tables e below (T774.setTop (mkF m 297 #[.val (.int p0), .val (.long q1), .second, .val (.long q2), .second, .val (.long q3), .second, .val (.long q4), .second, .val (.long q5), .second, .val (.int (3 : Int32)), .val (.int v186), .val (.int v187), .val (.int v188), .val (.ref b618), .val (.ref b640), .val (.long q4), .second, .val (.long q5), .second, .val (.long v666), .second, .val (.long v667), .second, .val (.ref b668), .val (.ref b706)] [(.int v188), (.int v187), (.int v186), (.int (3 : Int32)), (.int (2 : Int32)), (.long ((own_upd (own_upd (own_upd (own_g4 q4 q5 v666 v667) v186 q1) v187 q2) v188 q3) 2))])) _
          refine XS.lloadN X774.here hx rfl (hb hby at_297) rfl ?_
          show Steps p.tables e below (T774.setTop (mkF m 298 #[.val (.int p0), .val (.long q1), .second, .val (.long q2), .second, .val (.long q3), .second, .val (.long q4), .second, .val (.long q5), .second, .val (.int (3 : Int32)), .val (.int v186), .val (.int v187), .val (.int v188), .val (.ref b618), .val (.ref b640), .val (.long q4), .second, .val (.long q5), .second, .val (.long v666), .second, .val (.long v667), .second, .val (.ref b668), .val (.ref b706)] [(.long q1), (.int v188), (.int v187), (.int v186), (.int (3 : Int32)), (.int (2 : Int32)), (.long ((own_upd (own_upd (own_upd (own_g4 q4 q5 v666 v667) v186 q1) v187 q2) v188 q3) 2))])) _
          refine XS.lloadN X774.here hx rfl (hb hby at_298) rfl ?_
          show Steps p.tables e below (T774.setTop (mkF m 299 #[.val (.int p0), .val (.long q1), .second, .val (.long q2), .second, .val (.long q3), .second, .val (.long q4), .second, .val (.long q5), .second, .val (.int (3 : Int32)), .val (.int v186), .val (.int v187), .val (.int v188), .val (.ref b618), .val (.ref b640), .val (.long q4), .second, .val (.long q5), .second, .val (.long v666), .second, .val (.long v667), .second, .val (.ref b668), .val (.ref b706)] [(.long q2), (.long q1), (.int v188), (.int v187), (.int v186), (.int (3 : Int32)), (.int (2 : Int32)), (.long ((own_upd (own_upd (own_upd (own_g4 q4 q5 v666 v667) v186 q1) v187 q2) v188 q3) 2))])) _
          refine XS.lload X774.here hx rfl (hb hby at_299) rfl ?_
          show Steps p.tables e below (T774.setTop (mkF m 301 #[.val (.int p0), .val (.long q1), .second, .val (.long q2), .second, .val (.long q3), .second, .val (.long q4), .second, .val (.long q5), .second, .val (.int (3 : Int32)), .val (.int v186), .val (.int v187), .val (.int v188), .val (.ref b618), .val (.ref b640), .val (.long q4), .second, .val (.long q5), .second, .val (.long v666), .second, .val (.long v667), .second, .val (.ref b668), .val (.ref b706)] [(.long q3), (.long q2), (.long q1), (.int v188), (.int v187), (.int v186), (.int (3 : Int32)), (.int (2 : Int32)), (.long ((own_upd (own_upd (own_upd (own_g4 q4 q5 v666 v667) v186 q1) v187 q2) v188 q3) 2))])) _
          refine XS.lload X774.here hx rfl (hb hby at_301) rfl ?_
          show Steps p.tables e below (T774.setTop (mkF m 303 #[.val (.int p0), .val (.long q1), .second, .val (.long q2), .second, .val (.long q3), .second, .val (.long q4), .second, .val (.long q5), .second, .val (.int (3 : Int32)), .val (.int v186), .val (.int v187), .val (.int v188), .val (.ref b618), .val (.ref b640), .val (.long q4), .second, .val (.long q5), .second, .val (.long v666), .second, .val (.long v667), .second, .val (.ref b668), .val (.ref b706)] [(.long v666), (.long q3), (.long q2), (.long q1), (.int v188), (.int v187), (.int v186), (.int (3 : Int32)), (.int (2 : Int32)), (.long ((own_upd (own_upd (own_upd (own_g4 q4 q5 v666 v667) v186 q1) v187 q2) v188 q3) 2))])) _
          refine st780 _ ?_
          show Steps p.tables e below (T780.setTop (mkF m 306 #[.val (.int p0), .val (.long q1), .second, .val (.long q2), .second, .val (.long q3), .second, .val (.long q4), .second, .val (.long q5), .second, .val (.int (3 : Int32)), .val (.int v186), .val (.int v187), .val (.int v188), .val (.ref b618), .val (.ref b640), .val (.long q4), .second, .val (.long q5), .second, .val (.long v666), .second, .val (.long v667), .second, .val (.ref b668), .val (.ref b706)] [(.long (own_f5 (2 : Int32) (3 : Int32) v186 v187 v188 q1 q2 q3 v666)), (.long ((own_upd (own_upd (own_upd (own_g4 q4 q5 v666 v667) v186 q1) v187 q2) v188 q3) 2))])) _
          refine XS.lcmp X780.here hx rfl (hb hby at_306) rfl ?_
          show Steps p.tables e below (T780.setTop (mkF m 307 #[.val (.int p0), .val (.long q1), .second, .val (.long q2), .second, .val (.long q3), .second, .val (.long q4), .second, .val (.long q5), .second, .val (.int (3 : Int32)), .val (.int v186), .val (.int v187), .val (.int v188), .val (.ref b618), .val (.ref b640), .val (.long q4), .second, .val (.long q5), .second, .val (.long v666), .second, .val (.long v667), .second, .val (.ref b668), .val (.ref b706)] [(.int (lcmpW ((own_upd (own_upd (own_upd (own_g4 q4 q5 v666 v667) v186 q1) v187 q2) v188 q3) 2) (own_f5 (2 : Int32) (3 : Int32) v186 v187 v188 q1 q2 q3 v666)))])) _
          exact kk)
        by_cases hc784 : ((own_upd (own_upd (own_upd (own_g4 q4 q5 v666 v667) v186 q1) v187 q2) v188 q3) 2) = (own_f5 (2 : Int32) (3 : Int32) v186 v187 v188 q1 q2 q3 v666)
        · obtain ⟨cl785, Ar785, q785, S785, M785, H785, G785⟩ := id f756
          have hin785 : ¬ ((3 : Int32) < 0 ∨ cl785.slots.size ≤ ((3 : Int32)).toNatClampNeg) := inb_of S785 ⟨by decide, by decide⟩
          have hat785 : cl785.slots[((3 : Int32)).toNatClampNeg]? = some (.long ((own_upd (own_upd (own_upd (own_g4 q4 q5 v666 v667) v186 q1) v187 q2) v188 q3) 3)) := H785.at hin785 rfl
          obtain ⟨_, _, ⟨T786, L786, k786, n786⟩, -, X786, ⟨Lc786, hQ786, l786, y786, z786⟩, st786⟩ := Jvm.LawKit.callS X780 hx (y := (⟨"com/example/thyme/thyme/engine/RestartWritePinLaw", "expect", "(IIIIIJJJJ)J"⟩ : MethodName)) hown (mvT hZ (hw _ (List.mem_of_getElem? (i := 28) rfl))) (mvT hZ (hw _ (List.mem_of_getElem? (i := 29) rfl))) (mvT hZ (hw _ (List.mem_of_getElem? (i := 30) rfl))) (mvT hZ (hw _ (List.mem_of_getElem? (i := 31) rfl))) (by decide) (backOf (W := 2) (own_rm5 l Z av hw [] (3 : Int32) (3 : Int32) v186 v187 v188 q1 q2 q3 v667 T751.heap n0 z765 ) hZ (hw _ (List.mem_of_getElem? (i := 31) rfl)) (hw _ (List.mem_of_getElem? (i := 30) rfl)) (by decide) (by decide)) (g := (mkF m 329 #[.val (.int p0), .val (.long q1), .second, .val (.long q2), .second, .val (.long q3), .second, .val (.long q4), .second, .val (.long q5), .second, .val (.int (3 : Int32)), .val (.int v186), .val (.int v187), .val (.int v188), .val (.ref b618), .val (.ref b640), .val (.long q4), .second, .val (.long q5), .second, .val (.long v666), .second, .val (.long v667), .second, .val (.ref b668), .val (.ref b706)] [(.long v667), (.long q3), (.long q2), (.long q1), (.int v188), (.int v187), (.int v186), (.int (3 : Int32)), (.int (3 : Int32)), (.long ((own_upd (own_upd (own_upd (own_g4 q4 q5 v666 v667) v186 q1) v187 q2) v188 q3) 3))])) rfl (by rw [hml]; rfl) (argsL := [(.int (3 : Int32)), (.int (3 : Int32)), (.int v186), (.int v187), (.int v188), (.long q1), (.long q2), (.long q3), (.long v667)]) (rest := [(.long ((own_upd (own_upd (own_upd (own_g4 q4 q5 v666 v667) v186 q1) v187 q2) v188 q3) 3))]) (lenOf own_pd3 rfl) rfl (by show 2 * 0 + _ ≤ _; exact Nat.le_of_eq rfl) (hb hby at_329) (fun _ _ => ⟨rfl, e782, (by decide : 5 + 0 ≤ _), (by decide : 14 + 0 ≤ _)⟩)
          dsimp only [Pt.U, Pt.locs, Pt.cells, Pt.slots] at X786 l786 y786 z786 st786 hQ786
          subst l786 y786 z786
          obtain ⟨rfl, N786q, e788⟩ := hQ786
          have N787 := Fr.app N781 N786q
          have pre789 : ∀ t, Steps p.tables e below (T786.setTop (mkF m 333 #[.val (.int p0), .val (.long q1), .second, .val (.long q2), .second, .val (.long q3), .second, .val (.long q4), .second, .val (.long q5), .second, .val (.int (3 : Int32)), .val (.int v186), .val (.int v187), .val (.int v188), .val (.ref b618), .val (.ref b640), .val (.long q4), .second, .val (.long q5), .second, .val (.long v666), .second, .val (.long v667), .second, .val (.ref b668), .val (.ref b706)] [(.int (lcmpW ((own_upd (own_upd (own_upd (own_g4 q4 q5 v666 v667) v186 q1) v187 q2) v188 q3) 3) (own_f5 (3 : Int32) (3 : Int32) v186 v187 v188 q1 q2 q3 v667)))])) t → Steps p.tables e below (s₁.setTop (entryFrame m #[(.int p0), (.long q1), (.long q2), (.long q3), (.long q4), (.long q5)] maxLocals)) t := fun t kk => pre783 t (by
            show Steps p.tables e below (T780.setTop (mkF m 307 #[.val (.int p0), .val (.long q1), .second, .val (.long q2), .second, .val (.long q3), .second, .val (.long q4), .second, .val (.long q5), .second, .val (.int (3 : Int32)), .val (.int v186), .val (.int v187), .val (.int v188), .val (.ref b618), .val (.ref b640), .val (.long q4), .second, .val (.long q5), .second, .val (.long v666), .second, .val (.long v667), .second, .val (.ref b668), .val (.ref b706)] [(.int (lcmpW ((own_upd (own_upd (own_upd (own_g4 q4 q5 v666 v667) v186 q1) v187 q2) v188 q3) 2) (own_f5 (2 : Int32) (3 : Int32) v186 v187 v188 q1 q2 q3 v666)))])) _
            refine XS.ifNo X780.here hx rfl (hb hby at_307) rfl ((if0 _ _).trans (teq ((lw_eq ((own_upd (own_upd (own_upd (own_g4 q4 q5 v666 v667) v186 q1) v187 q2) v188 q3) 2) (own_f5 (2 : Int32) (3 : Int32) v186 v187 v188 q1 q2 q3 v666)).mpr hc784)).2) ?_
            show Steps p.tables e below (T780.setTop (mkF m 310 #[.val (.int p0), .val (.long q1), .second, .val (.long q2), .second, .val (.long q3), .second, .val (.long q4), .second, .val (.long q5), .second, .val (.int (3 : Int32)), .val (.int v186), .val (.int v187), .val (.int v188), .val (.ref b618), .val (.ref b640), .val (.long q4), .second, .val (.long q5), .second, .val (.long v666), .second, .val (.long v667), .second, .val (.ref b668), .val (.ref b706)] [])) _
            refine XS.aload X780.here hx rfl (hb hby at_310) rfl rfl ?_
            show Steps p.tables e below (T780.setTop (mkF m 312 #[.val (.int p0), .val (.long q1), .second, .val (.long q2), .second, .val (.long q3), .second, .val (.long q4), .second, .val (.long q5), .second, .val (.int (3 : Int32)), .val (.int v186), .val (.int v187), .val (.int v188), .val (.ref b618), .val (.ref b640), .val (.long q4), .second, .val (.long q5), .second, .val (.long v666), .second, .val (.long v667), .second, .val (.ref b668), .val (.ref b706)] [(.ref b668)])) _
            refine XS.iconst X780.here hx rfl (hb hby at_312) ?_
            show Steps p.tables e below (T780.setTop (mkF m 313 #[.val (.int p0), .val (.long q1), .second, .val (.long q2), .second, .val (.long q3), .second, .val (.long q4), .second, .val (.long q5), .second, .val (.int (3 : Int32)), .val (.int v186), .val (.int v187), .val (.int v188), .val (.ref b618), .val (.ref b640), .val (.long q4), .second, .val (.long q5), .second, .val (.long v666), .second, .val (.long v667), .second, .val (.ref b668), .val (.ref b706)] [(.int (3 : Int32)), (.ref b668)])) _
            refine X780.laload hx (j := (3 : Int32)) (v := (.long ((own_upd (own_upd (own_upd (own_g4 q4 q5 v666 v667) v186 q1) v187 q2) v188 q3) 3))) (by rw [e782]; exact Ar785.1) (State.isArrayOf_alike hZ.alike Ar785.2.1) Ar785.2.2 hin785 hat785 (g := (mkF m 313 #[.val (.int p0), .val (.long q1), .second, .val (.long q2), .second, .val (.long q3), .second, .val (.long q4), .second, .val (.long q5), .second, .val (.int (3 : Int32)), .val (.int v186), .val (.int v187), .val (.int v188), .val (.ref b618), .val (.ref b640), .val (.long q4), .second, .val (.long q5), .second, .val (.long v666), .second, .val (.long v667), .second, .val (.ref b668), .val (.ref b706)] [(.int (3 : Int32)), (.ref b668)])) rfl rfl (hb hby at_313) _ ?_
            show Steps p.tables e below (T780.setTop (mkF m 314 #[.val (.int p0), .val (.long q1), .second, .val (.long q2), .second, .val (.long q3), .second, .val (.long q4), .second, .val (.long q5), .second, .val (.int (3 : Int32)), .val (.int v186), .val (.int v187), .val (.int v188), .val (.ref b618), .val (.ref b640), .val (.long q4), .second, .val (.long q5), .second, .val (.long v666), .second, .val (.long v667), .second, .val (.ref b668), .val (.ref b706)] [(.long ((own_upd (own_upd (own_upd (own_g4 q4 q5 v666 v667) v186 q1) v187 q2) v188 q3) 3))])) _
            refine XS.iconst X780.here hx rfl (hb hby at_314) ?_
            show Steps p.tables e below (T780.setTop (mkF m 315 #[.val (.int p0), .val (.long q1), .second, .val (.long q2), .second, .val (.long q3), .second, .val (.long q4), .second, .val (.long q5), .second, .val (.int (3 : Int32)), .val (.int v186), .val (.int v187), .val (.int v188), .val (.ref b618), .val (.ref b640), .val (.long q4), .second, .val (.long q5), .second, .val (.long v666), .second, .val (.long v667), .second, .val (.ref b668), .val (.ref b706)] [(.int (3 : Int32)), (.long ((own_upd (own_upd (own_upd (own_g4 q4 q5 v666 v667) v186 q1) v187 q2) v188 q3) 3))])) _
            refine XS.iload X780.here hx rfl (hb hby at_315) rfl ?_
            show Steps p.tables e below (T780.setTop (mkF m 317 #[.val (.int p0), .val (.long q1), .second, .val (.long q2), .second, .val (.long q3), .second, .val (.long q4), .second, .val (.long q5), .second, .val (.int (3 : Int32)), .val (.int v186), .val (.int v187), .val (.int v188), .val (.ref b618), .val (.ref b640), .val (.long q4), .second, .val (.long q5), .second, .val (.long v666), .second, .val (.long v667), .second, .val (.ref b668), .val (.ref b706)] [(.int (3 : Int32)), (.int (3 : Int32)), (.long ((own_upd (own_upd (own_upd (own_g4 q4 q5 v666 v667) v186 q1) v187 q2) v188 q3) 3))])) _
            refine XS.iload X780.here hx rfl (hb hby at_317) rfl ?_
            show Steps p.tables e below (T780.setTop (mkF m 319 #[.val (.int p0), .val (.long q1), .second, .val (.long q2), .second, .val (.long q3), .second, .val (.long q4), .second, .val (.long q5), .second, .val (.int (3 : Int32)), .val (.int v186), .val (.int v187), .val (.int v188), .val (.ref b618), .val (.ref b640), .val (.long q4), .second, .val (.long q5), .second, .val (.long v666), .second, .val (.long v667), .second, .val (.ref b668), .val (.ref b706)] [(.int v186), (.int (3 : Int32)), (.int (3 : Int32)), (.long ((own_upd (own_upd (own_upd (own_g4 q4 q5 v666 v667) v186 q1) v187 q2) v188 q3) 3))])) _
            refine XS.iload X780.here hx rfl (hb hby at_319) rfl ?_
            show Steps p.tables e below (T780.setTop (mkF m 321 #[.val (.int p0), .val (.long q1), .second, .val (.long q2), .second, .val (.long q3), .second, .val (.long q4), .second, .val (.long q5), .second, .val (.int (3 : Int32)), .val (.int v186), .val (.int v187), .val (.int v188), .val (.ref b618), .val (.ref b640), .val (.long q4), .second, .val (.long q5), .second, .val (.long v666), .second, .val (.long v667), .second, .val (.ref b668), .val (.ref b706)] [(.int v187), (.int v186), (.int (3 : Int32)), (.int (3 : Int32)), (.long ((own_upd (own_upd (own_upd (own_g4 q4 q5 v666 v667) v186 q1) v187 q2) v188 q3) 3))])) _
            refine XS.iload X780.here hx rfl (hb hby at_321) rfl ?_
            show Steps p.tables e below (T780.setTop (mkF m 323 #[.val (.int p0), .val (.long q1), .second, .val (.long q2), .second, .val (.long q3), .second, .val (.long q4), .second, .val (.long q5), .second, .val (.int (3 : Int32)), .val (.int v186), .val (.int v187), .val (.int v188), .val (.ref b618), .val (.ref b640), .val (.long q4), .second, .val (.long q5), .second, .val (.long v666), .second, .val (.long v667), .second, .val (.ref b668), .val (.ref b706)] [(.int v188), (.int v187), (.int v186), (.int (3 : Int32)), (.int (3 : Int32)), (.long ((own_upd (own_upd (own_upd (own_g4 q4 q5 v666 v667) v186 q1) v187 q2) v188 q3) 3))])) _
            refine XS.lloadN X780.here hx rfl (hb hby at_323) rfl ?_
            show Steps p.tables e below (T780.setTop (mkF m 324 #[.val (.int p0), .val (.long q1), .second, .val (.long q2), .second, .val (.long q3), .second, .val (.long q4), .second, .val (.long q5), .second, .val (.int (3 : Int32)), .val (.int v186), .val (.int v187), .val (.int v188), .val (.ref b618), .val (.ref b640), .val (.long q4), .second, .val (.long q5), .second, .val (.long v666), .second, .val (.long v667), .second, .val (.ref b668), .val (.ref b706)] [(.long q1), (.int v188), (.int v187), (.int v186), (.int (3 : Int32)), (.int (3 : Int32)), (.long ((own_upd (own_upd (own_upd (own_g4 q4 q5 v666 v667) v186 q1) v187 q2) v188 q3) 3))])) _
            refine XS.lloadN X780.here hx rfl (hb hby at_324) rfl ?_
            show Steps p.tables e below (T780.setTop (mkF m 325 #[.val (.int p0), .val (.long q1), .second, .val (.long q2), .second, .val (.long q3), .second, .val (.long q4), .second, .val (.long q5), .second, .val (.int (3 : Int32)), .val (.int v186), .val (.int v187), .val (.int v188), .val (.ref b618), .val (.ref b640), .val (.long q4), .second, .val (.long q5), .second, .val (.long v666), .second, .val (.long v667), .second, .val (.ref b668), .val (.ref b706)] [(.long q2), (.long q1), (.int v188), (.int v187), (.int v186), (.int (3 : Int32)), (.int (3 : Int32)), (.long ((own_upd (own_upd (own_upd (own_g4 q4 q5 v666 v667) v186 q1) v187 q2) v188 q3) 3))])) _
            refine XS.lload X780.here hx rfl (hb hby at_325) rfl ?_
            show Steps p.tables e below (T780.setTop (mkF m 327 #[.val (.int p0), .val (.long q1), .second, .val (.long q2), .second, .val (.long q3), .second, .val (.long q4), .second, .val (.long q5), .second, .val (.int (3 : Int32)), .val (.int v186), .val (.int v187), .val (.int v188), .val (.ref b618), .val (.ref b640), .val (.long q4), .second, .val (.long q5), .second, .val (.long v666), .second, .val (.long v667), .second, .val (.ref b668), .val (.ref b706)] [(.long q3), (.long q2), (.long q1), (.int v188), (.int v187), (.int v186), (.int (3 : Int32)), (.int (3 : Int32)), (.long ((own_upd (own_upd (own_upd (own_g4 q4 q5 v666 v667) v186 q1) v187 q2) v188 q3) 3))])) _
            refine XS.lload X780.here hx rfl (hb hby at_327) rfl ?_
            show Steps p.tables e below (T780.setTop (mkF m 329 #[.val (.int p0), .val (.long q1), .second, .val (.long q2), .second, .val (.long q3), .second, .val (.long q4), .second, .val (.long q5), .second, .val (.int (3 : Int32)), .val (.int v186), .val (.int v187), .val (.int v188), .val (.ref b618), .val (.ref b640), .val (.long q4), .second, .val (.long q5), .second, .val (.long v666), .second, .val (.long v667), .second, .val (.ref b668), .val (.ref b706)] [(.long v667), (.long q3), (.long q2), (.long q1), (.int v188), (.int v187), (.int v186), (.int (3 : Int32)), (.int (3 : Int32)), (.long ((own_upd (own_upd (own_upd (own_g4 q4 q5 v666 v667) v186 q1) v187 q2) v188 q3) 3))])) _
            refine st786 _ ?_
            show Steps p.tables e below (T786.setTop (mkF m 332 #[.val (.int p0), .val (.long q1), .second, .val (.long q2), .second, .val (.long q3), .second, .val (.long q4), .second, .val (.long q5), .second, .val (.int (3 : Int32)), .val (.int v186), .val (.int v187), .val (.int v188), .val (.ref b618), .val (.ref b640), .val (.long q4), .second, .val (.long q5), .second, .val (.long v666), .second, .val (.long v667), .second, .val (.ref b668), .val (.ref b706)] [(.long (own_f5 (3 : Int32) (3 : Int32) v186 v187 v188 q1 q2 q3 v667)), (.long ((own_upd (own_upd (own_upd (own_g4 q4 q5 v666 v667) v186 q1) v187 q2) v188 q3) 3))])) _
            refine XS.lcmp X786.here hx rfl (hb hby at_332) rfl ?_
            show Steps p.tables e below (T786.setTop (mkF m 333 #[.val (.int p0), .val (.long q1), .second, .val (.long q2), .second, .val (.long q3), .second, .val (.long q4), .second, .val (.long q5), .second, .val (.int (3 : Int32)), .val (.int v186), .val (.int v187), .val (.int v188), .val (.ref b618), .val (.ref b640), .val (.long q4), .second, .val (.long q5), .second, .val (.long v666), .second, .val (.long v667), .second, .val (.ref b668), .val (.ref b706)] [(.int (lcmpW ((own_upd (own_upd (own_upd (own_g4 q4 q5 v666 v667) v186 q1) v187 q2) v188 q3) 3) (own_f5 (3 : Int32) (3 : Int32) v186 v187 v188 q1 q2 q3 v667)))])) _
            exact kk)
          by_cases hc790 : ((own_upd (own_upd (own_upd (own_g4 q4 q5 v666 v667) v186 q1) v187 q2) v188 q3) 3) = (own_f5 (3 : Int32) (3 : Int32) v186 v187 v188 q1 q2 q3 v667)
          · obtain ⟨fs, hr, hrun, hended, hW, hsame⟩ := X786.leave (v := some (.int (1 : Int32))) (fun h => by rw [Bd.returns] at h; cases h)
            refine ⟨_, _, pre789 _ ?_, hrun, hended, _, _, rfl, ?_, ⟨_, rfl⟩, hW, hsame.mono (by decide) (by decide)⟩
            · show Steps p.tables e below (T786.setTop (mkF m 333 #[.val (.int p0), .val (.long q1), .second, .val (.long q2), .second, .val (.long q3), .second, .val (.long q4), .second, .val (.long q5), .second, .val (.int (3 : Int32)), .val (.int v186), .val (.int v187), .val (.int v188), .val (.ref b618), .val (.ref b640), .val (.long q4), .second, .val (.long q5), .second, .val (.long v666), .second, .val (.long v667), .second, .val (.ref b668), .val (.ref b706)] [(.int (lcmpW ((own_upd (own_upd (own_upd (own_g4 q4 q5 v666 v667) v186 q1) v187 q2) v188 q3) 3) (own_f5 (3 : Int32) (3 : Int32) v186 v187 v188 q1 q2 q3 v667)))])) _
              refine XS.ifNo X786.here hx rfl (hb hby at_333) rfl ((if0 _ _).trans (teq ((lw_eq ((own_upd (own_upd (own_upd (own_g4 q4 q5 v666 v667) v186 q1) v187 q2) v188 q3) 3) (own_f5 (3 : Int32) (3 : Int32) v186 v187 v188 q1 q2 q3 v667)).mpr hc790)).2) ?_
              show Steps p.tables e below (T786.setTop (mkF m 336 #[.val (.int p0), .val (.long q1), .second, .val (.long q2), .second, .val (.long q3), .second, .val (.long q4), .second, .val (.long q5), .second, .val (.int (3 : Int32)), .val (.int v186), .val (.int v187), .val (.int v188), .val (.ref b618), .val (.ref b640), .val (.long q4), .second, .val (.long q5), .second, .val (.long v666), .second, .val (.long v667), .second, .val (.ref b668), .val (.ref b706)] [])) _
              refine XS.iconst X786.here hx rfl (hb hby at_336) ?_
              show Steps p.tables e below (T786.setTop (mkF m 337 #[.val (.int p0), .val (.long q1), .second, .val (.long q2), .second, .val (.long q3), .second, .val (.long q4), .second, .val (.long q5), .second, .val (.int (3 : Int32)), .val (.int v186), .val (.int v187), .val (.int v188), .val (.ref b618), .val (.ref b640), .val (.long q4), .second, .val (.long q5), .second, .val (.long v666), .second, .val (.long v667), .second, .val (.ref b668), .val (.ref b706)] [(.int (1 : Int32))])) _
              refine XS.goto X786.here hx rfl (pc0 := 337) (pc' := 341) rfl (hb hby at_337) (by decide) (by decide) ?_
              show Steps p.tables e below (T786.setTop (mkF m 341 #[.val (.int p0), .val (.long q1), .second, .val (.long q2), .second, .val (.long q3), .second, .val (.long q4), .second, .val (.long q5), .second, .val (.int (3 : Int32)), .val (.int v186), .val (.int v187), .val (.int v188), .val (.ref b618), .val (.ref b640), .val (.long q4), .second, .val (.long q5), .second, .val (.long v666), .second, .val (.long v667), .second, .val (.ref b668), .val (.ref b706)] [(.int (1 : Int32))])) _
              exact retN X786 hx (t := .boolean) Bd.returns (by simp) (hb hby at_341) hr
            · show own_Q0 Z p0 q1 q2 q3 q4 q5 h0 n0 _ T786.heap _
              rw [e788]
              exact ⟨rfl, N787⟩
          · exact (own_leaf0_17 p0 q1 q2 q3 q4 q5 hv185 v186 hv186 v187 hv187 v188 hv188 v666 hv666 v667 hv667 hc772 hc778 hc784 hc790).elim
        · exact (own_leaf0_18 p0 q1 q2 q3 q4 q5 hv185 v186 hv186 v187 hv187 v188 hv188 v666 hv666 v667 hv667 hc772 hc778 hc784).elim
      · exact (own_leaf0_19 p0 q1 q2 q3 q4 q5 hv185 v186 hv186 v187 hv187 v188 hv188 v666 hv666 v667 hv667 hc772 hc778).elim
    · exact (own_leaf0_20 p0 q1 q2 q3 q4 q5 hv185 v186 hv186 v187 hv187 v188 hv188 v666 hv666 v667 hv667 hc772).elim
set_option maxRecDepth 65536 in
set_option maxHeartbeats 40000000 in
theorem comes_1 {Post : Tables → Env → Array Value → State → Outcome → State → Prop} (hpost : ∀ tb e args s v u, (limb_1_1.after args s (.returned v) u = true ∧ limb_1_2.after args s (.returned v) u = true ∧ True) → FrameEnd s (.returned v) u (Jvm.fieldLocs frame_1_writes args s ++ Jvm.arrayLocs frame_1_arrays args s ++ Jvm.staticLocs frame_1_statics s) 24 128 → Post tb e args s (.returned v) u) :
    ArmFor flags0 classFile x code maxLocals ret World_1 tables_1 room_1 Calls_1 rest_1 Pre_1 Post := by
  intro l hfl _ _ p e ha hc hk s m args below hf hA hF happ hP
  obtain ⟨hcalls, hrest, hpre⟩ := hP
  obtain ⟨-, -, -, hnamed, -, -, -, hat⟩ := (Spec.applies_iff hf).mp happ
  obtain ⟨hg, hn⟩ := and_e (Cond.before_iff.mp (show (Jvm.Cond.and given_1 narrow_1).before args s = true from hpre))
  obtain ⟨gg1, gg2⟩ := and_e hg
  obtain ⟨gg3, gg4⟩ := and_e gg2
  obtain ⟨gg5, gg6⟩ := and_e gg4
  obtain ⟨gg7, gg8⟩ := and_e gg6
  obtain ⟨gg9, gg10⟩ := and_e gg8
  obtain ⟨gg11, gg12⟩ := and_e gg10
  obtain ⟨w0, w1, w2, w3, w4, w5, rfl⟩ : ∃ w0 w1 w2 w3 w4 w5 : Value, args = #[w0, w1, w2, w3, w4, w5] := by
    have hs : args.size = 6 := by simpa [Cond.value, given_1] using gg1
    obtain ⟨L⟩ := args
    match L, hs with
    | [w0, w1, w2, w3, w4, w5], _ => exact ⟨w0, w1, w2, w3, w4, w5, rfl⟩
  have hw := fun d (hd : d ∈ tables_1) => atoms_spec (ws := Jvm.Cond.code x code maxLocals ret :: tables_1) hat d (List.mem_cons_of_mem _ hd)
  have hfit : Fit s := fun {y c} hc i hi => by
    obtain ⟨ha, rfl⟩ := Array.getElem?_eq_some_iff.mp hc
    have q := List.all_eq_true.mp ((Array.all_eq_true_iff_forall_mem.mp hF) _ (Array.getElem_mem ha)) i (List.mem_range.mpr hi)
    simpa [Array.getElem?_eq_getElem hi] using q
  obtain ⟨i0, ei0⟩ := is_v gg3
  obtain rfl : w0 = (.int i0) := Option.some.inj ei0
  obtain ⟨i1, ei1⟩ := isL_v gg5
  obtain rfl : w1 = (.long i1) := Option.some.inj ei1
  obtain ⟨i2, ei2⟩ := isL_v gg7
  obtain rfl : w2 = (.long i2) := Option.some.inj ei2
  obtain ⟨i3, ei3⟩ := isL_v gg9
  obtain rfl : w3 = (.long i3) := Option.some.inj ei3
  obtain ⟨i4, ei4⟩ := isL_v gg11
  obtain rfl : w4 = (.long i4) := Option.some.inj ei4
  obtain ⟨i5, ei5⟩ := isL_v gg12
  obtain rfl : w5 = (.long i5) := Option.some.inj ei5
  obtain ⟨n, o, h1, h2, h3, _, L, rfl, ⟨rfl, N⟩, hq⟩ := own_rm0 l s _ hw tables_1 i0 i1 i2 i3 i4 i5 s.heap s.heap.size (Nat.le_refl _)  p e ha hc hk s m _ below hf ((Spec.applies_iff_loose hf).mp happ).1 ⟨rfl, State.Warmed39.refl s, rfl⟩ trivial
  refine ⟨n, _, h1, h2, h3, hpost _ _ _ _ _ _ ⟨Cond.after_iff.mpr rfl, Cond.after_iff.mpr (eq_i res_at (Term.int_eval (1)) rfl), trivial⟩ ⟨hq.1, hq.2.1, (hq.2.2.sift fun y hy => Or.inr (N y hy)).mono (by decide) (by decide)⟩⟩
theorem main_1_1 : Claimed_1_1 := comes_1 fun _ _ _ _ _ _ h hF => ⟨h.1, hF⟩
theorem main_1_2 : Claimed_1_2 := comes_1 fun _ _ _ _ _ _ h hF => ⟨h.2.1, hF⟩
end Jvm.Pilot.@@N@@
namespace Jvm.Pilot.@@N@@
open Jvm Jvm.ClassFile Sem Op Lib Jvm.Free Jvm.Stand Jvm.Pilot.@@N@@.Jvm.D
/-! MADE BY PROGRAM (witnessworld.py) out of the Statement's table words and the real class files: 12 classes; the members and pool entries that the words name. The judged class is class 1, her method 1. -/
namespace start1
open Jvm.ClassFile
def u (s : String) : CpInfo := .utf8 (stringToUtf16 s)
/-- a pool by its gaps: so many unusable entries, then the entry; so many at the end -/
def gap : Nat → List CpInfo → List CpInfo
  | 0, r => r
  | n + 1, r => .unusable :: gap n r
def poolList (es : List (Nat × CpInfo)) (last : Nat) : List CpInfo := es.foldr (fun e r => gap e.1 (e.2 :: r)) (gap last [])
def pool (es : List (Nat × CpInfo)) (last : Nat) : Array CpInfo := ⟨poolList es last⟩
def fileOf (pool : Array CpInfo) (this : Nat) (attrs : Array Attribute := #[]) (ms : Array MethodInfo := #[]) (fl : Nat := 33) (sup : Nat := 0) (ifs : Array Nat := #[]) (fds : Array FieldInfo := #[]) : ClassFile where
  minorVersion := 0
  majorVersion := 65
  constantPool := pool
  accessFlags := fl
  thisClass := this
  superClass := sup
  interfaces := ifs
  fields := fds
  methods := ms
  attributes := attrs
def plain (name : String) (sup : Option ClassId) : Class where
  name := name
  kind := .ordinary
  loader := none
  accessFlags := 33
  super := sup
  interfaces := #[]
  cf := none
  fields := #[]
  methods := #[]
  instanceTypes := #[]
  staticTypes := #[]
  resolved := #[]
  callSites := []
  init := .initialized
  statics := none
  mirror := none

def pool0 : Array CpInfo := pool [(5, u "<init>"), (0, u "()V"), (1, .class_ 10), (1, u "java/lang/Object")] 113

def k0c0 : Code := { maxStack := 0, maxLocals := 1, code := object_method_1_code, exceptionTable := #[], attributes := #[] }
def k0m0 : Method := { name := "<init>", desc := "()V", sig := { parameters := [], returnType := none }, accessFlags := 1, code := some k0c0 }
/-- java/lang/Object -/
def k0 : Class := { plain "java/lang/Object" none with
  accessFlags := 33
  interfaces := #[]
  cf := some (fileOf pool0 8 #[] #[{ accessFlags := 1, nameIndex := 5, descriptorIndex := 6, attributes := #[] }] 33 0 #[] #[])
  fields := #[]
  methods := #[k0m0]
  instanceTypes := #[]
  staticTypes := #[]
  resolved := Array.replicate 124 none
  statics := none }

def pool1 : Array CpInfo := pool [(2, .class_ 4), (1, u "java/lang/Object"), (0, u "<init>"), (0, u "()V"), (0, .long 18446744073709551615), (1, .class_ 10), (0, u "com/example/thyme/thyme/engine/Hierarchy$Restart"), (0, .methodref 9 12), (0, .nameAndType 5 13), (0, u "([I[J[I)V"), (0, .methodref 9 15), (0, .nameAndType 16 17), (0, u "write"), (0, u "([J)V"), (0, .methodref 19 20), (0, .class_ 21), (0, .nameAndType 22 23), (0, u "com/example/thyme/thyme/engine/RestartWritePinLaw"), (0, u "expect"), (0, u "(IIIIIJJJJ)J"), (2, u "law"), (0, u "(IJJJJJ)Z")] 11

def k1m0 : Method := { name := "<init>", desc := "()V", sig := { parameters := [], returnType := none }, accessFlags := 1, code := none }
def k1c1 : Code := { maxStack := 15, maxLocals := 27, code := code, exceptionTable := #[], attributes := #[] }
def k1m1 : Method := { name := "law", desc := "(IJJJJJ)Z", sig := { parameters := [.int, .long, .long, .long, .long, .long], returnType := some .boolean }, accessFlags := 9, code := some k1c1 }
def k1c2 : Code := { maxStack := 2, maxLocals := 15, code := method_3_code, exceptionTable := #[], attributes := #[] }
def k1m2 : Method := { name := "expect", desc := "(IIIIIJJJJ)J", sig := { parameters := [.int, .int, .int, .int, .int, .long, .long, .long, .long], returnType := some .long }, accessFlags := 10, code := some k1c2 }
/-- com/example/thyme/thyme/engine/RestartWritePinLaw -/
def k1 : Class := { plain "com/example/thyme/thyme/engine/RestartWritePinLaw" (some 0) with
  accessFlags := 49
  interfaces := #[]
  cf := some (fileOf pool1 19 #[] #[{ accessFlags := 1, nameIndex := 5, descriptorIndex := 6, attributes := #[] }, { accessFlags := 9, nameIndex := 26, descriptorIndex := 27, attributes := #[] }, { accessFlags := 10, nameIndex := 22, descriptorIndex := 23, attributes := #[] }] 49 2 #[] #[])
  fields := #[]
  methods := #[k1m0, k1m1, k1m2]
  instanceTypes := #[]
  staticTypes := #[]
  resolved := Array.replicate 39 none
  statics := none }

def pool2 : Array CpInfo := pool [(1, .methodref 2 3), (0, .class_ 4), (0, .nameAndType 5 6), (0, u "java/lang/Object"), (0, u "<init>"), (0, u "()V"), (0, .class_ 8), (0, u "java/lang/Record")] 13

def k2c0 : Code := { maxStack := 1, maxLocals := 1, code := jdk_30_method_1_code, exceptionTable := #[], attributes := #[] }
def k2m0 : Method := { name := "<init>", desc := "()V", sig := { parameters := [], returnType := none }, accessFlags := 4, code := some k2c0 }
/-- java/lang/Record -/
def k2 : Class := { plain "java/lang/Record" (some 0) with
  accessFlags := 1057
  interfaces := #[]
  cf := some (fileOf pool2 7 #[] #[{ accessFlags := 4, nameIndex := 5, descriptorIndex := 6, attributes := #[] }] 1057 2 #[] #[])
  fields := #[]
  methods := #[k2m0]
  instanceTypes := #[]
  staticTypes := #[]
  resolved := Array.replicate 22 none
  statics := none }

def pool3 : Array CpInfo := pool [(1, .methodref 2 3), (0, .class_ 4), (0, .nameAndType 5 6), (0, u "java/lang/Record"), (0, u "<init>"), (0, u "()V"), (0, .fieldref 8 9), (0, .class_ 10), (0, .nameAndType 11 12), (0, u "com/example/thyme/thyme/engine/Hierarchy$Restart"), (0, u "slots"), (0, u "[I"), (0, .fieldref 8 14), (0, .nameAndType 15 16), (0, u "values"), (0, u "[J"), (0, .fieldref 8 18), (0, .nameAndType 19 12), (0, u "clocks"), (12, u "([I[J[I)V"), (3, u "write"), (0, u "([J)V"), (9, .class_ 48), (0, u "com/example/thyme/thyme/engine/Hierarchy")] 21

def k3c0 : Code := { maxStack := 2, maxLocals := 4, code := prog_17_method_1_code, exceptionTable := #[], attributes := #[] }
def k3m0 : Method := { name := "<init>", desc := "([I[J[I)V", sig := { parameters := [(.array .int), (.array .long), (.array .int)], returnType := none }, accessFlags := 0, code := some k3c0 }
def k3c1 : Code := { maxStack := 4, maxLocals := 3, code := prog_17_method_2_code, exceptionTable := #[], attributes := #[] }
def k3m1 : Method := { name := "write", desc := "([J)V", sig := { parameters := [(.array .long)], returnType := none }, accessFlags := 0, code := some k3c1 }
/-- com/example/thyme/thyme/engine/Hierarchy$Restart -/
def k3 : Class := { plain "com/example/thyme/thyme/engine/Hierarchy$Restart" (some 2) with
  accessFlags := 48
  interfaces := #[]
  cf := some (fileOf pool3 8 #[.nestHost 47] #[{ accessFlags := 0, nameIndex := 5, descriptorIndex := 32, attributes := #[] }, { accessFlags := 0, nameIndex := 36, descriptorIndex := 37, attributes := #[] }] 48 2 #[] #[{ accessFlags := 18, nameIndex := 11, descriptorIndex := 12, attributes := #[] }, { accessFlags := 18, nameIndex := 15, descriptorIndex := 16, attributes := #[] }, { accessFlags := 18, nameIndex := 19, descriptorIndex := 12, attributes := #[] }])
  fields := #[{ name := "slots", type := (.array .int), accessFlags := 18, slot := 0, constantValue := 0 }, { name := "values", type := (.array .long), accessFlags := 18, slot := 1, constantValue := 0 }, { name := "clocks", type := (.array .int), accessFlags := 18, slot := 2, constantValue := 0 }]
  methods := #[k3m0, k3m1]
  instanceTypes := #[(.array .int), (.array .long), (.array .int)]
  staticTypes := #[]
  resolved := Array.replicate 70 none
  statics := none }

def pool4 : Array CpInfo := pool [(1, u "java/lang/Cloneable"), (0, .class_ 1), (0, u "java/lang/Object"), (0, .class_ 3)] 3

/-- java/lang/Cloneable -/
def k4 : Class := { plain "java/lang/Cloneable" (some 0) with
  accessFlags := 1537
  interfaces := #[]
  cf := some (fileOf pool4 2 #[] #[] 1537 4 #[] #[])
  fields := #[]
  methods := #[]
  instanceTypes := #[]
  staticTypes := #[]
  resolved := Array.replicate 8 none
  statics := none }

def pool5 : Array CpInfo := pool [(1, u "java/io/Serializable"), (0, .class_ 1), (0, u "java/lang/Object"), (0, .class_ 3)] 3

/-- java/io/Serializable -/
def k5 : Class := { plain "java/io/Serializable" (some 0) with
  accessFlags := 1537
  interfaces := #[]
  cf := some (fileOf pool5 2 #[] #[] 1537 4 #[] #[])
  fields := #[]
  methods := #[]
  instanceTypes := #[]
  staticTypes := #[]
  resolved := Array.replicate 8 none
  statics := none }

/-- the primitive byte -/
def k6 : Class := { plain "byte" none with kind := .primitive 'B', accessFlags := 0x411 }
/-- [B -/
def k7 : Class := { plain "[B" (some 0) with kind := .array 6 .byte, interfaces := #[4, 5], accessFlags := 1041 }

/-- the primitive int -/
def k8 : Class := { plain "int" none with kind := .primitive 'I', accessFlags := 0x411 }
/-- [I -/
def k9 : Class := { plain "[I" (some 0) with kind := .array 8 .int, interfaces := #[4, 5], accessFlags := 1041 }

/-- the primitive long -/
def k10 : Class := { plain "long" none with kind := .primitive 'J', accessFlags := 0x411 }
/-- [J -/
def k11 : Class := { plain "[J" (some 0) with kind := .array 10 .long, interfaces := #[4, 5], accessFlags := 1041 }

def heap : Heap := #[]
def classes : Array Class := #[k0, k1, k2, k3, k4, k5, k6, k7, k8, k9, k10, k11]
def interned : List (Array UInt16 × Addr) := []
def slotsUsed : Nat := 0
def theMethod : MethodId := ⟨1, 1⟩
def args0 : Array Value := #[.int 5, .long 6, .long 7, .long 8, .long 9, .long 10]
def aboutOver (below : List Frame) : State where
  vm := { classes := classes, interned := interned.toArray }
  heap := heap
  slotsUsed := slotsUsed
  threads := #[{ frames := .invoking theMethod args0 :: below }]
def below0 : List Frame := [.native { method := ⟨0, 0⟩, args := #[] }]
def about1 : State := aboutOver below0
def p0 : Program := .bare "" "" ""
def e0 : Env := launch0.env 0 0 0
theorem w_frames : about1.frames = Frame.invoking theMethod args0 :: below0 := rfl
set_option maxRecDepth 65536 in
theorem w_args : argsFit about1.vm theMethod args0 = true := by decide +kernel
set_option maxRecDepth 65536 in
theorem w_heap : heapFits about1 = true := by decide +kernel
set_option maxRecDepth 65536 in
theorem w_runnable : about1.curStatus? = some .runnable := by decide +kernel
set_option maxRecDepth 65536 in
theorem w_alone : about1.alone = true := by decide +kernel
set_option maxRecDepth 65536 in
theorem w_named : about1.methodNamed? x = some theMethod := by decide +kernel
set_option maxRecDepth 65536 in
theorem w_hears : about1.hears theMethod below0 = true := by decide +kernel
set_option maxRecDepth 65536 in
theorem w_ripe : about1.ripe theMethod args0 below0 = true := by decide +kernel
theorem w_running : about1.status = .running := rfl
set_option maxRecDepth 65536 in
theorem w_room : about1.hasRoom e0.platform room_1 = true :=
  launch0.hasRoom_least _ room_1 (by decide +kernel) (by decide +kernel) (by decide +kernel) (by decide +kernel) (by decide +kernel) (by decide +kernel)
theorem allAtoms_all (ts : List Jvm.Cond) (a : Array Jvm.Value) (st : Jvm.State) : (allAtoms ts).before a st = ts.all (fun c => c.before a st) := by
  induction ts with
  | nil => rfl
  | cons c t ih =>
    show (Jvm.Cond.and c (allAtoms t)).before a st = _
    rw [Jvm.Cond.before_and, ih, List.all_cons]
def words1 : List Jvm.Cond := Jvm.Cond.code x code maxLocals ret :: tables_1
/-- a 'code' word, met by the world's own term for the bytes: nothing is compared byte by byte -/
theorem code_word {y : MethodName} {bytes : ByteArray} {mx : Nat} {rt : Option FieldType} {a : Array Value} {s : State} {m : MethodId} {meth : Method} {c : Code} (h1 : s.methodNamed? y = some m) (h2 : s.vm.method? m = some meth) (h3 : meth.code = some c) (h4 : c.code = bytes)
    (h5 : (c.maxLocals == mx && c.exceptionTable.isEmpty && decide (c.maxStack ≤ mostOperands) && decide (meth.sig.returnType = rt) && !meth.locks && decide (parseMethodDescriptor y.desc = some meth.sig)) = true) : (Jvm.Cond.code y bytes mx rt).before a s = true := by
  simp only [Bool.and_eq_true, beq_iff_eq, Bool.not_eq_true', decide_eq_true_eq] at h5
  obtain ⟨⟨⟨⟨⟨g1, g2⟩, g3⟩, g4⟩, g5⟩, g6⟩ := h5
  simp [Cond.before, Cond.holds, Cond.value, h1, h2, h3, h4, g1, g2, g3, g4, g5, g6]
def isCode : Jvm.Cond → Bool
  | .code _ _ _ _ => true
  | _ => false
theorem all_split {L : List Jvm.Cond} {P : Jvm.Cond → Bool} (h1 : L.all (fun c => isCode c || P c) = true) (h2 : ∀ c ∈ L.filter isCode, P c = true) : L.all P = true := by
  refine List.all_eq_true.mpr fun c hc => ?_
  have h := List.all_eq_true.mp h1 c hc
  rcases Bool.eq_false_or_eq_true (isCode c) with hi | hi
  · exact h2 c (List.mem_filter.mpr ⟨hc, hi⟩)
  · simpa [hi] using h
set_option maxRecDepth 65536 in
theorem w_c0 : (Jvm.Cond.code x code maxLocals ret).before args0 about1 = true := code_word (m := ⟨1, 1⟩) (meth := k1m1) (c := k1c1) (by decide +kernel) rfl rfl rfl (by decide +kernel)
set_option maxRecDepth 65536 in
theorem w_c1 : (Jvm.Cond.code ({ cls := "com/example/thyme/thyme/engine/Hierarchy$Restart", name := "<init>", desc := "([I[J[I)V" } : Jvm.MethodName) prog_17_method_1_code (4 : Nat) (Option.none : Option Jvm.ClassFile.FieldType)).before args0 about1 = true := code_word (m := ⟨3, 0⟩) (meth := k3m0) (c := k3c0) (by decide +kernel) rfl rfl rfl (by decide +kernel)
set_option maxRecDepth 65536 in
theorem w_c2 : (Jvm.Cond.code ({ cls := "java/lang/Record", name := "<init>", desc := "()V" } : Jvm.MethodName) jdk_30_method_1_code (1 : Nat) (Option.none : Option Jvm.ClassFile.FieldType)).before args0 about1 = true := code_word (m := ⟨2, 0⟩) (meth := k2m0) (c := k2c0) (by decide +kernel) rfl rfl rfl (by decide +kernel)
set_option maxRecDepth 65536 in
theorem w_c3 : (Jvm.Cond.code ({ cls := "java/lang/Object", name := "<init>", desc := "()V" } : Jvm.MethodName) object_method_1_code (1 : Nat) (Option.none : Option Jvm.ClassFile.FieldType)).before args0 about1 = true := code_word (m := ⟨0, 0⟩) (meth := k0m0) (c := k0c0) (by decide +kernel) rfl rfl rfl (by decide +kernel)
set_option maxRecDepth 65536 in
theorem w_c4 : (Jvm.Cond.code ({ cls := "com/example/thyme/thyme/engine/Hierarchy$Restart", name := "write", desc := "([J)V" } : Jvm.MethodName) prog_17_method_2_code (3 : Nat) (Option.none : Option Jvm.ClassFile.FieldType)).before args0 about1 = true := code_word (m := ⟨3, 1⟩) (meth := k3m1) (c := k3c1) (by decide +kernel) rfl rfl rfl (by decide +kernel)
set_option maxRecDepth 65536 in
theorem w_c5 : (Jvm.Cond.code ({ cls := "com/example/thyme/thyme/engine/RestartWritePinLaw", name := "expect", desc := "(IIIIIJJJJ)J" } : Jvm.MethodName) method_3_code (15 : Nat) (Option.some Jvm.ClassFile.FieldType.long)).before args0 about1 = true := code_word (m := ⟨1, 2⟩) (meth := k1m2) (c := k1c2) (by decide +kernel) rfl rfl rfl (by decide +kernel)
def codes1 : List Jvm.Cond := [Jvm.Cond.code x code maxLocals ret, Jvm.Cond.code ({ cls := "com/example/thyme/thyme/engine/Hierarchy$Restart", name := "<init>", desc := "([I[J[I)V" } : Jvm.MethodName) prog_17_method_1_code (4 : Nat) (Option.none : Option Jvm.ClassFile.FieldType), Jvm.Cond.code ({ cls := "java/lang/Record", name := "<init>", desc := "()V" } : Jvm.MethodName) jdk_30_method_1_code (1 : Nat) (Option.none : Option Jvm.ClassFile.FieldType), Jvm.Cond.code ({ cls := "java/lang/Object", name := "<init>", desc := "()V" } : Jvm.MethodName) object_method_1_code (1 : Nat) (Option.none : Option Jvm.ClassFile.FieldType), Jvm.Cond.code ({ cls := "com/example/thyme/thyme/engine/Hierarchy$Restart", name := "write", desc := "([J)V" } : Jvm.MethodName) prog_17_method_2_code (3 : Nat) (Option.none : Option Jvm.ClassFile.FieldType), Jvm.Cond.code ({ cls := "com/example/thyme/thyme/engine/RestartWritePinLaw", name := "expect", desc := "(IIIIIJJJJ)J" } : Jvm.MethodName) method_3_code (15 : Nat) (Option.some Jvm.ClassFile.FieldType.long)]
set_option maxRecDepth 65536 in
theorem codes_eq : words1.filter isCode = codes1 := rfl
theorem w_codes : ∀ c ∈ words1.filter isCode, c.before args0 about1 = true := by
  rw [codes_eq]
  intro c hc
  simp only [codes1, List.mem_cons, List.not_mem_nil, or_false] at hc
  rcases hc with rfl | rfl | rfl | rfl | rfl | rfl
  · exact w_c0
  · exact w_c1
  · exact w_c2
  · exact w_c3
  · exact w_c4
  · exact w_c5
set_option maxRecDepth 65536 in
theorem w_t1 : (words1.take 24).all (fun c => isCode c || c.before args0 about1) = true := by decide +kernel
set_option maxRecDepth 65536 in
theorem w_t2 : (words1.drop 24).all (fun c => isCode c || c.before args0 about1) = true := by decide +kernel
theorem w_tables : (allAtoms (Jvm.Cond.code x code maxLocals ret :: tables_1)).before args0 about1 = true := by
  rw [allAtoms_all]
  show words1.all (fun c => c.before args0 about1) = true
  refine all_split ?_ w_codes
  rw [← List.take_append_drop 24 words1, List.all_append, w_t1, w_t2]
  rfl
set_option maxRecDepth 65536 in
theorem w_case : (Jvm.Cond.and given_1 narrow_1).before args0 about1 = true := by decide +kernel
theorem w_applies : (headSpec (Jvm.Cond.code x code maxLocals ret :: tables_1) room_1).applies x e0.platform about1 = true :=
  (Spec.applies_iff w_frames).mpr ⟨w_running, w_runnable, w_alone, w_named, w_hears, w_ripe, w_room, w_tables⟩
theorem atStart : AtStart classFile x code maxLocals ret World_1 tables_1 room_1 Calls_1 rest_1 Pre_1 launch0 p0 e0 about1 theMethod args0 below0 :=
  ⟨lists_1, trivial, launch0.admits_env _ _ _, launch0.least_env, fairChoices_fair.cas, fairChoices_fair.clock, w_frames, w_args, w_heap, w_applies, trivial, trivial, w_case⟩
end start1
theorem witness_1 : WitnessClaimed_1 := ⟨start1.p0, start1.e0, start1.about1, start1.theMethod, start1.args0, start1.below0, start1.atStart⟩
end Jvm.Pilot.@@N@@
