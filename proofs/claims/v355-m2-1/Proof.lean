import JvmDerived
import JvmDerived.Pilot.@@N@@Statement
import JvmDerived.Pilot.@@N@@Code
set_option linter.unusedVariables false
set_option linter.unusedSimpArgs false
namespace Jvm.RoadKit
open Sem ClassFile Op Lib Jvm.Stand Jvm.Free Jvm.LawKit
section New
variable {p : Program} {l : Launch} {e : Env} {R : Room} {s : State} {m : MethodId} {args : Array Value} {below : List Frame} {meth : Method} {c : Code} {T : State} {locs : List Loc} {cells slots : Nat}
theorem retI (X : Stand p l e R s m args below meth c T locs cells slots) (hx : p.tables.exec = Jvm.exec) {pc : Nat} {Ls : Array Slot} {z : Int32} {rest : List Value} (hret : meth.sig.returnType = some .int) (hd : decode c.code pc = .ok (.ireturn, 1)) {fs : List Frame}
    (hl : ∀ (f : JFrame) (acts : List Action), f.method = m → f.locked = none → f.entered = [] → (doReturn e (T.setTop f) acts (some (.int z))).1 = T.setFrames fs) : Steps p.tables e below (T.setTop (mkF m pc Ls (.int z :: rest))) (T.setFrames fs) := by
  have hm' : T.vm.method? m = some meth := X.method'
  have hn : narrow .int (.int z) = .int z := rfl
  show Steps p.tables e below (T.setTop { method := m, pc := pc, locals := Ls, stack := _ :: rest, locked := none }) _
  jvm_step X.here [X.here.top, hx, hd, hm', hret, hn]
  first | (intro acts; rw [hl _ acts rfl rfl rfl]) | rw [hl _ _ rfl rfl rfl]
  exact Steps.refl _
end New
end Jvm.RoadKit
namespace Jvm.Pilot.@@N@@
open Jvm Jvm.ClassFile Sem Op Lib Jvm.Free Jvm.Stand Jvm.LawKit Jvm.RoadKit Bundle Jvm.Pilot.@@N@@.Jvm.D
theorem own_xne (x c : Int64) (h : ¬ c = 0) : ¬ ((x ^^^ c) = x) := fun q => h (by
  have e : x ^^^ (x ^^^ c) = x ^^^ x := congrArg (x ^^^ ·) q
  rwa [← Int64.xor_assoc, Int64.xor_self, Int64.zero_xor] at e)
theorem own_d2_0 : decode jdk_30_method_1_code 0 = .ok (.aload_n 0, 1) := by decide +kernel
theorem own_d2_1 : decode jdk_30_method_1_code 1 = .ok (.invokespecial 1, 3) := by decide +kernel
theorem own_d2_4 : decode jdk_30_method_1_code 4 = .ok (.return_, 1) := by decide +kernel
theorem own_pn3 : plainName "java/lang/Record" = true := by first | (simp [plainName, overriddenIn]; done) | decide +kernel
theorem own_ef2 (m : MethodId) (a0 : Addr) : entryFrame m #[(.ref a0)] 1 = mkF m 0 #[.val (.ref a0)] [] := by first | (simp [entryFrame, mkF, argsToLocals, Value.category]; done) | rfl
def own_Q2 (Z : State) (a0 : Addr) (h0 : Heap) (n0 : Nat) (v : Option Value) (h : Heap) (L : List Loc) : Prop := v = none ∧ Fr n0 L ∧ h = h0
set_option maxRecDepth 65536 in
set_option maxHeartbeats 40000000 in
theorem own_rm2 (l : Launch) (Z : State) (av : Array Value) (hw : ∀ d ∈ tables_1, d.before av Z = true) (ws : List Jvm.Cond) (a0 : Addr) (h0 : Heap) (n0 : Nat) (Z0 : n0 ≤ h0.size) :
    MetFree l (⟨"java/lang/Record", "<init>", "()V"⟩ : MethodName) (head1 (Jvm.Cond.code (⟨"java/lang/Record", "<init>", "()V"⟩ : MethodName) jdk_30_method_1_code 1 none :: ws) ({ frames := 1, cells := 0, slots := 0, locals := 12 } : Room)) (fun a U => a = #[(.ref a0)] ∧ Z.Warmed39 U.vm ∧ U.heap = h0) (fun _ _ _ _ _ => True) (fun _ U o U' => ∃ v L, o = .returned v ∧ own_Q2 Z a0 h0 n0 v U'.heap L ∧ FrameEnd U o U' L ({ frames := 1, cells := 0, slots := 0, locals := 12 } : Room).cells ({ frames := 1, cells := 0, slots := 0, locals := 12 } : Room).slots) := by
  refine MetFree.of_bodySF (plainFor_of_name own_pn3) hisR ?_
  intro p e s m args below meth c s₁ Bd hml0 hP hK
  obtain ⟨rfl, hZ, hh⟩ := hP
  have hx := Bd.exec
  have hby := Bd.bytes
  have hml : c.maxLocals = 1 := hml0
  have hown : s.vm.findClass "java/lang/Record" = some m.cls := findClass_of_methodNamed Bd.named
  have hnm := (name_of_methodNamed Bd.named Bd.method).1
  have X0 : Stand p l e ({ frames := 1, cells := 0, slots := 0, locals := 12 } : Room) s m #[(.ref a0)] below meth c s₁ [] 0 0 := Stand.of_body Bd
  have e0 : s₁.heap = h0 := by rw [← hh, Bd.state]; rfl
  have N0 := Fr.nil n0
  have pre0 : ∀ t, Steps p.tables e below (s₁.setTop (mkF m 0 #[.val (.ref a0)] [])) t → Steps p.tables e below (s₁.setTop (entryFrame m #[(.ref a0)] 1)) t := fun t k => castTop (own_ef2 m a0) k
  obtain ⟨T1, X1, e1, st1⟩ := initO X0 hx hZ hown (hw _ (List.mem_of_getElem? (i := 12) rfl)) (hw _ (List.mem_of_getElem? (i := 13) rfl)) (hw _ (List.mem_of_getElem? (i := 14) rfl)) e0 (g := (mkF m 1 #[.val (.ref a0)] [(.ref a0)])) rfl (by rw [hml]; rfl) rfl (hb hby own_d2_1) (by decide) (W := 0) (by show 2 * 0 + _ ≤ _; exact Nat.le_of_eq rfl) (by decide)
  obtain ⟨fs, hr, hrun, hended, hW, hsame⟩ := X1.leave (v := none) (fun _ => rfl)
  refine ⟨_, _, pre0 _ ?_, hrun, hended, _, _, rfl, ?_, ⟨_, rfl⟩, hW, hsame.mono (by decide) (by decide)⟩
  · show Steps p.tables e below (s₁.setTop (mkF m 0 #[.val (.ref a0)] [])) _
    refine XS.aloadN X0.here hx rfl (hb hby own_d2_0) rfl rfl ?_
    show Steps p.tables e below (s₁.setTop (mkF m 1 #[.val (.ref a0)] [(.ref a0)])) _
    refine st1 _ ?_
    show Steps p.tables e below (T1.setTop (mkF m 4 #[.val (.ref a0)] [])) _
    exact X1.returnOut hx Bd.returns (hb hby own_d2_4) hr
  · show own_Q2 Z a0 h0 n0 _ T1.heap _
    rw [e1]
    exact ⟨rfl, N0, rfl⟩
theorem own_d1_0 : decode prog_72_method_1_code 0 = .ok (.aload_n 0, 1) := by decide +kernel
theorem own_pd0 : parseMethodDescriptor "()V" = some ⟨[], none⟩ := by decide +kernel
theorem own_d1_1 : decode prog_72_method_1_code 1 = .ok (.invokespecial 1, 3) := by decide +kernel
theorem own_d1_4 : decode prog_72_method_1_code 4 = .ok (.aload_n 0, 1) := by decide +kernel
theorem own_d1_5 : decode prog_72_method_1_code 5 = .ok (.iload_n 1, 1) := by decide +kernel
theorem own_d1_6 : decode prog_72_method_1_code 6 = .ok (.putfield 7, 3) := by decide +kernel
theorem own_d1_9 : decode prog_72_method_1_code 9 = .ok (.aload_n 0, 1) := by decide +kernel
theorem own_d1_10 : decode prog_72_method_1_code 10 = .ok (.iload_n 2, 1) := by decide +kernel
theorem own_d1_11 : decode prog_72_method_1_code 11 = .ok (.putfield 13, 3) := by decide +kernel
theorem own_d1_14 : decode prog_72_method_1_code 14 = .ok (.return_, 1) := by decide +kernel
theorem own_pn13 : plainName "com/example/thyme/thyme/lang/Expression$InLocation" = true := by first | (simp [plainName, overriddenIn]; done) | decide +kernel
theorem own_ef1 (m : MethodId) (a0 : Addr) (p1 : Int32) (p2 : Int32) : entryFrame m #[(.ref a0), (.int p1), (.int p2)] 3 = mkF m 0 #[.val (.ref a0), .val (.int p1), .val (.int p2)] [] := by first | (simp [entryFrame, mkF, argsToLocals, Value.category]; done) | rfl
def own_Q1 (Z : State) (a0 : Addr) (p1 : Int32) (p2 : Int32) (h0 : Heap) (n0 : Nat) (v : Option Value) (h : Heap) (L : List Loc) : Prop := v = none ∧ Fr n0 L ∧ Keep h0 h [a0] ∧ (Exa Z h a0 "com/example/thyme/thyme/lang/Expression$InLocation") ∧ (Fld Z h a0 "com/example/thyme/thyme/lang/Expression$InLocation" "slot" "I" (.int p1)) ∧ (Fld Z h a0 "com/example/thyme/thyme/lang/Expression$InLocation" "location" "I" (.int p2))
set_option maxRecDepth 65536 in
set_option maxHeartbeats 40000000 in
theorem own_rm1 (l : Launch) (Z : State) (av : Array Value) (hw : ∀ d ∈ tables_1, d.before av Z = true) (ws : List Jvm.Cond) (a0 : Addr) (p1 : Int32) (p2 : Int32) (h0 : Heap) (n0 : Nat) (Z0 : n0 ≤ h0.size) (pr0 : Exa Z h0 a0 "com/example/thyme/thyme/lang/Expression$InLocation") (pr1 : Fld Z h0 a0 "com/example/thyme/thyme/lang/Expression$InLocation" "slot" "I" (.int (0 : Int32))) (pr2 : Fld Z h0 a0 "com/example/thyme/thyme/lang/Expression$InLocation" "location" "I" (.int (0 : Int32))) (g_a0 : n0 ≤ a0) :
    MetFree l (⟨"com/example/thyme/thyme/lang/Expression$InLocation", "<init>", "(II)V"⟩ : MethodName) (head1 (Jvm.Cond.code (⟨"com/example/thyme/thyme/lang/Expression$InLocation", "<init>", "(II)V"⟩ : MethodName) prog_72_method_1_code 3 none :: ws) ({ frames := 2, cells := 0, slots := 0, locals := 24 } : Room)) (fun a U => a = #[(.ref a0), (.int p1), (.int p2)] ∧ Z.Warmed39 U.vm ∧ U.heap = h0) (fun _ _ _ _ _ => True) (fun _ U o U' => ∃ v L, o = .returned v ∧ own_Q1 Z a0 p1 p2 h0 n0 v U'.heap L ∧ FrameEnd U o U' L ({ frames := 2, cells := 0, slots := 0, locals := 24 } : Room).cells ({ frames := 2, cells := 0, slots := 0, locals := 24 } : Room).slots) := by
  refine MetFree.of_bodySF (plainFor_of_name own_pn13) hisR ?_
  intro p e s m args below meth c s₁ Bd hml0 hP hK
  obtain ⟨rfl, hZ, hh⟩ := hP
  have hx := Bd.exec
  have hby := Bd.bytes
  have hml : c.maxLocals = 3 := hml0
  have hown : s.vm.findClass "com/example/thyme/thyme/lang/Expression$InLocation" = some m.cls := findClass_of_methodNamed Bd.named
  have hnm := (name_of_methodNamed Bd.named Bd.method).1
  have X0 : Stand p l e ({ frames := 2, cells := 0, slots := 0, locals := 24 } : Room) s m #[(.ref a0), (.int p1), (.int p2)] below meth c s₁ [] 0 0 := Stand.of_body Bd
  have e0 : s₁.heap = h0 := by rw [← hh, Bd.state]; rfl
  have N0 := Fr.nil n0
  have pre0 : ∀ t, Steps p.tables e below (s₁.setTop (mkF m 0 #[.val (.ref a0), .val (.int p1), .val (.int p2)] [])) t → Steps p.tables e below (s₁.setTop (entryFrame m #[(.ref a0), (.int p1), (.int p2)] 3)) t := fun t k => castTop (own_ef1 m a0 p1 p2) k
  obtain ⟨_, _, ⟨T2, L2, k2, n2⟩, -, X2, ⟨Lc2, hQ2, l2, y2, z2⟩, st2⟩ := X0.specialBack hx (y := (⟨"java/lang/Record", "<init>", "()V"⟩ : MethodName)) rfl hown (mvT hZ (hw _ (List.mem_of_getElem? (i := 7) rfl))) (mvT hZ (hw _ (List.mem_of_getElem? (i := 8) rfl))) (mvT hZ (hw _ (List.mem_of_getElem? (i := 11) rfl))) (by decide) (backOf (W := 0) (own_rm2 l Z av hw [] a0 h0 n0 Z0 ) hZ (hw _ (List.mem_of_getElem? (i := 11) rfl)) (hw _ (List.mem_of_getElem? (i := 10) rfl)) (by decide) (by decide)) (g := (mkF m 1 #[.val (.ref a0), .val (.int p1), .val (.int p2)] [(.ref a0)])) rfl (by rw [hml]; rfl) (Steps.refl _) (a := a0) (argsL := []) (rest := []) (lenOf own_pd0 rfl) rfl (by show 2 * 0 + _ ≤ _; exact Nat.le_of_eq rfl) (hb hby own_d1_1) (fun _ _ => ⟨rfl, e0, (by decide : 0 + 0 ≤ _), (by decide : 0 + 0 ≤ _)⟩)
  dsimp only [Pt.U, Pt.locs, Pt.cells, Pt.slots] at X2 l2 y2 z2 st2 hQ2
  subst l2 y2 z2
  obtain ⟨rfl, N2q, e4⟩ := hQ2
  have N3 := Fr.app N0 N2q
  obtain ⟨T5, h5, X5, e5, W5, st5⟩ := putF X2 hx hZ hown (host := "") (Or.inl (hw _ (List.mem_of_getElem? (i := 15) rfl))) Via.refl e4 pr1 pr0 (Or.inr ⟨(hw _ (List.mem_of_getElem? (i := 16) rfl)), rfl, hnm⟩) (hw _ (List.mem_of_getElem? (i := 2) rfl)) (ty := .int) (by decide) rfl rfl (g := (mkF m 6 #[.val (.ref a0), .val (.int p1), .val (.int p2)] [(.int p1), (.ref a0)])) rfl rfl (hb hby own_d1_6)
  have f6 := pr0.wr W5
  have f7 := pr2.other W5 (Or.inr (slot_ne (Or.inr (hw _ (List.mem_of_getElem? (i := 18) rfl))) (Or.inr (hw _ (List.mem_of_getElem? (i := 16) rfl))) (by decide) (t := .int) (t' := .int) (by decide) (by decide)))
  have K8 : Keep h0 h5 [a0] := (Keep.refl h0 [a0]).wr W5 (Or.inl (List.mem_of_getElem? (i := 0) rfl))
  have z9 : n0 ≤ h5.size := Nat.le_trans Z0 (Keep.of_wr W5).1
  have N10 := Fr.snoc X5 N3 g_a0
  have f11 : Fld Z h5 a0 "com/example/thyme/thyme/lang/Expression$InLocation" "slot" "I" (.int p1) := pr1.same W5
  obtain ⟨T12, h12, X12, e12, W12, st12⟩ := putF X5 hx hZ hown (host := "") (Or.inl (hw _ (List.mem_of_getElem? (i := 17) rfl))) Via.refl e5 f7 f6 (Or.inr ⟨(hw _ (List.mem_of_getElem? (i := 18) rfl)), rfl, hnm⟩) (hw _ (List.mem_of_getElem? (i := 2) rfl)) (ty := .int) (by decide) rfl rfl (g := (mkF m 11 #[.val (.ref a0), .val (.int p1), .val (.int p2)] [(.int p2), (.ref a0)])) rfl rfl (hb hby own_d1_11)
  have f13 := f6.wr W12
  have f14 := f11.other W12 (Or.inr (slot_ne (Or.inr (hw _ (List.mem_of_getElem? (i := 16) rfl))) (Or.inr (hw _ (List.mem_of_getElem? (i := 18) rfl))) (by decide) (t := .int) (t' := .int) (by decide) (by decide)))
  have K15 : Keep h0 h12 [a0] := K8.wr W12 (Or.inl (List.mem_of_getElem? (i := 0) rfl))
  have z16 : n0 ≤ h12.size := Nat.le_trans z9 (Keep.of_wr W12).1
  have N17 := Fr.snoc X12 N10 g_a0
  have f18 : Fld Z h12 a0 "com/example/thyme/thyme/lang/Expression$InLocation" "location" "I" (.int p2) := f7.same W12
  obtain ⟨fs, hr, hrun, hended, hW, hsame⟩ := X12.leave (v := none) (fun _ => rfl)
  refine ⟨_, _, pre0 _ ?_, hrun, hended, _, _, rfl, ?_, ⟨_, rfl⟩, hW, hsame.mono (by decide) (by decide)⟩
  · show Steps p.tables e below (s₁.setTop (mkF m 0 #[.val (.ref a0), .val (.int p1), .val (.int p2)] [])) _
    refine XS.aloadN X0.here hx rfl (hb hby own_d1_0) rfl rfl ?_
    show Steps p.tables e below (s₁.setTop (mkF m 1 #[.val (.ref a0), .val (.int p1), .val (.int p2)] [(.ref a0)])) _
    refine st2.trans ?_
    show Steps p.tables e below (T2.setTop (mkF m 4 #[.val (.ref a0), .val (.int p1), .val (.int p2)] [])) _
    refine XS.aloadN X2.here hx rfl (hb hby own_d1_4) rfl rfl ?_
    show Steps p.tables e below (T2.setTop (mkF m 5 #[.val (.ref a0), .val (.int p1), .val (.int p2)] [(.ref a0)])) _
    refine XS.iloadN X2.here hx rfl (hb hby own_d1_5) rfl ?_
    show Steps p.tables e below (T2.setTop (mkF m 6 #[.val (.ref a0), .val (.int p1), .val (.int p2)] [(.int p1), (.ref a0)])) _
    refine st5 _ ?_
    show Steps p.tables e below (T5.setTop (mkF m 9 #[.val (.ref a0), .val (.int p1), .val (.int p2)] [])) _
    refine XS.aloadN X5.here hx rfl (hb hby own_d1_9) rfl rfl ?_
    show Steps p.tables e below (T5.setTop (mkF m 10 #[.val (.ref a0), .val (.int p1), .val (.int p2)] [(.ref a0)])) _
    refine XS.iloadN X5.here hx rfl (hb hby own_d1_10) rfl ?_
    show Steps p.tables e below (T5.setTop (mkF m 11 #[.val (.ref a0), .val (.int p1), .val (.int p2)] [(.int p2), (.ref a0)])) _
    refine st12 _ ?_
    show Steps p.tables e below (T12.setTop (mkF m 14 #[.val (.ref a0), .val (.int p1), .val (.int p2)] [])) _
    exact X12.returnOut hx Bd.returns (hb hby own_d1_14) hr
  · show own_Q1 Z a0 p1 p2 h0 n0 _ T12.heap _
    rw [e12]
    exact ⟨rfl, N17, K15, f13, f14, f18⟩
theorem own_d4_0 : decode prog_72_method_3_code 0 = .ok (.aload_n 1, 1) := by decide +kernel
theorem own_d4_1 : decode prog_72_method_3_code 1 = .ok (.aload_n 0, 1) := by decide +kernel
theorem own_d4_2 : decode prog_72_method_3_code 2 = .ok (.getfield 7, 3) := by decide +kernel
theorem own_d4_5 : decode prog_72_method_3_code 5 = .ok (.laload, 1) := by decide +kernel
theorem own_d4_6 : decode prog_72_method_3_code 6 = .ok (.aload_n 0, 1) := by decide +kernel
theorem own_d4_7 : decode prog_72_method_3_code 7 = .ok (.getfield 13, 3) := by decide +kernel
theorem own_d4_10 : decode prog_72_method_3_code 10 = .ok (.i2l, 1) := by decide +kernel
theorem own_d4_11 : decode prog_72_method_3_code 11 = .ok (.lcmp, 1) := by decide +kernel
theorem own_d4_12 : decode prog_72_method_3_code 12 = .ok (.ifCond .ne 7, 3) := by decide +kernel
theorem own_d4_15 : decode prog_72_method_3_code 15 = .ok (.lconst 1, 1) := by decide +kernel
theorem own_d4_16 : decode prog_72_method_3_code 16 = .ok (.goto 4, 3) := by decide +kernel
theorem own_d4_20 : decode prog_72_method_3_code 20 = .ok (.lreturn, 1) := by decide +kernel
theorem own_d4_19 : decode prog_72_method_3_code 19 = .ok (.lconst 0, 1) := by decide +kernel
def own_f4 (w : Int64) (lc : Int32) : Int64 := if w = (lc.toInt64) then (1 : Int64) else (0 : Int64)
theorem own_ef4 (m : MethodId) (a0 : Addr) (a1 : Addr) : entryFrame m #[(.ref a0), (.ref a1)] 2 = mkF m 0 #[.val (.ref a0), .val (.ref a1)] [] := by first | (simp [entryFrame, mkF, argsToLocals, Value.category]; done) | rfl
def own_Q4 (Z : State) (a0 : Addr) (a1 : Addr) (sl : Int32) (lc : Int32) (kk : ClassId) (nn : Int32) (vs : List Value) (dv : Value) (w : Int64) (h0 : Heap) (n0 : Nat) (v : Option Value) (h : Heap) (L : List Loc) : Prop := v = some (.long (own_f4 w lc)) ∧ Fr n0 L ∧ h = h0
set_option maxRecDepth 65536 in
set_option maxHeartbeats 40000000 in
theorem own_rm4 (l : Launch) (Z : State) (av : Array Value) (hw : ∀ d ∈ tables_1, d.before av Z = true) (ws : List Jvm.Cond) (a0 : Addr) (a1 : Addr) (sl : Int32) (lc : Int32) (kk : ClassId) (nn : Int32) (vs : List Value) (dv : Value) (w : Int64) (h0 : Heap) (n0 : Nat) (Z0 : n0 ≤ h0.size) (pr0 : Fld Z h0 a0 "com/example/thyme/thyme/lang/Expression$InLocation" "slot" "I" (.int sl)) (pr1 : Fld Z h0 a0 "com/example/thyme/thyme/lang/Expression$InLocation" "location" "I" (.int lc)) (pr2 : Arv Z h0 a1 kk .long nn vs dv) (hj : ¬ sl < 0 ∧ sl < nn) (hg : vs.getD (sl).toNatClampNeg dv = (.long w)) :
    MetFree l (⟨"com/example/thyme/thyme/lang/Expression$InLocation", "evaluate", "([J)J"⟩ : MethodName) (head1 (Jvm.Cond.code (⟨"com/example/thyme/thyme/lang/Expression$InLocation", "evaluate", "([J)J"⟩ : MethodName) prog_72_method_3_code 2 (some .long) :: ws) ({ frames := 0, cells := 0, slots := 0, locals := 0 } : Room)) (fun a U => a = #[(.ref a0), (.ref a1)] ∧ Z.Warmed39 U.vm ∧ U.heap = h0) (fun _ _ _ _ _ => True) (fun _ U o U' => ∃ v L, o = .returned v ∧ own_Q4 Z a0 a1 sl lc kk nn vs dv w h0 n0 v U'.heap L ∧ FrameEnd U o U' L ({ frames := 0, cells := 0, slots := 0, locals := 0 } : Room).cells ({ frames := 0, cells := 0, slots := 0, locals := 0 } : Room).slots) := by
  refine MetFree.of_bodySF (plainFor_of_name own_pn13) hisR ?_
  intro p e s m args below meth c s₁ Bd hml0 hP hK
  obtain ⟨rfl, hZ, hh⟩ := hP
  have hx := Bd.exec
  have hby := Bd.bytes
  have hml : c.maxLocals = 2 := hml0
  have hown : s.vm.findClass "com/example/thyme/thyme/lang/Expression$InLocation" = some m.cls := findClass_of_methodNamed Bd.named
  have hnm := (name_of_methodNamed Bd.named Bd.method).1
  have X0 : Stand p l e ({ frames := 0, cells := 0, slots := 0, locals := 0 } : Room) s m #[(.ref a0), (.ref a1)] below meth c s₁ [] 0 0 := Stand.of_body Bd
  have e0 : s₁.heap = h0 := by rw [← hh, Bd.state]; rfl
  have N0 := Fr.nil n0
  have pre0 : ∀ t, Steps p.tables e below (s₁.setTop (mkF m 0 #[.val (.ref a0), .val (.ref a1)] [])) t → Steps p.tables e below (s₁.setTop (entryFrame m #[(.ref a0), (.ref a1)] 2)) t := fun t k => castTop (own_ef4 m a0 a1) k
  obtain ⟨T19, X19, e19, st19⟩ := getF X0 hx hZ hown (host := "") (Or.inl (hw _ (List.mem_of_getElem? (i := 15) rfl))) Via.refl e0 pr0 (g := (mkF m 2 #[.val (.ref a0), .val (.ref a1)] [(.ref a0), (.ref a1)])) rfl rfl (hb hby own_d4_2)
  obtain ⟨cl20, Ar20, q20, S20, M20, H20, G20⟩ := id pr2
  have hin20 : ¬ (sl < 0 ∨ cl20.slots.size ≤ (sl).toNatClampNeg) := inb_of S20 hj
  have hat20 : cl20.slots[(sl).toNatClampNeg]? = some (.long w) := H20.at hin20 hg
  obtain ⟨T21, X21, e21, st21⟩ := getF X19 hx hZ hown (host := "") (Or.inl (hw _ (List.mem_of_getElem? (i := 17) rfl))) Via.refl e19 pr1 (g := (mkF m 7 #[.val (.ref a0), .val (.ref a1)] [(.ref a0), (.long w)])) rfl rfl (hb hby own_d4_7)
  have pre22 : ∀ t, Steps p.tables e below (T21.setTop (mkF m 12 #[.val (.ref a0), .val (.ref a1)] [(.int (lcmpW w (lc.toInt64)))])) t → Steps p.tables e below (s₁.setTop (entryFrame m #[(.ref a0), (.ref a1)] 2)) t := fun t kk => pre0 t (by
    show Steps p.tables e below (s₁.setTop (mkF m 0 #[.val (.ref a0), .val (.ref a1)] [])) _
    refine XS.aloadN X0.here hx rfl (hb hby own_d4_0) rfl rfl ?_
    show Steps p.tables e below (s₁.setTop (mkF m 1 #[.val (.ref a0), .val (.ref a1)] [(.ref a1)])) _
    refine XS.aloadN X0.here hx rfl (hb hby own_d4_1) rfl rfl ?_
    show Steps p.tables e below (s₁.setTop (mkF m 2 #[.val (.ref a0), .val (.ref a1)] [(.ref a0), (.ref a1)])) _
    refine st19 _ ?_
    show Steps p.tables e below (T19.setTop (mkF m 5 #[.val (.ref a0), .val (.ref a1)] [(.int sl), (.ref a1)])) _
    refine X19.laload hx (j := sl) (v := (.long w)) (by rw [e19]; exact Ar20.1) (State.isArrayOf_alike hZ.alike Ar20.2.1) Ar20.2.2 hin20 hat20 (g := (mkF m 5 #[.val (.ref a0), .val (.ref a1)] [(.int sl), (.ref a1)])) rfl rfl (hb hby own_d4_5) _ ?_
    show Steps p.tables e below (T19.setTop (mkF m 6 #[.val (.ref a0), .val (.ref a1)] [(.long w)])) _
    refine XS.aloadN X19.here hx rfl (hb hby own_d4_6) rfl rfl ?_
    show Steps p.tables e below (T19.setTop (mkF m 7 #[.val (.ref a0), .val (.ref a1)] [(.ref a0), (.long w)])) _
    refine st21 _ ?_
    show Steps p.tables e below (T21.setTop (mkF m 10 #[.val (.ref a0), .val (.ref a1)] [(.int lc), (.long w)])) _
    refine XS.i2l X21.here hx rfl (hb hby own_d4_10) rfl ?_
    show Steps p.tables e below (T21.setTop (mkF m 11 #[.val (.ref a0), .val (.ref a1)] [(.long (lc.toInt64)), (.long w)])) _
    refine XS.lcmp X21.here hx rfl (hb hby own_d4_11) rfl ?_
    show Steps p.tables e below (T21.setTop (mkF m 12 #[.val (.ref a0), .val (.ref a1)] [(.int (lcmpW w (lc.toInt64)))])) _
    exact kk)
  by_cases hc23 : w = (lc.toInt64)
  · obtain ⟨fs, hr, hrun, hended, hW, hsame⟩ := X21.leave (v := some (.long (1 : Int64))) (fun h => by rw [Bd.returns] at h; cases h)
    refine ⟨_, _, pre22 _ ?_, hrun, hended, _, _, rfl, ?_, ⟨_, rfl⟩, hW, hsame.mono (by decide) (by decide)⟩
    · show Steps p.tables e below (T21.setTop (mkF m 12 #[.val (.ref a0), .val (.ref a1)] [(.int (lcmpW w (lc.toInt64)))])) _
      refine XS.ifNo X21.here hx rfl (hb hby own_d4_12) rfl ((if0 _ _).trans (teq ((lw_eq w (lc.toInt64)).mpr hc23)).2) ?_
      show Steps p.tables e below (T21.setTop (mkF m 15 #[.val (.ref a0), .val (.ref a1)] [])) _
      refine XS.lconst X21.here hx rfl (hb hby own_d4_15) ?_
      show Steps p.tables e below (T21.setTop (mkF m 16 #[.val (.ref a0), .val (.ref a1)] [(.long (1 : Int64))])) _
      refine XS.goto X21.here hx rfl (pc0 := 16) (pc' := 20) rfl (hb hby own_d4_16) (by decide) (by decide) ?_
      show Steps p.tables e below (T21.setTop (mkF m 20 #[.val (.ref a0), .val (.ref a1)] [(.long (1 : Int64))])) _
      exact retOut X21 hx (t := .long) (i := .lreturn) Bd.returns rfl (Or.inr (Or.inl ⟨rfl, rfl, _, rfl⟩)) (hb hby own_d4_20) hr
    · show own_Q4 Z a0 a1 sl lc kk nn vs dv w h0 n0 _ T21.heap _
      rw [e21]
      have hv : own_f4 w lc = (1 : Int64) := by unfold own_f4; rw [if_pos hc23]
      exact ⟨by rw [hv], N0, rfl⟩
  · obtain ⟨fs, hr, hrun, hended, hW, hsame⟩ := X21.leave (v := some (.long (0 : Int64))) (fun h => by rw [Bd.returns] at h; cases h)
    refine ⟨_, _, pre22 _ ?_, hrun, hended, _, _, rfl, ?_, ⟨_, rfl⟩, hW, hsame.mono (by decide) (by decide)⟩
    · show Steps p.tables e below (T21.setTop (mkF m 12 #[.val (.ref a0), .val (.ref a1)] [(.int (lcmpW w (lc.toInt64)))])) _
      refine XS.ifYes X21.here hx rfl (pc0 := 12) (pc' := 19) rfl (hb hby own_d4_12) rfl ((if0 _ _).trans (feq (mt (lw_eq w (lc.toInt64)).mp hc23)).2) (by decide) (by decide) ?_
      show Steps p.tables e below (T21.setTop (mkF m 19 #[.val (.ref a0), .val (.ref a1)] [])) _
      refine XS.lconst X21.here hx rfl (hb hby own_d4_19) ?_
      show Steps p.tables e below (T21.setTop (mkF m 20 #[.val (.ref a0), .val (.ref a1)] [(.long (0 : Int64))])) _
      exact retOut X21 hx (t := .long) (i := .lreturn) Bd.returns rfl (Or.inr (Or.inl ⟨rfl, rfl, _, rfl⟩)) (hb hby own_d4_20) hr
    · show own_Q4 Z a0 a1 sl lc kk nn vs dv w h0 n0 _ T21.heap _
      rw [e21]
      have hv : own_f4 w lc = (0 : Int64) := by unfold own_f4; rw [if_neg hc23]
      exact ⟨by rw [hv], N0, rfl⟩
theorem own_f4_cases (w : Int64) (lc : Int32) : (w = (lc.toInt64) ∧ (own_f4 w lc = (1 : Int64))) ∨ (¬ (w = (lc.toInt64)) ∧ (own_f4 w lc = (0 : Int64))) := by
  by_cases cs0 : w = (lc.toInt64)
  · refine Or.inl ⟨cs0, ?_⟩
    unfold own_f4; rw [if_pos cs0]
  · refine Or.inr ⟨cs0, ?_⟩
    unfold own_f4; rw [if_neg cs0]
theorem own_d5_0 : decode method_2_code 0 = .ok (.iload_n 0, 1) := by decide +kernel
theorem own_d5_1 : decode method_2_code 1 = .ok (.iload_n 1, 1) := by decide +kernel
theorem own_d5_2 : decode method_2_code 2 = .ok (.if_icmp .ne 7, 3) := by decide +kernel
theorem own_d5_5 : decode method_2_code 5 = .ok (.lload_n 2, 1) := by decide +kernel
theorem own_d5_6 : decode method_2_code 6 = .ok (.goto 5, 3) := by decide +kernel
theorem own_d5_11 : decode method_2_code 11 = .ok (.lreturn, 1) := by decide +kernel
theorem own_d5_9 : decode method_2_code 9 = .ok (.lload 4, 2) := by decide +kernel
def own_f5 (p0 : Int32) (p1 : Int32) (q2 : Int64) (q3 : Int64) : Int64 := if p0 = p1 then q2 else q3
theorem own_pn34 : plainName "com/example/thyme/thyme/lang/InLocationEvaluatePinLaw" = true := by first | (simp [plainName, overriddenIn]; done) | decide +kernel
theorem own_ef5 (m : MethodId) (p0 : Int32) (p1 : Int32) (q2 : Int64) (q3 : Int64) : entryFrame m #[(.int p0), (.int p1), (.long q2), (.long q3)] 6 = mkF m 0 #[.val (.int p0), .val (.int p1), .val (.long q2), .second, .val (.long q3), .second] [] := by first | (simp [entryFrame, mkF, argsToLocals, Value.category]; done) | rfl
def own_Q5 (Z : State) (p0 : Int32) (p1 : Int32) (q2 : Int64) (q3 : Int64) (h0 : Heap) (n0 : Nat) (v : Option Value) (h : Heap) (L : List Loc) : Prop := v = some (.long (own_f5 p0 p1 q2 q3)) ∧ Fr n0 L ∧ h = h0
set_option maxRecDepth 65536 in
set_option maxHeartbeats 40000000 in
theorem own_rm5 (l : Launch) (Z : State) (av : Array Value) (hw : ∀ d ∈ tables_1, d.before av Z = true) (ws : List Jvm.Cond) (p0 : Int32) (p1 : Int32) (q2 : Int64) (q3 : Int64) (h0 : Heap) (n0 : Nat) (Z0 : n0 ≤ h0.size) :
    MetFree l (⟨"com/example/thyme/thyme/lang/InLocationEvaluatePinLaw", "at", "(IIJJ)J"⟩ : MethodName) (head1 (Jvm.Cond.code (⟨"com/example/thyme/thyme/lang/InLocationEvaluatePinLaw", "at", "(IIJJ)J"⟩ : MethodName) method_2_code 6 (some .long) :: ws) ({ frames := 0, cells := 0, slots := 0, locals := 0 } : Room)) (fun a U => a = #[(.int p0), (.int p1), (.long q2), (.long q3)] ∧ Z.Warmed39 U.vm ∧ U.heap = h0) (fun _ _ _ _ _ => True) (fun _ U o U' => ∃ v L, o = .returned v ∧ own_Q5 Z p0 p1 q2 q3 h0 n0 v U'.heap L ∧ FrameEnd U o U' L ({ frames := 0, cells := 0, slots := 0, locals := 0 } : Room).cells ({ frames := 0, cells := 0, slots := 0, locals := 0 } : Room).slots) := by
  refine MetFree.of_bodySF (plainFor_of_name own_pn34) hisR ?_
  intro p e s m args below meth c s₁ Bd hml0 hP hK
  obtain ⟨rfl, hZ, hh⟩ := hP
  have hx := Bd.exec
  have hby := Bd.bytes
  have hml : c.maxLocals = 6 := hml0
  have hown : s.vm.findClass "com/example/thyme/thyme/lang/InLocationEvaluatePinLaw" = some m.cls := findClass_of_methodNamed Bd.named
  have hnm := (name_of_methodNamed Bd.named Bd.method).1
  have X0 : Stand p l e ({ frames := 0, cells := 0, slots := 0, locals := 0 } : Room) s m #[(.int p0), (.int p1), (.long q2), (.long q3)] below meth c s₁ [] 0 0 := Stand.of_body Bd
  have e0 : s₁.heap = h0 := by rw [← hh, Bd.state]; rfl
  have N0 := Fr.nil n0
  have pre0 : ∀ t, Steps p.tables e below (s₁.setTop (mkF m 0 #[.val (.int p0), .val (.int p1), .val (.long q2), .second, .val (.long q3), .second] [])) t → Steps p.tables e below (s₁.setTop (entryFrame m #[(.int p0), (.int p1), (.long q2), (.long q3)] 6)) t := fun t k => castTop (own_ef5 m p0 p1 q2 q3) k
  have pre24 : ∀ t, Steps p.tables e below (s₁.setTop (mkF m 2 #[.val (.int p0), .val (.int p1), .val (.long q2), .second, .val (.long q3), .second] [(.int p1), (.int p0)])) t → Steps p.tables e below (s₁.setTop (entryFrame m #[(.int p0), (.int p1), (.long q2), (.long q3)] 6)) t := fun t kk => pre0 t (by
    show Steps p.tables e below (s₁.setTop (mkF m 0 #[.val (.int p0), .val (.int p1), .val (.long q2), .second, .val (.long q3), .second] [])) _
    refine XS.iloadN X0.here hx rfl (hb hby own_d5_0) rfl ?_
    show Steps p.tables e below (s₁.setTop (mkF m 1 #[.val (.int p0), .val (.int p1), .val (.long q2), .second, .val (.long q3), .second] [(.int p0)])) _
    refine XS.iloadN X0.here hx rfl (hb hby own_d5_1) rfl ?_
    show Steps p.tables e below (s₁.setTop (mkF m 2 #[.val (.int p0), .val (.int p1), .val (.long q2), .second, .val (.long q3), .second] [(.int p1), (.int p0)])) _
    exact kk)
  by_cases hc25 : p0 = p1
  · obtain ⟨fs, hr, hrun, hended, hW, hsame⟩ := X0.leave (v := some (.long q2)) (fun h => by rw [Bd.returns] at h; cases h)
    refine ⟨_, _, pre24 _ ?_, hrun, hended, _, _, rfl, ?_, ⟨_, rfl⟩, hW, hsame.mono (by decide) (by decide)⟩
    · show Steps p.tables e below (s₁.setTop (mkF m 2 #[.val (.int p0), .val (.int p1), .val (.long q2), .second, .val (.long q3), .second] [(.int p1), (.int p0)])) _
      refine XS.icmpNo X0.here hx rfl (hb hby own_d5_2) rfl (teq hc25).2 ?_
      show Steps p.tables e below (s₁.setTop (mkF m 5 #[.val (.int p0), .val (.int p1), .val (.long q2), .second, .val (.long q3), .second] [])) _
      refine XS.lloadN X0.here hx rfl (hb hby own_d5_5) rfl ?_
      show Steps p.tables e below (s₁.setTop (mkF m 6 #[.val (.int p0), .val (.int p1), .val (.long q2), .second, .val (.long q3), .second] [(.long q2)])) _
      refine XS.goto X0.here hx rfl (pc0 := 6) (pc' := 11) rfl (hb hby own_d5_6) (by decide) (by decide) ?_
      show Steps p.tables e below (s₁.setTop (mkF m 11 #[.val (.int p0), .val (.int p1), .val (.long q2), .second, .val (.long q3), .second] [(.long q2)])) _
      exact retOut X0 hx (t := .long) (i := .lreturn) Bd.returns rfl (Or.inr (Or.inl ⟨rfl, rfl, _, rfl⟩)) (hb hby own_d5_11) hr
    · show own_Q5 Z p0 p1 q2 q3 h0 n0 _ s₁.heap _
      rw [e0]
      have hv : own_f5 p0 p1 q2 q3 = q2 := by unfold own_f5; rw [if_pos hc25]
      exact ⟨by rw [hv], N0, rfl⟩
  · obtain ⟨fs, hr, hrun, hended, hW, hsame⟩ := X0.leave (v := some (.long q3)) (fun h => by rw [Bd.returns] at h; cases h)
    refine ⟨_, _, pre24 _ ?_, hrun, hended, _, _, rfl, ?_, ⟨_, rfl⟩, hW, hsame.mono (by decide) (by decide)⟩
    · show Steps p.tables e below (s₁.setTop (mkF m 2 #[.val (.int p0), .val (.int p1), .val (.long q2), .second, .val (.long q3), .second] [(.int p1), (.int p0)])) _
      refine XS.icmpYes X0.here hx rfl (pc0 := 2) (pc' := 9) rfl (hb hby own_d5_2) rfl (feq hc25).2 (by decide) (by decide) ?_
      show Steps p.tables e below (s₁.setTop (mkF m 9 #[.val (.int p0), .val (.int p1), .val (.long q2), .second, .val (.long q3), .second] [])) _
      refine XS.lload X0.here hx rfl (hb hby own_d5_9) rfl ?_
      show Steps p.tables e below (s₁.setTop (mkF m 11 #[.val (.int p0), .val (.int p1), .val (.long q2), .second, .val (.long q3), .second] [(.long q3)])) _
      exact retOut X0 hx (t := .long) (i := .lreturn) Bd.returns rfl (Or.inr (Or.inl ⟨rfl, rfl, _, rfl⟩)) (hb hby own_d5_11) hr
    · show own_Q5 Z p0 p1 q2 q3 h0 n0 _ s₁.heap _
      rw [e0]
      have hv : own_f5 p0 p1 q2 q3 = q3 := by unfold own_f5; rw [if_neg hc25]
      exact ⟨by rw [hv], N0, rfl⟩
theorem own_f5_cases (p0 : Int32) (p1 : Int32) (q2 : Int64) (q3 : Int64) : (p0 = p1 ∧ (own_f5 p0 p1 q2 q3 = q2)) ∨ (¬ (p0 = p1) ∧ (own_f5 p0 p1 q2 q3 = q3)) := by
  by_cases cs0 : p0 = p1
  · refine Or.inl ⟨cs0, ?_⟩
    unfold own_f5; rw [if_pos cs0]
  · refine Or.inr ⟨cs0, ?_⟩
    unfold own_f5; rw [if_neg cs0]
theorem own_pd1 : parseMethodDescriptor "(II)V" = some ⟨[.int, .int], none⟩ := by decide +kernel
theorem own_pd2 : parseMethodDescriptor "([J)J" = some ⟨[(.array .long)], some .long⟩ := by decide +kernel
theorem own_pd3 : parseMethodDescriptor "(IIJJ)J" = some ⟨[.int, .int, .long, .long], some .long⟩ := by decide +kernel
set_option maxRecDepth 65536 in
set_option maxHeartbeats 40000000 in
theorem own_side69 (p0 : Int32) (v26 : Int32) (hv26 : v26 = (p0 &&& (3 : Int32))) : v26 = (0 : Int32) ∨ v26 = (1 : Int32) ∨ v26 = (2 : Int32) ∨ v26 = (3 : Int32) := by
  have := c_mask p0 (3 : Int32) 2 (by decide) (by decide)
  have := Int32.le_toInt ((p0 &&& (3 : Int32))); have := Int32.toInt_lt ((p0 &&& (3 : Int32)))
  have := Int32.le_toInt p0; have := Int32.toInt_lt p0
  have := Int32.le_toInt v26; have := Int32.toInt_lt v26
  simp only [Int32.lt_iff_toInt_lt, Int64.lt_iff_toInt_lt, ← Int32.toInt_inj, ← Int64.toInt_inj, Int32.reduceToInt, Int64.reduceToInt, not_true_eq_false, not_false_eq_true, false_and, and_false, true_and, and_true, false_or, or_false, true_or, or_true] at *
  all_goals omega
set_option maxRecDepth 65536 in
set_option maxHeartbeats 40000000 in
theorem own_leaf0_2 (p0 : Int32) (p1 : Int32) (q2 : Int64) (p3 : Int32) (q4 : Int64) (hv26 : (0 : Int32) = (p0 &&& (3 : Int32))) (v27 : Int64) (hv27 : v27 = (p1.toInt64)) (v30 : Int64) (hv30 : v30 = (if (p3 &&& (4 : Int32)) = (0 : Int32) then v27 else q4)) (v32 : Int32) (hv32 : v32 = (p3 &&& (3 : Int32))) (v38 : Int64) (hv38 : v38 = (if v32 = (0 : Int32) then v27 else (if v32 = (1 : Int32) then (v27 ^^^ (4294967296 : Int64)) else (if v32 = (2 : Int32) then (v27 + (1 : Int64)) else q2)))) (v39 : Int64) (hv39 : v39 = (if v32 = (0 : Int32) then (1 : Int64) else (if v32 = (1 : Int32) then (0 : Int64) else (if v32 = (2 : Int32) then (0 : Int64) else (if q2 = v27 then (1 : Int64) else (0 : Int64)))))) (v95 : Int64) (hv95 : v95 = (own_f4 v38 p1)) (hc97 : v95 = v39) (hc103 : v38 = (own_f5 (0 : Int32) (0 : Int32) v38 v30)) (hc109 : v30 = (own_f5 (1 : Int32) (0 : Int32) v38 v30)) (hc115 : v30 = (own_f5 (2 : Int32) (0 : Int32) v38 v30)) (hc121 : ¬ (v30 = (own_f5 (3 : Int32) (0 : Int32) v38 v30))) : False := by
  have dv30 : ((p3 &&& (4 : Int32)) = (0 : Int32) ∧ (v30 = v27)) ∨ (¬ ((p3 &&& (4 : Int32)) = (0 : Int32)) ∧ (v30 = q4)) := (if cq0 : (p3 &&& (4 : Int32)) = (0 : Int32) then Or.inl ⟨cq0, (by rw [hv30, if_pos cq0])⟩ else Or.inr ⟨cq0, (by rw [hv30, if_neg cq0])⟩)
  clear hv30
  have dv38 : (v32 = (0 : Int32) ∧ (v38 = v27)) ∨ (¬ (v32 = (0 : Int32)) ∧ ((v32 = (1 : Int32) ∧ (v38 = (v27 ^^^ (4294967296 : Int64)))) ∨ (¬ (v32 = (1 : Int32)) ∧ ((v32 = (2 : Int32) ∧ (v38 = (v27 + (1 : Int64)))) ∨ (¬ (v32 = (2 : Int32)) ∧ (v38 = q2)))))) := (if cq0 : v32 = (0 : Int32) then Or.inl ⟨cq0, (by rw [hv38, if_pos cq0])⟩ else Or.inr ⟨cq0, (if cq1 : v32 = (1 : Int32) then Or.inl ⟨cq1, (by rw [hv38, if_neg cq0, if_pos cq1])⟩ else Or.inr ⟨cq1, (if cq2 : v32 = (2 : Int32) then Or.inl ⟨cq2, (by rw [hv38, if_neg cq0, if_neg cq1, if_pos cq2])⟩ else Or.inr ⟨cq2, (by rw [hv38, if_neg cq0, if_neg cq1, if_neg cq2])⟩)⟩)⟩)
  clear hv38
  have dv39 : (v32 = (0 : Int32) ∧ (v39 = (1 : Int64))) ∨ (¬ (v32 = (0 : Int32)) ∧ ((v32 = (1 : Int32) ∧ (v39 = (0 : Int64))) ∨ (¬ (v32 = (1 : Int32)) ∧ ((v32 = (2 : Int32) ∧ (v39 = (0 : Int64))) ∨ (¬ (v32 = (2 : Int32)) ∧ ((q2 = v27 ∧ (v39 = (1 : Int64))) ∨ (¬ (q2 = v27) ∧ (v39 = (0 : Int64))))))))) := (if cq0 : v32 = (0 : Int32) then Or.inl ⟨cq0, (by rw [hv39, if_pos cq0])⟩ else Or.inr ⟨cq0, (if cq1 : v32 = (1 : Int32) then Or.inl ⟨cq1, (by rw [hv39, if_neg cq0, if_pos cq1])⟩ else Or.inr ⟨cq1, (if cq2 : v32 = (2 : Int32) then Or.inl ⟨cq2, (by rw [hv39, if_neg cq0, if_neg cq1, if_pos cq2])⟩ else Or.inr ⟨cq2, (if cq3 : q2 = v27 then Or.inl ⟨cq3, (by rw [hv39, if_neg cq0, if_neg cq1, if_neg cq2, if_pos cq3])⟩ else Or.inr ⟨cq3, (by rw [hv39, if_neg cq0, if_neg cq1, if_neg cq2, if_neg cq3])⟩)⟩)⟩)⟩)
  clear hv39
  have := own_f4_cases v38 p1
  have := own_f5_cases (0 : Int32) (0 : Int32) v38 v30
  have := own_f5_cases (1 : Int32) (0 : Int32) v38 v30
  have := own_f5_cases (2 : Int32) (0 : Int32) v38 v30
  have := own_f5_cases (3 : Int32) (0 : Int32) v38 v30
  have := c_mask p0 (3 : Int32) 2 (by decide) (by decide)
  have := Int32.le_toInt ((p0 &&& (3 : Int32))); have := Int32.toInt_lt ((p0 &&& (3 : Int32)))
  have := c_i2l p1
  have := Int64.le_toInt ((p1.toInt64)); have := Int64.toInt_lt ((p1.toInt64))
  have := c_andS p3 (4 : Int32)
  have := Int32.le_toInt ((p3 &&& (4 : Int32))); have := Int32.toInt_lt ((p3 &&& (4 : Int32)))
  have := c_mask p3 (3 : Int32) 2 (by decide) (by decide)
  have := Int32.le_toInt ((p3 &&& (3 : Int32))); have := Int32.toInt_lt ((p3 &&& (3 : Int32)))
  have := c_ladd v27 (1 : Int64)
  have := Int64.le_toInt ((v27 + (1 : Int64))); have := Int64.toInt_lt ((v27 + (1 : Int64)))
  have := c_xorSL v27 (4294967296 : Int64)
  have := own_xne v27 (4294967296 : Int64) (by decide)
  have := Int64.le_toInt ((v27 ^^^ (4294967296 : Int64))); have := Int64.toInt_lt ((v27 ^^^ (4294967296 : Int64)))
  have := Int32.le_toInt p0; have := Int32.toInt_lt p0
  have := Int32.le_toInt p1; have := Int32.toInt_lt p1
  have := Int64.le_toInt q2; have := Int64.toInt_lt q2
  have := Int32.le_toInt p3; have := Int32.toInt_lt p3
  have := Int64.le_toInt q4; have := Int64.toInt_lt q4
  have := Int64.le_toInt v27; have := Int64.toInt_lt v27
  have := Int64.le_toInt v30; have := Int64.toInt_lt v30
  have := Int32.le_toInt v32; have := Int32.toInt_lt v32
  have := Int64.le_toInt v38; have := Int64.toInt_lt v38
  have := Int64.le_toInt v39; have := Int64.toInt_lt v39
  have := Int64.le_toInt v95; have := Int64.toInt_lt v95
  simp only [Int32.lt_iff_toInt_lt, Int64.lt_iff_toInt_lt, ← Int32.toInt_inj, ← Int64.toInt_inj, Int32.reduceToInt, Int64.reduceToInt, not_true_eq_false, not_false_eq_true, false_and, and_false, true_and, and_true, false_or, or_false, true_or, or_true] at *
  all_goals omega
set_option maxRecDepth 65536 in
set_option maxHeartbeats 40000000 in
theorem own_leaf0_3 (p0 : Int32) (p1 : Int32) (q2 : Int64) (p3 : Int32) (q4 : Int64) (hv26 : (0 : Int32) = (p0 &&& (3 : Int32))) (v27 : Int64) (hv27 : v27 = (p1.toInt64)) (v30 : Int64) (hv30 : v30 = (if (p3 &&& (4 : Int32)) = (0 : Int32) then v27 else q4)) (v32 : Int32) (hv32 : v32 = (p3 &&& (3 : Int32))) (v38 : Int64) (hv38 : v38 = (if v32 = (0 : Int32) then v27 else (if v32 = (1 : Int32) then (v27 ^^^ (4294967296 : Int64)) else (if v32 = (2 : Int32) then (v27 + (1 : Int64)) else q2)))) (v39 : Int64) (hv39 : v39 = (if v32 = (0 : Int32) then (1 : Int64) else (if v32 = (1 : Int32) then (0 : Int64) else (if v32 = (2 : Int32) then (0 : Int64) else (if q2 = v27 then (1 : Int64) else (0 : Int64)))))) (v95 : Int64) (hv95 : v95 = (own_f4 v38 p1)) (hc97 : v95 = v39) (hc103 : v38 = (own_f5 (0 : Int32) (0 : Int32) v38 v30)) (hc109 : v30 = (own_f5 (1 : Int32) (0 : Int32) v38 v30)) (hc115 : ¬ (v30 = (own_f5 (2 : Int32) (0 : Int32) v38 v30))) : False := by
  have dv30 : ((p3 &&& (4 : Int32)) = (0 : Int32) ∧ (v30 = v27)) ∨ (¬ ((p3 &&& (4 : Int32)) = (0 : Int32)) ∧ (v30 = q4)) := (if cq0 : (p3 &&& (4 : Int32)) = (0 : Int32) then Or.inl ⟨cq0, (by rw [hv30, if_pos cq0])⟩ else Or.inr ⟨cq0, (by rw [hv30, if_neg cq0])⟩)
  clear hv30
  have dv38 : (v32 = (0 : Int32) ∧ (v38 = v27)) ∨ (¬ (v32 = (0 : Int32)) ∧ ((v32 = (1 : Int32) ∧ (v38 = (v27 ^^^ (4294967296 : Int64)))) ∨ (¬ (v32 = (1 : Int32)) ∧ ((v32 = (2 : Int32) ∧ (v38 = (v27 + (1 : Int64)))) ∨ (¬ (v32 = (2 : Int32)) ∧ (v38 = q2)))))) := (if cq0 : v32 = (0 : Int32) then Or.inl ⟨cq0, (by rw [hv38, if_pos cq0])⟩ else Or.inr ⟨cq0, (if cq1 : v32 = (1 : Int32) then Or.inl ⟨cq1, (by rw [hv38, if_neg cq0, if_pos cq1])⟩ else Or.inr ⟨cq1, (if cq2 : v32 = (2 : Int32) then Or.inl ⟨cq2, (by rw [hv38, if_neg cq0, if_neg cq1, if_pos cq2])⟩ else Or.inr ⟨cq2, (by rw [hv38, if_neg cq0, if_neg cq1, if_neg cq2])⟩)⟩)⟩)
  clear hv38
  have dv39 : (v32 = (0 : Int32) ∧ (v39 = (1 : Int64))) ∨ (¬ (v32 = (0 : Int32)) ∧ ((v32 = (1 : Int32) ∧ (v39 = (0 : Int64))) ∨ (¬ (v32 = (1 : Int32)) ∧ ((v32 = (2 : Int32) ∧ (v39 = (0 : Int64))) ∨ (¬ (v32 = (2 : Int32)) ∧ ((q2 = v27 ∧ (v39 = (1 : Int64))) ∨ (¬ (q2 = v27) ∧ (v39 = (0 : Int64))))))))) := (if cq0 : v32 = (0 : Int32) then Or.inl ⟨cq0, (by rw [hv39, if_pos cq0])⟩ else Or.inr ⟨cq0, (if cq1 : v32 = (1 : Int32) then Or.inl ⟨cq1, (by rw [hv39, if_neg cq0, if_pos cq1])⟩ else Or.inr ⟨cq1, (if cq2 : v32 = (2 : Int32) then Or.inl ⟨cq2, (by rw [hv39, if_neg cq0, if_neg cq1, if_pos cq2])⟩ else Or.inr ⟨cq2, (if cq3 : q2 = v27 then Or.inl ⟨cq3, (by rw [hv39, if_neg cq0, if_neg cq1, if_neg cq2, if_pos cq3])⟩ else Or.inr ⟨cq3, (by rw [hv39, if_neg cq0, if_neg cq1, if_neg cq2, if_neg cq3])⟩)⟩)⟩)⟩)
  clear hv39
  have := own_f4_cases v38 p1
  have := own_f5_cases (0 : Int32) (0 : Int32) v38 v30
  have := own_f5_cases (1 : Int32) (0 : Int32) v38 v30
  have := own_f5_cases (2 : Int32) (0 : Int32) v38 v30
  have := c_mask p0 (3 : Int32) 2 (by decide) (by decide)
  have := Int32.le_toInt ((p0 &&& (3 : Int32))); have := Int32.toInt_lt ((p0 &&& (3 : Int32)))
  have := c_i2l p1
  have := Int64.le_toInt ((p1.toInt64)); have := Int64.toInt_lt ((p1.toInt64))
  have := c_andS p3 (4 : Int32)
  have := Int32.le_toInt ((p3 &&& (4 : Int32))); have := Int32.toInt_lt ((p3 &&& (4 : Int32)))
  have := c_mask p3 (3 : Int32) 2 (by decide) (by decide)
  have := Int32.le_toInt ((p3 &&& (3 : Int32))); have := Int32.toInt_lt ((p3 &&& (3 : Int32)))
  have := c_ladd v27 (1 : Int64)
  have := Int64.le_toInt ((v27 + (1 : Int64))); have := Int64.toInt_lt ((v27 + (1 : Int64)))
  have := c_xorSL v27 (4294967296 : Int64)
  have := own_xne v27 (4294967296 : Int64) (by decide)
  have := Int64.le_toInt ((v27 ^^^ (4294967296 : Int64))); have := Int64.toInt_lt ((v27 ^^^ (4294967296 : Int64)))
  have := Int32.le_toInt p0; have := Int32.toInt_lt p0
  have := Int32.le_toInt p1; have := Int32.toInt_lt p1
  have := Int64.le_toInt q2; have := Int64.toInt_lt q2
  have := Int32.le_toInt p3; have := Int32.toInt_lt p3
  have := Int64.le_toInt q4; have := Int64.toInt_lt q4
  have := Int64.le_toInt v27; have := Int64.toInt_lt v27
  have := Int64.le_toInt v30; have := Int64.toInt_lt v30
  have := Int32.le_toInt v32; have := Int32.toInt_lt v32
  have := Int64.le_toInt v38; have := Int64.toInt_lt v38
  have := Int64.le_toInt v39; have := Int64.toInt_lt v39
  have := Int64.le_toInt v95; have := Int64.toInt_lt v95
  simp only [Int32.lt_iff_toInt_lt, Int64.lt_iff_toInt_lt, ← Int32.toInt_inj, ← Int64.toInt_inj, Int32.reduceToInt, Int64.reduceToInt, not_true_eq_false, not_false_eq_true, false_and, and_false, true_and, and_true, false_or, or_false, true_or, or_true] at *
  all_goals omega
set_option maxRecDepth 65536 in
set_option maxHeartbeats 40000000 in
theorem own_leaf0_4 (p0 : Int32) (p1 : Int32) (q2 : Int64) (p3 : Int32) (q4 : Int64) (hv26 : (0 : Int32) = (p0 &&& (3 : Int32))) (v27 : Int64) (hv27 : v27 = (p1.toInt64)) (v30 : Int64) (hv30 : v30 = (if (p3 &&& (4 : Int32)) = (0 : Int32) then v27 else q4)) (v32 : Int32) (hv32 : v32 = (p3 &&& (3 : Int32))) (v38 : Int64) (hv38 : v38 = (if v32 = (0 : Int32) then v27 else (if v32 = (1 : Int32) then (v27 ^^^ (4294967296 : Int64)) else (if v32 = (2 : Int32) then (v27 + (1 : Int64)) else q2)))) (v39 : Int64) (hv39 : v39 = (if v32 = (0 : Int32) then (1 : Int64) else (if v32 = (1 : Int32) then (0 : Int64) else (if v32 = (2 : Int32) then (0 : Int64) else (if q2 = v27 then (1 : Int64) else (0 : Int64)))))) (v95 : Int64) (hv95 : v95 = (own_f4 v38 p1)) (hc97 : v95 = v39) (hc103 : v38 = (own_f5 (0 : Int32) (0 : Int32) v38 v30)) (hc109 : ¬ (v30 = (own_f5 (1 : Int32) (0 : Int32) v38 v30))) : False := by
  have dv30 : ((p3 &&& (4 : Int32)) = (0 : Int32) ∧ (v30 = v27)) ∨ (¬ ((p3 &&& (4 : Int32)) = (0 : Int32)) ∧ (v30 = q4)) := (if cq0 : (p3 &&& (4 : Int32)) = (0 : Int32) then Or.inl ⟨cq0, (by rw [hv30, if_pos cq0])⟩ else Or.inr ⟨cq0, (by rw [hv30, if_neg cq0])⟩)
  clear hv30
  have dv38 : (v32 = (0 : Int32) ∧ (v38 = v27)) ∨ (¬ (v32 = (0 : Int32)) ∧ ((v32 = (1 : Int32) ∧ (v38 = (v27 ^^^ (4294967296 : Int64)))) ∨ (¬ (v32 = (1 : Int32)) ∧ ((v32 = (2 : Int32) ∧ (v38 = (v27 + (1 : Int64)))) ∨ (¬ (v32 = (2 : Int32)) ∧ (v38 = q2)))))) := (if cq0 : v32 = (0 : Int32) then Or.inl ⟨cq0, (by rw [hv38, if_pos cq0])⟩ else Or.inr ⟨cq0, (if cq1 : v32 = (1 : Int32) then Or.inl ⟨cq1, (by rw [hv38, if_neg cq0, if_pos cq1])⟩ else Or.inr ⟨cq1, (if cq2 : v32 = (2 : Int32) then Or.inl ⟨cq2, (by rw [hv38, if_neg cq0, if_neg cq1, if_pos cq2])⟩ else Or.inr ⟨cq2, (by rw [hv38, if_neg cq0, if_neg cq1, if_neg cq2])⟩)⟩)⟩)
  clear hv38
  have dv39 : (v32 = (0 : Int32) ∧ (v39 = (1 : Int64))) ∨ (¬ (v32 = (0 : Int32)) ∧ ((v32 = (1 : Int32) ∧ (v39 = (0 : Int64))) ∨ (¬ (v32 = (1 : Int32)) ∧ ((v32 = (2 : Int32) ∧ (v39 = (0 : Int64))) ∨ (¬ (v32 = (2 : Int32)) ∧ ((q2 = v27 ∧ (v39 = (1 : Int64))) ∨ (¬ (q2 = v27) ∧ (v39 = (0 : Int64))))))))) := (if cq0 : v32 = (0 : Int32) then Or.inl ⟨cq0, (by rw [hv39, if_pos cq0])⟩ else Or.inr ⟨cq0, (if cq1 : v32 = (1 : Int32) then Or.inl ⟨cq1, (by rw [hv39, if_neg cq0, if_pos cq1])⟩ else Or.inr ⟨cq1, (if cq2 : v32 = (2 : Int32) then Or.inl ⟨cq2, (by rw [hv39, if_neg cq0, if_neg cq1, if_pos cq2])⟩ else Or.inr ⟨cq2, (if cq3 : q2 = v27 then Or.inl ⟨cq3, (by rw [hv39, if_neg cq0, if_neg cq1, if_neg cq2, if_pos cq3])⟩ else Or.inr ⟨cq3, (by rw [hv39, if_neg cq0, if_neg cq1, if_neg cq2, if_neg cq3])⟩)⟩)⟩)⟩)
  clear hv39
  have := own_f4_cases v38 p1
  have := own_f5_cases (0 : Int32) (0 : Int32) v38 v30
  have := own_f5_cases (1 : Int32) (0 : Int32) v38 v30
  have := c_mask p0 (3 : Int32) 2 (by decide) (by decide)
  have := Int32.le_toInt ((p0 &&& (3 : Int32))); have := Int32.toInt_lt ((p0 &&& (3 : Int32)))
  have := c_i2l p1
  have := Int64.le_toInt ((p1.toInt64)); have := Int64.toInt_lt ((p1.toInt64))
  have := c_andS p3 (4 : Int32)
  have := Int32.le_toInt ((p3 &&& (4 : Int32))); have := Int32.toInt_lt ((p3 &&& (4 : Int32)))
  have := c_mask p3 (3 : Int32) 2 (by decide) (by decide)
  have := Int32.le_toInt ((p3 &&& (3 : Int32))); have := Int32.toInt_lt ((p3 &&& (3 : Int32)))
  have := c_ladd v27 (1 : Int64)
  have := Int64.le_toInt ((v27 + (1 : Int64))); have := Int64.toInt_lt ((v27 + (1 : Int64)))
  have := c_xorSL v27 (4294967296 : Int64)
  have := own_xne v27 (4294967296 : Int64) (by decide)
  have := Int64.le_toInt ((v27 ^^^ (4294967296 : Int64))); have := Int64.toInt_lt ((v27 ^^^ (4294967296 : Int64)))
  have := Int32.le_toInt p0; have := Int32.toInt_lt p0
  have := Int32.le_toInt p1; have := Int32.toInt_lt p1
  have := Int64.le_toInt q2; have := Int64.toInt_lt q2
  have := Int32.le_toInt p3; have := Int32.toInt_lt p3
  have := Int64.le_toInt q4; have := Int64.toInt_lt q4
  have := Int64.le_toInt v27; have := Int64.toInt_lt v27
  have := Int64.le_toInt v30; have := Int64.toInt_lt v30
  have := Int32.le_toInt v32; have := Int32.toInt_lt v32
  have := Int64.le_toInt v38; have := Int64.toInt_lt v38
  have := Int64.le_toInt v39; have := Int64.toInt_lt v39
  have := Int64.le_toInt v95; have := Int64.toInt_lt v95
  simp only [Int32.lt_iff_toInt_lt, Int64.lt_iff_toInt_lt, ← Int32.toInt_inj, ← Int64.toInt_inj, Int32.reduceToInt, Int64.reduceToInt, not_true_eq_false, not_false_eq_true, false_and, and_false, true_and, and_true, false_or, or_false, true_or, or_true] at *
  all_goals omega
set_option maxRecDepth 65536 in
set_option maxHeartbeats 40000000 in
theorem own_leaf0_5 (p0 : Int32) (p1 : Int32) (q2 : Int64) (p3 : Int32) (q4 : Int64) (hv26 : (0 : Int32) = (p0 &&& (3 : Int32))) (v27 : Int64) (hv27 : v27 = (p1.toInt64)) (v30 : Int64) (hv30 : v30 = (if (p3 &&& (4 : Int32)) = (0 : Int32) then v27 else q4)) (v32 : Int32) (hv32 : v32 = (p3 &&& (3 : Int32))) (v38 : Int64) (hv38 : v38 = (if v32 = (0 : Int32) then v27 else (if v32 = (1 : Int32) then (v27 ^^^ (4294967296 : Int64)) else (if v32 = (2 : Int32) then (v27 + (1 : Int64)) else q2)))) (v39 : Int64) (hv39 : v39 = (if v32 = (0 : Int32) then (1 : Int64) else (if v32 = (1 : Int32) then (0 : Int64) else (if v32 = (2 : Int32) then (0 : Int64) else (if q2 = v27 then (1 : Int64) else (0 : Int64)))))) (v95 : Int64) (hv95 : v95 = (own_f4 v38 p1)) (hc97 : v95 = v39) (hc103 : ¬ (v38 = (own_f5 (0 : Int32) (0 : Int32) v38 v30))) : False := by
  have dv30 : ((p3 &&& (4 : Int32)) = (0 : Int32) ∧ (v30 = v27)) ∨ (¬ ((p3 &&& (4 : Int32)) = (0 : Int32)) ∧ (v30 = q4)) := (if cq0 : (p3 &&& (4 : Int32)) = (0 : Int32) then Or.inl ⟨cq0, (by rw [hv30, if_pos cq0])⟩ else Or.inr ⟨cq0, (by rw [hv30, if_neg cq0])⟩)
  clear hv30
  have dv38 : (v32 = (0 : Int32) ∧ (v38 = v27)) ∨ (¬ (v32 = (0 : Int32)) ∧ ((v32 = (1 : Int32) ∧ (v38 = (v27 ^^^ (4294967296 : Int64)))) ∨ (¬ (v32 = (1 : Int32)) ∧ ((v32 = (2 : Int32) ∧ (v38 = (v27 + (1 : Int64)))) ∨ (¬ (v32 = (2 : Int32)) ∧ (v38 = q2)))))) := (if cq0 : v32 = (0 : Int32) then Or.inl ⟨cq0, (by rw [hv38, if_pos cq0])⟩ else Or.inr ⟨cq0, (if cq1 : v32 = (1 : Int32) then Or.inl ⟨cq1, (by rw [hv38, if_neg cq0, if_pos cq1])⟩ else Or.inr ⟨cq1, (if cq2 : v32 = (2 : Int32) then Or.inl ⟨cq2, (by rw [hv38, if_neg cq0, if_neg cq1, if_pos cq2])⟩ else Or.inr ⟨cq2, (by rw [hv38, if_neg cq0, if_neg cq1, if_neg cq2])⟩)⟩)⟩)
  clear hv38
  have dv39 : (v32 = (0 : Int32) ∧ (v39 = (1 : Int64))) ∨ (¬ (v32 = (0 : Int32)) ∧ ((v32 = (1 : Int32) ∧ (v39 = (0 : Int64))) ∨ (¬ (v32 = (1 : Int32)) ∧ ((v32 = (2 : Int32) ∧ (v39 = (0 : Int64))) ∨ (¬ (v32 = (2 : Int32)) ∧ ((q2 = v27 ∧ (v39 = (1 : Int64))) ∨ (¬ (q2 = v27) ∧ (v39 = (0 : Int64))))))))) := (if cq0 : v32 = (0 : Int32) then Or.inl ⟨cq0, (by rw [hv39, if_pos cq0])⟩ else Or.inr ⟨cq0, (if cq1 : v32 = (1 : Int32) then Or.inl ⟨cq1, (by rw [hv39, if_neg cq0, if_pos cq1])⟩ else Or.inr ⟨cq1, (if cq2 : v32 = (2 : Int32) then Or.inl ⟨cq2, (by rw [hv39, if_neg cq0, if_neg cq1, if_pos cq2])⟩ else Or.inr ⟨cq2, (if cq3 : q2 = v27 then Or.inl ⟨cq3, (by rw [hv39, if_neg cq0, if_neg cq1, if_neg cq2, if_pos cq3])⟩ else Or.inr ⟨cq3, (by rw [hv39, if_neg cq0, if_neg cq1, if_neg cq2, if_neg cq3])⟩)⟩)⟩)⟩)
  clear hv39
  have := own_f4_cases v38 p1
  have := own_f5_cases (0 : Int32) (0 : Int32) v38 v30
  have := c_mask p0 (3 : Int32) 2 (by decide) (by decide)
  have := Int32.le_toInt ((p0 &&& (3 : Int32))); have := Int32.toInt_lt ((p0 &&& (3 : Int32)))
  have := c_i2l p1
  have := Int64.le_toInt ((p1.toInt64)); have := Int64.toInt_lt ((p1.toInt64))
  have := c_andS p3 (4 : Int32)
  have := Int32.le_toInt ((p3 &&& (4 : Int32))); have := Int32.toInt_lt ((p3 &&& (4 : Int32)))
  have := c_mask p3 (3 : Int32) 2 (by decide) (by decide)
  have := Int32.le_toInt ((p3 &&& (3 : Int32))); have := Int32.toInt_lt ((p3 &&& (3 : Int32)))
  have := c_ladd v27 (1 : Int64)
  have := Int64.le_toInt ((v27 + (1 : Int64))); have := Int64.toInt_lt ((v27 + (1 : Int64)))
  have := c_xorSL v27 (4294967296 : Int64)
  have := own_xne v27 (4294967296 : Int64) (by decide)
  have := Int64.le_toInt ((v27 ^^^ (4294967296 : Int64))); have := Int64.toInt_lt ((v27 ^^^ (4294967296 : Int64)))
  have := Int32.le_toInt p0; have := Int32.toInt_lt p0
  have := Int32.le_toInt p1; have := Int32.toInt_lt p1
  have := Int64.le_toInt q2; have := Int64.toInt_lt q2
  have := Int32.le_toInt p3; have := Int32.toInt_lt p3
  have := Int64.le_toInt q4; have := Int64.toInt_lt q4
  have := Int64.le_toInt v27; have := Int64.toInt_lt v27
  have := Int64.le_toInt v30; have := Int64.toInt_lt v30
  have := Int32.le_toInt v32; have := Int32.toInt_lt v32
  have := Int64.le_toInt v38; have := Int64.toInt_lt v38
  have := Int64.le_toInt v39; have := Int64.toInt_lt v39
  have := Int64.le_toInt v95; have := Int64.toInt_lt v95
  simp only [Int32.lt_iff_toInt_lt, Int64.lt_iff_toInt_lt, ← Int32.toInt_inj, ← Int64.toInt_inj, Int32.reduceToInt, Int64.reduceToInt, not_true_eq_false, not_false_eq_true, false_and, and_false, true_and, and_true, false_or, or_false, true_or, or_true] at *
  all_goals omega
set_option maxRecDepth 65536 in
set_option maxHeartbeats 40000000 in
theorem own_leaf0_6 (p0 : Int32) (p1 : Int32) (q2 : Int64) (p3 : Int32) (q4 : Int64) (hv26 : (0 : Int32) = (p0 &&& (3 : Int32))) (v27 : Int64) (hv27 : v27 = (p1.toInt64)) (v30 : Int64) (hv30 : v30 = (if (p3 &&& (4 : Int32)) = (0 : Int32) then v27 else q4)) (v32 : Int32) (hv32 : v32 = (p3 &&& (3 : Int32))) (v38 : Int64) (hv38 : v38 = (if v32 = (0 : Int32) then v27 else (if v32 = (1 : Int32) then (v27 ^^^ (4294967296 : Int64)) else (if v32 = (2 : Int32) then (v27 + (1 : Int64)) else q2)))) (v39 : Int64) (hv39 : v39 = (if v32 = (0 : Int32) then (1 : Int64) else (if v32 = (1 : Int32) then (0 : Int64) else (if v32 = (2 : Int32) then (0 : Int64) else (if q2 = v27 then (1 : Int64) else (0 : Int64)))))) (v95 : Int64) (hv95 : v95 = (own_f4 v38 p1)) (hc97 : ¬ (v95 = v39)) : False := by
  have dv30 : ((p3 &&& (4 : Int32)) = (0 : Int32) ∧ (v30 = v27)) ∨ (¬ ((p3 &&& (4 : Int32)) = (0 : Int32)) ∧ (v30 = q4)) := (if cq0 : (p3 &&& (4 : Int32)) = (0 : Int32) then Or.inl ⟨cq0, (by rw [hv30, if_pos cq0])⟩ else Or.inr ⟨cq0, (by rw [hv30, if_neg cq0])⟩)
  clear hv30
  have dv38 : (v32 = (0 : Int32) ∧ (v38 = v27)) ∨ (¬ (v32 = (0 : Int32)) ∧ ((v32 = (1 : Int32) ∧ (v38 = (v27 ^^^ (4294967296 : Int64)))) ∨ (¬ (v32 = (1 : Int32)) ∧ ((v32 = (2 : Int32) ∧ (v38 = (v27 + (1 : Int64)))) ∨ (¬ (v32 = (2 : Int32)) ∧ (v38 = q2)))))) := (if cq0 : v32 = (0 : Int32) then Or.inl ⟨cq0, (by rw [hv38, if_pos cq0])⟩ else Or.inr ⟨cq0, (if cq1 : v32 = (1 : Int32) then Or.inl ⟨cq1, (by rw [hv38, if_neg cq0, if_pos cq1])⟩ else Or.inr ⟨cq1, (if cq2 : v32 = (2 : Int32) then Or.inl ⟨cq2, (by rw [hv38, if_neg cq0, if_neg cq1, if_pos cq2])⟩ else Or.inr ⟨cq2, (by rw [hv38, if_neg cq0, if_neg cq1, if_neg cq2])⟩)⟩)⟩)
  clear hv38
  have dv39 : (v32 = (0 : Int32) ∧ (v39 = (1 : Int64))) ∨ (¬ (v32 = (0 : Int32)) ∧ ((v32 = (1 : Int32) ∧ (v39 = (0 : Int64))) ∨ (¬ (v32 = (1 : Int32)) ∧ ((v32 = (2 : Int32) ∧ (v39 = (0 : Int64))) ∨ (¬ (v32 = (2 : Int32)) ∧ ((q2 = v27 ∧ (v39 = (1 : Int64))) ∨ (¬ (q2 = v27) ∧ (v39 = (0 : Int64))))))))) := (if cq0 : v32 = (0 : Int32) then Or.inl ⟨cq0, (by rw [hv39, if_pos cq0])⟩ else Or.inr ⟨cq0, (if cq1 : v32 = (1 : Int32) then Or.inl ⟨cq1, (by rw [hv39, if_neg cq0, if_pos cq1])⟩ else Or.inr ⟨cq1, (if cq2 : v32 = (2 : Int32) then Or.inl ⟨cq2, (by rw [hv39, if_neg cq0, if_neg cq1, if_pos cq2])⟩ else Or.inr ⟨cq2, (if cq3 : q2 = v27 then Or.inl ⟨cq3, (by rw [hv39, if_neg cq0, if_neg cq1, if_neg cq2, if_pos cq3])⟩ else Or.inr ⟨cq3, (by rw [hv39, if_neg cq0, if_neg cq1, if_neg cq2, if_neg cq3])⟩)⟩)⟩)⟩)
  clear hv39
  have := own_f4_cases v38 p1
  have := c_mask p0 (3 : Int32) 2 (by decide) (by decide)
  have := Int32.le_toInt ((p0 &&& (3 : Int32))); have := Int32.toInt_lt ((p0 &&& (3 : Int32)))
  have := c_i2l p1
  have := Int64.le_toInt ((p1.toInt64)); have := Int64.toInt_lt ((p1.toInt64))
  have := c_andS p3 (4 : Int32)
  have := Int32.le_toInt ((p3 &&& (4 : Int32))); have := Int32.toInt_lt ((p3 &&& (4 : Int32)))
  have := c_mask p3 (3 : Int32) 2 (by decide) (by decide)
  have := Int32.le_toInt ((p3 &&& (3 : Int32))); have := Int32.toInt_lt ((p3 &&& (3 : Int32)))
  have := c_ladd v27 (1 : Int64)
  have := Int64.le_toInt ((v27 + (1 : Int64))); have := Int64.toInt_lt ((v27 + (1 : Int64)))
  have := c_xorSL v27 (4294967296 : Int64)
  have := own_xne v27 (4294967296 : Int64) (by decide)
  have := Int64.le_toInt ((v27 ^^^ (4294967296 : Int64))); have := Int64.toInt_lt ((v27 ^^^ (4294967296 : Int64)))
  have := Int32.le_toInt p0; have := Int32.toInt_lt p0
  have := Int32.le_toInt p1; have := Int32.toInt_lt p1
  have := Int64.le_toInt q2; have := Int64.toInt_lt q2
  have := Int32.le_toInt p3; have := Int32.toInt_lt p3
  have := Int64.le_toInt q4; have := Int64.toInt_lt q4
  have := Int64.le_toInt v27; have := Int64.toInt_lt v27
  have := Int64.le_toInt v30; have := Int64.toInt_lt v30
  have := Int32.le_toInt v32; have := Int32.toInt_lt v32
  have := Int64.le_toInt v38; have := Int64.toInt_lt v38
  have := Int64.le_toInt v39; have := Int64.toInt_lt v39
  have := Int64.le_toInt v95; have := Int64.toInt_lt v95
  simp only [Int32.lt_iff_toInt_lt, Int64.lt_iff_toInt_lt, ← Int32.toInt_inj, ← Int64.toInt_inj, Int32.reduceToInt, Int64.reduceToInt, not_true_eq_false, not_false_eq_true, false_and, and_false, true_and, and_true, false_or, or_false, true_or, or_true] at *
  all_goals omega
set_option maxRecDepth 65536 in
set_option maxHeartbeats 40000000 in
theorem own_leaf0_8 (p0 : Int32) (p1 : Int32) (q2 : Int64) (p3 : Int32) (q4 : Int64) (hv26 : (1 : Int32) = (p0 &&& (3 : Int32))) (v27 : Int64) (hv27 : v27 = (p1.toInt64)) (v30 : Int64) (hv30 : v30 = (if (p3 &&& (4 : Int32)) = (0 : Int32) then v27 else q4)) (v32 : Int32) (hv32 : v32 = (p3 &&& (3 : Int32))) (v38 : Int64) (hv38 : v38 = (if v32 = (0 : Int32) then v27 else (if v32 = (1 : Int32) then (v27 ^^^ (4294967296 : Int64)) else (if v32 = (2 : Int32) then (v27 + (1 : Int64)) else q2)))) (v39 : Int64) (hv39 : v39 = (if v32 = (0 : Int32) then (1 : Int64) else (if v32 = (1 : Int32) then (0 : Int64) else (if v32 = (2 : Int32) then (0 : Int64) else (if q2 = v27 then (1 : Int64) else (0 : Int64)))))) (v145 : Int64) (hv145 : v145 = (own_f4 v38 p1)) (hc147 : v145 = v39) (hc153 : v30 = (own_f5 (0 : Int32) (1 : Int32) v38 v30)) (hc159 : v38 = (own_f5 (1 : Int32) (1 : Int32) v38 v30)) (hc165 : v30 = (own_f5 (2 : Int32) (1 : Int32) v38 v30)) (hc171 : ¬ (v30 = (own_f5 (3 : Int32) (1 : Int32) v38 v30))) : False := by
  have dv30 : ((p3 &&& (4 : Int32)) = (0 : Int32) ∧ (v30 = v27)) ∨ (¬ ((p3 &&& (4 : Int32)) = (0 : Int32)) ∧ (v30 = q4)) := (if cq0 : (p3 &&& (4 : Int32)) = (0 : Int32) then Or.inl ⟨cq0, (by rw [hv30, if_pos cq0])⟩ else Or.inr ⟨cq0, (by rw [hv30, if_neg cq0])⟩)
  clear hv30
  have dv38 : (v32 = (0 : Int32) ∧ (v38 = v27)) ∨ (¬ (v32 = (0 : Int32)) ∧ ((v32 = (1 : Int32) ∧ (v38 = (v27 ^^^ (4294967296 : Int64)))) ∨ (¬ (v32 = (1 : Int32)) ∧ ((v32 = (2 : Int32) ∧ (v38 = (v27 + (1 : Int64)))) ∨ (¬ (v32 = (2 : Int32)) ∧ (v38 = q2)))))) := (if cq0 : v32 = (0 : Int32) then Or.inl ⟨cq0, (by rw [hv38, if_pos cq0])⟩ else Or.inr ⟨cq0, (if cq1 : v32 = (1 : Int32) then Or.inl ⟨cq1, (by rw [hv38, if_neg cq0, if_pos cq1])⟩ else Or.inr ⟨cq1, (if cq2 : v32 = (2 : Int32) then Or.inl ⟨cq2, (by rw [hv38, if_neg cq0, if_neg cq1, if_pos cq2])⟩ else Or.inr ⟨cq2, (by rw [hv38, if_neg cq0, if_neg cq1, if_neg cq2])⟩)⟩)⟩)
  clear hv38
  have dv39 : (v32 = (0 : Int32) ∧ (v39 = (1 : Int64))) ∨ (¬ (v32 = (0 : Int32)) ∧ ((v32 = (1 : Int32) ∧ (v39 = (0 : Int64))) ∨ (¬ (v32 = (1 : Int32)) ∧ ((v32 = (2 : Int32) ∧ (v39 = (0 : Int64))) ∨ (¬ (v32 = (2 : Int32)) ∧ ((q2 = v27 ∧ (v39 = (1 : Int64))) ∨ (¬ (q2 = v27) ∧ (v39 = (0 : Int64))))))))) := (if cq0 : v32 = (0 : Int32) then Or.inl ⟨cq0, (by rw [hv39, if_pos cq0])⟩ else Or.inr ⟨cq0, (if cq1 : v32 = (1 : Int32) then Or.inl ⟨cq1, (by rw [hv39, if_neg cq0, if_pos cq1])⟩ else Or.inr ⟨cq1, (if cq2 : v32 = (2 : Int32) then Or.inl ⟨cq2, (by rw [hv39, if_neg cq0, if_neg cq1, if_pos cq2])⟩ else Or.inr ⟨cq2, (if cq3 : q2 = v27 then Or.inl ⟨cq3, (by rw [hv39, if_neg cq0, if_neg cq1, if_neg cq2, if_pos cq3])⟩ else Or.inr ⟨cq3, (by rw [hv39, if_neg cq0, if_neg cq1, if_neg cq2, if_neg cq3])⟩)⟩)⟩)⟩)
  clear hv39
  have := own_f4_cases v38 p1
  have := own_f5_cases (0 : Int32) (1 : Int32) v38 v30
  have := own_f5_cases (1 : Int32) (1 : Int32) v38 v30
  have := own_f5_cases (2 : Int32) (1 : Int32) v38 v30
  have := own_f5_cases (3 : Int32) (1 : Int32) v38 v30
  have := c_mask p0 (3 : Int32) 2 (by decide) (by decide)
  have := Int32.le_toInt ((p0 &&& (3 : Int32))); have := Int32.toInt_lt ((p0 &&& (3 : Int32)))
  have := c_i2l p1
  have := Int64.le_toInt ((p1.toInt64)); have := Int64.toInt_lt ((p1.toInt64))
  have := c_andS p3 (4 : Int32)
  have := Int32.le_toInt ((p3 &&& (4 : Int32))); have := Int32.toInt_lt ((p3 &&& (4 : Int32)))
  have := c_mask p3 (3 : Int32) 2 (by decide) (by decide)
  have := Int32.le_toInt ((p3 &&& (3 : Int32))); have := Int32.toInt_lt ((p3 &&& (3 : Int32)))
  have := c_ladd v27 (1 : Int64)
  have := Int64.le_toInt ((v27 + (1 : Int64))); have := Int64.toInt_lt ((v27 + (1 : Int64)))
  have := c_xorSL v27 (4294967296 : Int64)
  have := own_xne v27 (4294967296 : Int64) (by decide)
  have := Int64.le_toInt ((v27 ^^^ (4294967296 : Int64))); have := Int64.toInt_lt ((v27 ^^^ (4294967296 : Int64)))
  have := Int32.le_toInt p0; have := Int32.toInt_lt p0
  have := Int32.le_toInt p1; have := Int32.toInt_lt p1
  have := Int64.le_toInt q2; have := Int64.toInt_lt q2
  have := Int32.le_toInt p3; have := Int32.toInt_lt p3
  have := Int64.le_toInt q4; have := Int64.toInt_lt q4
  have := Int64.le_toInt v27; have := Int64.toInt_lt v27
  have := Int64.le_toInt v30; have := Int64.toInt_lt v30
  have := Int32.le_toInt v32; have := Int32.toInt_lt v32
  have := Int64.le_toInt v38; have := Int64.toInt_lt v38
  have := Int64.le_toInt v39; have := Int64.toInt_lt v39
  have := Int64.le_toInt v145; have := Int64.toInt_lt v145
  simp only [Int32.lt_iff_toInt_lt, Int64.lt_iff_toInt_lt, ← Int32.toInt_inj, ← Int64.toInt_inj, Int32.reduceToInt, Int64.reduceToInt, not_true_eq_false, not_false_eq_true, false_and, and_false, true_and, and_true, false_or, or_false, true_or, or_true] at *
  all_goals omega
set_option maxRecDepth 65536 in
set_option maxHeartbeats 40000000 in
theorem own_leaf0_9 (p0 : Int32) (p1 : Int32) (q2 : Int64) (p3 : Int32) (q4 : Int64) (hv26 : (1 : Int32) = (p0 &&& (3 : Int32))) (v27 : Int64) (hv27 : v27 = (p1.toInt64)) (v30 : Int64) (hv30 : v30 = (if (p3 &&& (4 : Int32)) = (0 : Int32) then v27 else q4)) (v32 : Int32) (hv32 : v32 = (p3 &&& (3 : Int32))) (v38 : Int64) (hv38 : v38 = (if v32 = (0 : Int32) then v27 else (if v32 = (1 : Int32) then (v27 ^^^ (4294967296 : Int64)) else (if v32 = (2 : Int32) then (v27 + (1 : Int64)) else q2)))) (v39 : Int64) (hv39 : v39 = (if v32 = (0 : Int32) then (1 : Int64) else (if v32 = (1 : Int32) then (0 : Int64) else (if v32 = (2 : Int32) then (0 : Int64) else (if q2 = v27 then (1 : Int64) else (0 : Int64)))))) (v145 : Int64) (hv145 : v145 = (own_f4 v38 p1)) (hc147 : v145 = v39) (hc153 : v30 = (own_f5 (0 : Int32) (1 : Int32) v38 v30)) (hc159 : v38 = (own_f5 (1 : Int32) (1 : Int32) v38 v30)) (hc165 : ¬ (v30 = (own_f5 (2 : Int32) (1 : Int32) v38 v30))) : False := by
  have dv30 : ((p3 &&& (4 : Int32)) = (0 : Int32) ∧ (v30 = v27)) ∨ (¬ ((p3 &&& (4 : Int32)) = (0 : Int32)) ∧ (v30 = q4)) := (if cq0 : (p3 &&& (4 : Int32)) = (0 : Int32) then Or.inl ⟨cq0, (by rw [hv30, if_pos cq0])⟩ else Or.inr ⟨cq0, (by rw [hv30, if_neg cq0])⟩)
  clear hv30
  have dv38 : (v32 = (0 : Int32) ∧ (v38 = v27)) ∨ (¬ (v32 = (0 : Int32)) ∧ ((v32 = (1 : Int32) ∧ (v38 = (v27 ^^^ (4294967296 : Int64)))) ∨ (¬ (v32 = (1 : Int32)) ∧ ((v32 = (2 : Int32) ∧ (v38 = (v27 + (1 : Int64)))) ∨ (¬ (v32 = (2 : Int32)) ∧ (v38 = q2)))))) := (if cq0 : v32 = (0 : Int32) then Or.inl ⟨cq0, (by rw [hv38, if_pos cq0])⟩ else Or.inr ⟨cq0, (if cq1 : v32 = (1 : Int32) then Or.inl ⟨cq1, (by rw [hv38, if_neg cq0, if_pos cq1])⟩ else Or.inr ⟨cq1, (if cq2 : v32 = (2 : Int32) then Or.inl ⟨cq2, (by rw [hv38, if_neg cq0, if_neg cq1, if_pos cq2])⟩ else Or.inr ⟨cq2, (by rw [hv38, if_neg cq0, if_neg cq1, if_neg cq2])⟩)⟩)⟩)
  clear hv38
  have dv39 : (v32 = (0 : Int32) ∧ (v39 = (1 : Int64))) ∨ (¬ (v32 = (0 : Int32)) ∧ ((v32 = (1 : Int32) ∧ (v39 = (0 : Int64))) ∨ (¬ (v32 = (1 : Int32)) ∧ ((v32 = (2 : Int32) ∧ (v39 = (0 : Int64))) ∨ (¬ (v32 = (2 : Int32)) ∧ ((q2 = v27 ∧ (v39 = (1 : Int64))) ∨ (¬ (q2 = v27) ∧ (v39 = (0 : Int64))))))))) := (if cq0 : v32 = (0 : Int32) then Or.inl ⟨cq0, (by rw [hv39, if_pos cq0])⟩ else Or.inr ⟨cq0, (if cq1 : v32 = (1 : Int32) then Or.inl ⟨cq1, (by rw [hv39, if_neg cq0, if_pos cq1])⟩ else Or.inr ⟨cq1, (if cq2 : v32 = (2 : Int32) then Or.inl ⟨cq2, (by rw [hv39, if_neg cq0, if_neg cq1, if_pos cq2])⟩ else Or.inr ⟨cq2, (if cq3 : q2 = v27 then Or.inl ⟨cq3, (by rw [hv39, if_neg cq0, if_neg cq1, if_neg cq2, if_pos cq3])⟩ else Or.inr ⟨cq3, (by rw [hv39, if_neg cq0, if_neg cq1, if_neg cq2, if_neg cq3])⟩)⟩)⟩)⟩)
  clear hv39
  have := own_f4_cases v38 p1
  have := own_f5_cases (0 : Int32) (1 : Int32) v38 v30
  have := own_f5_cases (1 : Int32) (1 : Int32) v38 v30
  have := own_f5_cases (2 : Int32) (1 : Int32) v38 v30
  have := c_mask p0 (3 : Int32) 2 (by decide) (by decide)
  have := Int32.le_toInt ((p0 &&& (3 : Int32))); have := Int32.toInt_lt ((p0 &&& (3 : Int32)))
  have := c_i2l p1
  have := Int64.le_toInt ((p1.toInt64)); have := Int64.toInt_lt ((p1.toInt64))
  have := c_andS p3 (4 : Int32)
  have := Int32.le_toInt ((p3 &&& (4 : Int32))); have := Int32.toInt_lt ((p3 &&& (4 : Int32)))
  have := c_mask p3 (3 : Int32) 2 (by decide) (by decide)
  have := Int32.le_toInt ((p3 &&& (3 : Int32))); have := Int32.toInt_lt ((p3 &&& (3 : Int32)))
  have := c_ladd v27 (1 : Int64)
  have := Int64.le_toInt ((v27 + (1 : Int64))); have := Int64.toInt_lt ((v27 + (1 : Int64)))
  have := c_xorSL v27 (4294967296 : Int64)
  have := own_xne v27 (4294967296 : Int64) (by decide)
  have := Int64.le_toInt ((v27 ^^^ (4294967296 : Int64))); have := Int64.toInt_lt ((v27 ^^^ (4294967296 : Int64)))
  have := Int32.le_toInt p0; have := Int32.toInt_lt p0
  have := Int32.le_toInt p1; have := Int32.toInt_lt p1
  have := Int64.le_toInt q2; have := Int64.toInt_lt q2
  have := Int32.le_toInt p3; have := Int32.toInt_lt p3
  have := Int64.le_toInt q4; have := Int64.toInt_lt q4
  have := Int64.le_toInt v27; have := Int64.toInt_lt v27
  have := Int64.le_toInt v30; have := Int64.toInt_lt v30
  have := Int32.le_toInt v32; have := Int32.toInt_lt v32
  have := Int64.le_toInt v38; have := Int64.toInt_lt v38
  have := Int64.le_toInt v39; have := Int64.toInt_lt v39
  have := Int64.le_toInt v145; have := Int64.toInt_lt v145
  simp only [Int32.lt_iff_toInt_lt, Int64.lt_iff_toInt_lt, ← Int32.toInt_inj, ← Int64.toInt_inj, Int32.reduceToInt, Int64.reduceToInt, not_true_eq_false, not_false_eq_true, false_and, and_false, true_and, and_true, false_or, or_false, true_or, or_true] at *
  all_goals omega
set_option maxRecDepth 65536 in
set_option maxHeartbeats 40000000 in
theorem own_leaf0_10 (p0 : Int32) (p1 : Int32) (q2 : Int64) (p3 : Int32) (q4 : Int64) (hv26 : (1 : Int32) = (p0 &&& (3 : Int32))) (v27 : Int64) (hv27 : v27 = (p1.toInt64)) (v30 : Int64) (hv30 : v30 = (if (p3 &&& (4 : Int32)) = (0 : Int32) then v27 else q4)) (v32 : Int32) (hv32 : v32 = (p3 &&& (3 : Int32))) (v38 : Int64) (hv38 : v38 = (if v32 = (0 : Int32) then v27 else (if v32 = (1 : Int32) then (v27 ^^^ (4294967296 : Int64)) else (if v32 = (2 : Int32) then (v27 + (1 : Int64)) else q2)))) (v39 : Int64) (hv39 : v39 = (if v32 = (0 : Int32) then (1 : Int64) else (if v32 = (1 : Int32) then (0 : Int64) else (if v32 = (2 : Int32) then (0 : Int64) else (if q2 = v27 then (1 : Int64) else (0 : Int64)))))) (v145 : Int64) (hv145 : v145 = (own_f4 v38 p1)) (hc147 : v145 = v39) (hc153 : v30 = (own_f5 (0 : Int32) (1 : Int32) v38 v30)) (hc159 : ¬ (v38 = (own_f5 (1 : Int32) (1 : Int32) v38 v30))) : False := by
  have dv30 : ((p3 &&& (4 : Int32)) = (0 : Int32) ∧ (v30 = v27)) ∨ (¬ ((p3 &&& (4 : Int32)) = (0 : Int32)) ∧ (v30 = q4)) := (if cq0 : (p3 &&& (4 : Int32)) = (0 : Int32) then Or.inl ⟨cq0, (by rw [hv30, if_pos cq0])⟩ else Or.inr ⟨cq0, (by rw [hv30, if_neg cq0])⟩)
  clear hv30
  have dv38 : (v32 = (0 : Int32) ∧ (v38 = v27)) ∨ (¬ (v32 = (0 : Int32)) ∧ ((v32 = (1 : Int32) ∧ (v38 = (v27 ^^^ (4294967296 : Int64)))) ∨ (¬ (v32 = (1 : Int32)) ∧ ((v32 = (2 : Int32) ∧ (v38 = (v27 + (1 : Int64)))) ∨ (¬ (v32 = (2 : Int32)) ∧ (v38 = q2)))))) := (if cq0 : v32 = (0 : Int32) then Or.inl ⟨cq0, (by rw [hv38, if_pos cq0])⟩ else Or.inr ⟨cq0, (if cq1 : v32 = (1 : Int32) then Or.inl ⟨cq1, (by rw [hv38, if_neg cq0, if_pos cq1])⟩ else Or.inr ⟨cq1, (if cq2 : v32 = (2 : Int32) then Or.inl ⟨cq2, (by rw [hv38, if_neg cq0, if_neg cq1, if_pos cq2])⟩ else Or.inr ⟨cq2, (by rw [hv38, if_neg cq0, if_neg cq1, if_neg cq2])⟩)⟩)⟩)
  clear hv38
  have dv39 : (v32 = (0 : Int32) ∧ (v39 = (1 : Int64))) ∨ (¬ (v32 = (0 : Int32)) ∧ ((v32 = (1 : Int32) ∧ (v39 = (0 : Int64))) ∨ (¬ (v32 = (1 : Int32)) ∧ ((v32 = (2 : Int32) ∧ (v39 = (0 : Int64))) ∨ (¬ (v32 = (2 : Int32)) ∧ ((q2 = v27 ∧ (v39 = (1 : Int64))) ∨ (¬ (q2 = v27) ∧ (v39 = (0 : Int64))))))))) := (if cq0 : v32 = (0 : Int32) then Or.inl ⟨cq0, (by rw [hv39, if_pos cq0])⟩ else Or.inr ⟨cq0, (if cq1 : v32 = (1 : Int32) then Or.inl ⟨cq1, (by rw [hv39, if_neg cq0, if_pos cq1])⟩ else Or.inr ⟨cq1, (if cq2 : v32 = (2 : Int32) then Or.inl ⟨cq2, (by rw [hv39, if_neg cq0, if_neg cq1, if_pos cq2])⟩ else Or.inr ⟨cq2, (if cq3 : q2 = v27 then Or.inl ⟨cq3, (by rw [hv39, if_neg cq0, if_neg cq1, if_neg cq2, if_pos cq3])⟩ else Or.inr ⟨cq3, (by rw [hv39, if_neg cq0, if_neg cq1, if_neg cq2, if_neg cq3])⟩)⟩)⟩)⟩)
  clear hv39
  have := own_f4_cases v38 p1
  have := own_f5_cases (0 : Int32) (1 : Int32) v38 v30
  have := own_f5_cases (1 : Int32) (1 : Int32) v38 v30
  have := c_mask p0 (3 : Int32) 2 (by decide) (by decide)
  have := Int32.le_toInt ((p0 &&& (3 : Int32))); have := Int32.toInt_lt ((p0 &&& (3 : Int32)))
  have := c_i2l p1
  have := Int64.le_toInt ((p1.toInt64)); have := Int64.toInt_lt ((p1.toInt64))
  have := c_andS p3 (4 : Int32)
  have := Int32.le_toInt ((p3 &&& (4 : Int32))); have := Int32.toInt_lt ((p3 &&& (4 : Int32)))
  have := c_mask p3 (3 : Int32) 2 (by decide) (by decide)
  have := Int32.le_toInt ((p3 &&& (3 : Int32))); have := Int32.toInt_lt ((p3 &&& (3 : Int32)))
  have := c_ladd v27 (1 : Int64)
  have := Int64.le_toInt ((v27 + (1 : Int64))); have := Int64.toInt_lt ((v27 + (1 : Int64)))
  have := c_xorSL v27 (4294967296 : Int64)
  have := own_xne v27 (4294967296 : Int64) (by decide)
  have := Int64.le_toInt ((v27 ^^^ (4294967296 : Int64))); have := Int64.toInt_lt ((v27 ^^^ (4294967296 : Int64)))
  have := Int32.le_toInt p0; have := Int32.toInt_lt p0
  have := Int32.le_toInt p1; have := Int32.toInt_lt p1
  have := Int64.le_toInt q2; have := Int64.toInt_lt q2
  have := Int32.le_toInt p3; have := Int32.toInt_lt p3
  have := Int64.le_toInt q4; have := Int64.toInt_lt q4
  have := Int64.le_toInt v27; have := Int64.toInt_lt v27
  have := Int64.le_toInt v30; have := Int64.toInt_lt v30
  have := Int32.le_toInt v32; have := Int32.toInt_lt v32
  have := Int64.le_toInt v38; have := Int64.toInt_lt v38
  have := Int64.le_toInt v39; have := Int64.toInt_lt v39
  have := Int64.le_toInt v145; have := Int64.toInt_lt v145
  simp only [Int32.lt_iff_toInt_lt, Int64.lt_iff_toInt_lt, ← Int32.toInt_inj, ← Int64.toInt_inj, Int32.reduceToInt, Int64.reduceToInt, not_true_eq_false, not_false_eq_true, false_and, and_false, true_and, and_true, false_or, or_false, true_or, or_true] at *
  all_goals omega
set_option maxRecDepth 65536 in
set_option maxHeartbeats 40000000 in
theorem own_leaf0_11 (p0 : Int32) (p1 : Int32) (q2 : Int64) (p3 : Int32) (q4 : Int64) (hv26 : (1 : Int32) = (p0 &&& (3 : Int32))) (v27 : Int64) (hv27 : v27 = (p1.toInt64)) (v30 : Int64) (hv30 : v30 = (if (p3 &&& (4 : Int32)) = (0 : Int32) then v27 else q4)) (v32 : Int32) (hv32 : v32 = (p3 &&& (3 : Int32))) (v38 : Int64) (hv38 : v38 = (if v32 = (0 : Int32) then v27 else (if v32 = (1 : Int32) then (v27 ^^^ (4294967296 : Int64)) else (if v32 = (2 : Int32) then (v27 + (1 : Int64)) else q2)))) (v39 : Int64) (hv39 : v39 = (if v32 = (0 : Int32) then (1 : Int64) else (if v32 = (1 : Int32) then (0 : Int64) else (if v32 = (2 : Int32) then (0 : Int64) else (if q2 = v27 then (1 : Int64) else (0 : Int64)))))) (v145 : Int64) (hv145 : v145 = (own_f4 v38 p1)) (hc147 : v145 = v39) (hc153 : ¬ (v30 = (own_f5 (0 : Int32) (1 : Int32) v38 v30))) : False := by
  have dv30 : ((p3 &&& (4 : Int32)) = (0 : Int32) ∧ (v30 = v27)) ∨ (¬ ((p3 &&& (4 : Int32)) = (0 : Int32)) ∧ (v30 = q4)) := (if cq0 : (p3 &&& (4 : Int32)) = (0 : Int32) then Or.inl ⟨cq0, (by rw [hv30, if_pos cq0])⟩ else Or.inr ⟨cq0, (by rw [hv30, if_neg cq0])⟩)
  clear hv30
  have dv38 : (v32 = (0 : Int32) ∧ (v38 = v27)) ∨ (¬ (v32 = (0 : Int32)) ∧ ((v32 = (1 : Int32) ∧ (v38 = (v27 ^^^ (4294967296 : Int64)))) ∨ (¬ (v32 = (1 : Int32)) ∧ ((v32 = (2 : Int32) ∧ (v38 = (v27 + (1 : Int64)))) ∨ (¬ (v32 = (2 : Int32)) ∧ (v38 = q2)))))) := (if cq0 : v32 = (0 : Int32) then Or.inl ⟨cq0, (by rw [hv38, if_pos cq0])⟩ else Or.inr ⟨cq0, (if cq1 : v32 = (1 : Int32) then Or.inl ⟨cq1, (by rw [hv38, if_neg cq0, if_pos cq1])⟩ else Or.inr ⟨cq1, (if cq2 : v32 = (2 : Int32) then Or.inl ⟨cq2, (by rw [hv38, if_neg cq0, if_neg cq1, if_pos cq2])⟩ else Or.inr ⟨cq2, (by rw [hv38, if_neg cq0, if_neg cq1, if_neg cq2])⟩)⟩)⟩)
  clear hv38
  have dv39 : (v32 = (0 : Int32) ∧ (v39 = (1 : Int64))) ∨ (¬ (v32 = (0 : Int32)) ∧ ((v32 = (1 : Int32) ∧ (v39 = (0 : Int64))) ∨ (¬ (v32 = (1 : Int32)) ∧ ((v32 = (2 : Int32) ∧ (v39 = (0 : Int64))) ∨ (¬ (v32 = (2 : Int32)) ∧ ((q2 = v27 ∧ (v39 = (1 : Int64))) ∨ (¬ (q2 = v27) ∧ (v39 = (0 : Int64))))))))) := (if cq0 : v32 = (0 : Int32) then Or.inl ⟨cq0, (by rw [hv39, if_pos cq0])⟩ else Or.inr ⟨cq0, (if cq1 : v32 = (1 : Int32) then Or.inl ⟨cq1, (by rw [hv39, if_neg cq0, if_pos cq1])⟩ else Or.inr ⟨cq1, (if cq2 : v32 = (2 : Int32) then Or.inl ⟨cq2, (by rw [hv39, if_neg cq0, if_neg cq1, if_pos cq2])⟩ else Or.inr ⟨cq2, (if cq3 : q2 = v27 then Or.inl ⟨cq3, (by rw [hv39, if_neg cq0, if_neg cq1, if_neg cq2, if_pos cq3])⟩ else Or.inr ⟨cq3, (by rw [hv39, if_neg cq0, if_neg cq1, if_neg cq2, if_neg cq3])⟩)⟩)⟩)⟩)
  clear hv39
  have := own_f4_cases v38 p1
  have := own_f5_cases (0 : Int32) (1 : Int32) v38 v30
  have := c_mask p0 (3 : Int32) 2 (by decide) (by decide)
  have := Int32.le_toInt ((p0 &&& (3 : Int32))); have := Int32.toInt_lt ((p0 &&& (3 : Int32)))
  have := c_i2l p1
  have := Int64.le_toInt ((p1.toInt64)); have := Int64.toInt_lt ((p1.toInt64))
  have := c_andS p3 (4 : Int32)
  have := Int32.le_toInt ((p3 &&& (4 : Int32))); have := Int32.toInt_lt ((p3 &&& (4 : Int32)))
  have := c_mask p3 (3 : Int32) 2 (by decide) (by decide)
  have := Int32.le_toInt ((p3 &&& (3 : Int32))); have := Int32.toInt_lt ((p3 &&& (3 : Int32)))
  have := c_ladd v27 (1 : Int64)
  have := Int64.le_toInt ((v27 + (1 : Int64))); have := Int64.toInt_lt ((v27 + (1 : Int64)))
  have := c_xorSL v27 (4294967296 : Int64)
  have := own_xne v27 (4294967296 : Int64) (by decide)
  have := Int64.le_toInt ((v27 ^^^ (4294967296 : Int64))); have := Int64.toInt_lt ((v27 ^^^ (4294967296 : Int64)))
  have := Int32.le_toInt p0; have := Int32.toInt_lt p0
  have := Int32.le_toInt p1; have := Int32.toInt_lt p1
  have := Int64.le_toInt q2; have := Int64.toInt_lt q2
  have := Int32.le_toInt p3; have := Int32.toInt_lt p3
  have := Int64.le_toInt q4; have := Int64.toInt_lt q4
  have := Int64.le_toInt v27; have := Int64.toInt_lt v27
  have := Int64.le_toInt v30; have := Int64.toInt_lt v30
  have := Int32.le_toInt v32; have := Int32.toInt_lt v32
  have := Int64.le_toInt v38; have := Int64.toInt_lt v38
  have := Int64.le_toInt v39; have := Int64.toInt_lt v39
  have := Int64.le_toInt v145; have := Int64.toInt_lt v145
  simp only [Int32.lt_iff_toInt_lt, Int64.lt_iff_toInt_lt, ← Int32.toInt_inj, ← Int64.toInt_inj, Int32.reduceToInt, Int64.reduceToInt, not_true_eq_false, not_false_eq_true, false_and, and_false, true_and, and_true, false_or, or_false, true_or, or_true] at *
  all_goals omega
set_option maxRecDepth 65536 in
set_option maxHeartbeats 40000000 in
theorem own_leaf0_12 (p0 : Int32) (p1 : Int32) (q2 : Int64) (p3 : Int32) (q4 : Int64) (hv26 : (1 : Int32) = (p0 &&& (3 : Int32))) (v27 : Int64) (hv27 : v27 = (p1.toInt64)) (v30 : Int64) (hv30 : v30 = (if (p3 &&& (4 : Int32)) = (0 : Int32) then v27 else q4)) (v32 : Int32) (hv32 : v32 = (p3 &&& (3 : Int32))) (v38 : Int64) (hv38 : v38 = (if v32 = (0 : Int32) then v27 else (if v32 = (1 : Int32) then (v27 ^^^ (4294967296 : Int64)) else (if v32 = (2 : Int32) then (v27 + (1 : Int64)) else q2)))) (v39 : Int64) (hv39 : v39 = (if v32 = (0 : Int32) then (1 : Int64) else (if v32 = (1 : Int32) then (0 : Int64) else (if v32 = (2 : Int32) then (0 : Int64) else (if q2 = v27 then (1 : Int64) else (0 : Int64)))))) (v145 : Int64) (hv145 : v145 = (own_f4 v38 p1)) (hc147 : ¬ (v145 = v39)) : False := by
  have dv30 : ((p3 &&& (4 : Int32)) = (0 : Int32) ∧ (v30 = v27)) ∨ (¬ ((p3 &&& (4 : Int32)) = (0 : Int32)) ∧ (v30 = q4)) := (if cq0 : (p3 &&& (4 : Int32)) = (0 : Int32) then Or.inl ⟨cq0, (by rw [hv30, if_pos cq0])⟩ else Or.inr ⟨cq0, (by rw [hv30, if_neg cq0])⟩)
  clear hv30
  have dv38 : (v32 = (0 : Int32) ∧ (v38 = v27)) ∨ (¬ (v32 = (0 : Int32)) ∧ ((v32 = (1 : Int32) ∧ (v38 = (v27 ^^^ (4294967296 : Int64)))) ∨ (¬ (v32 = (1 : Int32)) ∧ ((v32 = (2 : Int32) ∧ (v38 = (v27 + (1 : Int64)))) ∨ (¬ (v32 = (2 : Int32)) ∧ (v38 = q2)))))) := (if cq0 : v32 = (0 : Int32) then Or.inl ⟨cq0, (by rw [hv38, if_pos cq0])⟩ else Or.inr ⟨cq0, (if cq1 : v32 = (1 : Int32) then Or.inl ⟨cq1, (by rw [hv38, if_neg cq0, if_pos cq1])⟩ else Or.inr ⟨cq1, (if cq2 : v32 = (2 : Int32) then Or.inl ⟨cq2, (by rw [hv38, if_neg cq0, if_neg cq1, if_pos cq2])⟩ else Or.inr ⟨cq2, (by rw [hv38, if_neg cq0, if_neg cq1, if_neg cq2])⟩)⟩)⟩)
  clear hv38
  have dv39 : (v32 = (0 : Int32) ∧ (v39 = (1 : Int64))) ∨ (¬ (v32 = (0 : Int32)) ∧ ((v32 = (1 : Int32) ∧ (v39 = (0 : Int64))) ∨ (¬ (v32 = (1 : Int32)) ∧ ((v32 = (2 : Int32) ∧ (v39 = (0 : Int64))) ∨ (¬ (v32 = (2 : Int32)) ∧ ((q2 = v27 ∧ (v39 = (1 : Int64))) ∨ (¬ (q2 = v27) ∧ (v39 = (0 : Int64))))))))) := (if cq0 : v32 = (0 : Int32) then Or.inl ⟨cq0, (by rw [hv39, if_pos cq0])⟩ else Or.inr ⟨cq0, (if cq1 : v32 = (1 : Int32) then Or.inl ⟨cq1, (by rw [hv39, if_neg cq0, if_pos cq1])⟩ else Or.inr ⟨cq1, (if cq2 : v32 = (2 : Int32) then Or.inl ⟨cq2, (by rw [hv39, if_neg cq0, if_neg cq1, if_pos cq2])⟩ else Or.inr ⟨cq2, (if cq3 : q2 = v27 then Or.inl ⟨cq3, (by rw [hv39, if_neg cq0, if_neg cq1, if_neg cq2, if_pos cq3])⟩ else Or.inr ⟨cq3, (by rw [hv39, if_neg cq0, if_neg cq1, if_neg cq2, if_neg cq3])⟩)⟩)⟩)⟩)
  clear hv39
  have := own_f4_cases v38 p1
  have := c_mask p0 (3 : Int32) 2 (by decide) (by decide)
  have := Int32.le_toInt ((p0 &&& (3 : Int32))); have := Int32.toInt_lt ((p0 &&& (3 : Int32)))
  have := c_i2l p1
  have := Int64.le_toInt ((p1.toInt64)); have := Int64.toInt_lt ((p1.toInt64))
  have := c_andS p3 (4 : Int32)
  have := Int32.le_toInt ((p3 &&& (4 : Int32))); have := Int32.toInt_lt ((p3 &&& (4 : Int32)))
  have := c_mask p3 (3 : Int32) 2 (by decide) (by decide)
  have := Int32.le_toInt ((p3 &&& (3 : Int32))); have := Int32.toInt_lt ((p3 &&& (3 : Int32)))
  have := c_ladd v27 (1 : Int64)
  have := Int64.le_toInt ((v27 + (1 : Int64))); have := Int64.toInt_lt ((v27 + (1 : Int64)))
  have := c_xorSL v27 (4294967296 : Int64)
  have := own_xne v27 (4294967296 : Int64) (by decide)
  have := Int64.le_toInt ((v27 ^^^ (4294967296 : Int64))); have := Int64.toInt_lt ((v27 ^^^ (4294967296 : Int64)))
  have := Int32.le_toInt p0; have := Int32.toInt_lt p0
  have := Int32.le_toInt p1; have := Int32.toInt_lt p1
  have := Int64.le_toInt q2; have := Int64.toInt_lt q2
  have := Int32.le_toInt p3; have := Int32.toInt_lt p3
  have := Int64.le_toInt q4; have := Int64.toInt_lt q4
  have := Int64.le_toInt v27; have := Int64.toInt_lt v27
  have := Int64.le_toInt v30; have := Int64.toInt_lt v30
  have := Int32.le_toInt v32; have := Int32.toInt_lt v32
  have := Int64.le_toInt v38; have := Int64.toInt_lt v38
  have := Int64.le_toInt v39; have := Int64.toInt_lt v39
  have := Int64.le_toInt v145; have := Int64.toInt_lt v145
  simp only [Int32.lt_iff_toInt_lt, Int64.lt_iff_toInt_lt, ← Int32.toInt_inj, ← Int64.toInt_inj, Int32.reduceToInt, Int64.reduceToInt, not_true_eq_false, not_false_eq_true, false_and, and_false, true_and, and_true, false_or, or_false, true_or, or_true] at *
  all_goals omega
set_option maxRecDepth 65536 in
set_option maxHeartbeats 40000000 in
theorem own_leaf0_14 (p0 : Int32) (p1 : Int32) (q2 : Int64) (p3 : Int32) (q4 : Int64) (hv26 : (2 : Int32) = (p0 &&& (3 : Int32))) (v27 : Int64) (hv27 : v27 = (p1.toInt64)) (v30 : Int64) (hv30 : v30 = (if (p3 &&& (4 : Int32)) = (0 : Int32) then v27 else q4)) (v32 : Int32) (hv32 : v32 = (p3 &&& (3 : Int32))) (v38 : Int64) (hv38 : v38 = (if v32 = (0 : Int32) then v27 else (if v32 = (1 : Int32) then (v27 ^^^ (4294967296 : Int64)) else (if v32 = (2 : Int32) then (v27 + (1 : Int64)) else q2)))) (v39 : Int64) (hv39 : v39 = (if v32 = (0 : Int32) then (1 : Int64) else (if v32 = (1 : Int32) then (0 : Int64) else (if v32 = (2 : Int32) then (0 : Int64) else (if q2 = v27 then (1 : Int64) else (0 : Int64)))))) (v195 : Int64) (hv195 : v195 = (own_f4 v38 p1)) (hc197 : v195 = v39) (hc203 : v30 = (own_f5 (0 : Int32) (2 : Int32) v38 v30)) (hc209 : v30 = (own_f5 (1 : Int32) (2 : Int32) v38 v30)) (hc215 : v38 = (own_f5 (2 : Int32) (2 : Int32) v38 v30)) (hc221 : ¬ (v30 = (own_f5 (3 : Int32) (2 : Int32) v38 v30))) : False := by
  have dv30 : ((p3 &&& (4 : Int32)) = (0 : Int32) ∧ (v30 = v27)) ∨ (¬ ((p3 &&& (4 : Int32)) = (0 : Int32)) ∧ (v30 = q4)) := (if cq0 : (p3 &&& (4 : Int32)) = (0 : Int32) then Or.inl ⟨cq0, (by rw [hv30, if_pos cq0])⟩ else Or.inr ⟨cq0, (by rw [hv30, if_neg cq0])⟩)
  clear hv30
  have dv38 : (v32 = (0 : Int32) ∧ (v38 = v27)) ∨ (¬ (v32 = (0 : Int32)) ∧ ((v32 = (1 : Int32) ∧ (v38 = (v27 ^^^ (4294967296 : Int64)))) ∨ (¬ (v32 = (1 : Int32)) ∧ ((v32 = (2 : Int32) ∧ (v38 = (v27 + (1 : Int64)))) ∨ (¬ (v32 = (2 : Int32)) ∧ (v38 = q2)))))) := (if cq0 : v32 = (0 : Int32) then Or.inl ⟨cq0, (by rw [hv38, if_pos cq0])⟩ else Or.inr ⟨cq0, (if cq1 : v32 = (1 : Int32) then Or.inl ⟨cq1, (by rw [hv38, if_neg cq0, if_pos cq1])⟩ else Or.inr ⟨cq1, (if cq2 : v32 = (2 : Int32) then Or.inl ⟨cq2, (by rw [hv38, if_neg cq0, if_neg cq1, if_pos cq2])⟩ else Or.inr ⟨cq2, (by rw [hv38, if_neg cq0, if_neg cq1, if_neg cq2])⟩)⟩)⟩)
  clear hv38
  have dv39 : (v32 = (0 : Int32) ∧ (v39 = (1 : Int64))) ∨ (¬ (v32 = (0 : Int32)) ∧ ((v32 = (1 : Int32) ∧ (v39 = (0 : Int64))) ∨ (¬ (v32 = (1 : Int32)) ∧ ((v32 = (2 : Int32) ∧ (v39 = (0 : Int64))) ∨ (¬ (v32 = (2 : Int32)) ∧ ((q2 = v27 ∧ (v39 = (1 : Int64))) ∨ (¬ (q2 = v27) ∧ (v39 = (0 : Int64))))))))) := (if cq0 : v32 = (0 : Int32) then Or.inl ⟨cq0, (by rw [hv39, if_pos cq0])⟩ else Or.inr ⟨cq0, (if cq1 : v32 = (1 : Int32) then Or.inl ⟨cq1, (by rw [hv39, if_neg cq0, if_pos cq1])⟩ else Or.inr ⟨cq1, (if cq2 : v32 = (2 : Int32) then Or.inl ⟨cq2, (by rw [hv39, if_neg cq0, if_neg cq1, if_pos cq2])⟩ else Or.inr ⟨cq2, (if cq3 : q2 = v27 then Or.inl ⟨cq3, (by rw [hv39, if_neg cq0, if_neg cq1, if_neg cq2, if_pos cq3])⟩ else Or.inr ⟨cq3, (by rw [hv39, if_neg cq0, if_neg cq1, if_neg cq2, if_neg cq3])⟩)⟩)⟩)⟩)
  clear hv39
  have := own_f4_cases v38 p1
  have := own_f5_cases (0 : Int32) (2 : Int32) v38 v30
  have := own_f5_cases (1 : Int32) (2 : Int32) v38 v30
  have := own_f5_cases (2 : Int32) (2 : Int32) v38 v30
  have := own_f5_cases (3 : Int32) (2 : Int32) v38 v30
  have := c_mask p0 (3 : Int32) 2 (by decide) (by decide)
  have := Int32.le_toInt ((p0 &&& (3 : Int32))); have := Int32.toInt_lt ((p0 &&& (3 : Int32)))
  have := c_i2l p1
  have := Int64.le_toInt ((p1.toInt64)); have := Int64.toInt_lt ((p1.toInt64))
  have := c_andS p3 (4 : Int32)
  have := Int32.le_toInt ((p3 &&& (4 : Int32))); have := Int32.toInt_lt ((p3 &&& (4 : Int32)))
  have := c_mask p3 (3 : Int32) 2 (by decide) (by decide)
  have := Int32.le_toInt ((p3 &&& (3 : Int32))); have := Int32.toInt_lt ((p3 &&& (3 : Int32)))
  have := c_ladd v27 (1 : Int64)
  have := Int64.le_toInt ((v27 + (1 : Int64))); have := Int64.toInt_lt ((v27 + (1 : Int64)))
  have := c_xorSL v27 (4294967296 : Int64)
  have := own_xne v27 (4294967296 : Int64) (by decide)
  have := Int64.le_toInt ((v27 ^^^ (4294967296 : Int64))); have := Int64.toInt_lt ((v27 ^^^ (4294967296 : Int64)))
  have := Int32.le_toInt p0; have := Int32.toInt_lt p0
  have := Int32.le_toInt p1; have := Int32.toInt_lt p1
  have := Int64.le_toInt q2; have := Int64.toInt_lt q2
  have := Int32.le_toInt p3; have := Int32.toInt_lt p3
  have := Int64.le_toInt q4; have := Int64.toInt_lt q4
  have := Int64.le_toInt v27; have := Int64.toInt_lt v27
  have := Int64.le_toInt v30; have := Int64.toInt_lt v30
  have := Int32.le_toInt v32; have := Int32.toInt_lt v32
  have := Int64.le_toInt v38; have := Int64.toInt_lt v38
  have := Int64.le_toInt v39; have := Int64.toInt_lt v39
  have := Int64.le_toInt v195; have := Int64.toInt_lt v195
  simp only [Int32.lt_iff_toInt_lt, Int64.lt_iff_toInt_lt, ← Int32.toInt_inj, ← Int64.toInt_inj, Int32.reduceToInt, Int64.reduceToInt, not_true_eq_false, not_false_eq_true, false_and, and_false, true_and, and_true, false_or, or_false, true_or, or_true] at *
  all_goals omega
set_option maxRecDepth 65536 in
set_option maxHeartbeats 40000000 in
theorem own_leaf0_15 (p0 : Int32) (p1 : Int32) (q2 : Int64) (p3 : Int32) (q4 : Int64) (hv26 : (2 : Int32) = (p0 &&& (3 : Int32))) (v27 : Int64) (hv27 : v27 = (p1.toInt64)) (v30 : Int64) (hv30 : v30 = (if (p3 &&& (4 : Int32)) = (0 : Int32) then v27 else q4)) (v32 : Int32) (hv32 : v32 = (p3 &&& (3 : Int32))) (v38 : Int64) (hv38 : v38 = (if v32 = (0 : Int32) then v27 else (if v32 = (1 : Int32) then (v27 ^^^ (4294967296 : Int64)) else (if v32 = (2 : Int32) then (v27 + (1 : Int64)) else q2)))) (v39 : Int64) (hv39 : v39 = (if v32 = (0 : Int32) then (1 : Int64) else (if v32 = (1 : Int32) then (0 : Int64) else (if v32 = (2 : Int32) then (0 : Int64) else (if q2 = v27 then (1 : Int64) else (0 : Int64)))))) (v195 : Int64) (hv195 : v195 = (own_f4 v38 p1)) (hc197 : v195 = v39) (hc203 : v30 = (own_f5 (0 : Int32) (2 : Int32) v38 v30)) (hc209 : v30 = (own_f5 (1 : Int32) (2 : Int32) v38 v30)) (hc215 : ¬ (v38 = (own_f5 (2 : Int32) (2 : Int32) v38 v30))) : False := by
  have dv30 : ((p3 &&& (4 : Int32)) = (0 : Int32) ∧ (v30 = v27)) ∨ (¬ ((p3 &&& (4 : Int32)) = (0 : Int32)) ∧ (v30 = q4)) := (if cq0 : (p3 &&& (4 : Int32)) = (0 : Int32) then Or.inl ⟨cq0, (by rw [hv30, if_pos cq0])⟩ else Or.inr ⟨cq0, (by rw [hv30, if_neg cq0])⟩)
  clear hv30
  have dv38 : (v32 = (0 : Int32) ∧ (v38 = v27)) ∨ (¬ (v32 = (0 : Int32)) ∧ ((v32 = (1 : Int32) ∧ (v38 = (v27 ^^^ (4294967296 : Int64)))) ∨ (¬ (v32 = (1 : Int32)) ∧ ((v32 = (2 : Int32) ∧ (v38 = (v27 + (1 : Int64)))) ∨ (¬ (v32 = (2 : Int32)) ∧ (v38 = q2)))))) := (if cq0 : v32 = (0 : Int32) then Or.inl ⟨cq0, (by rw [hv38, if_pos cq0])⟩ else Or.inr ⟨cq0, (if cq1 : v32 = (1 : Int32) then Or.inl ⟨cq1, (by rw [hv38, if_neg cq0, if_pos cq1])⟩ else Or.inr ⟨cq1, (if cq2 : v32 = (2 : Int32) then Or.inl ⟨cq2, (by rw [hv38, if_neg cq0, if_neg cq1, if_pos cq2])⟩ else Or.inr ⟨cq2, (by rw [hv38, if_neg cq0, if_neg cq1, if_neg cq2])⟩)⟩)⟩)
  clear hv38
  have dv39 : (v32 = (0 : Int32) ∧ (v39 = (1 : Int64))) ∨ (¬ (v32 = (0 : Int32)) ∧ ((v32 = (1 : Int32) ∧ (v39 = (0 : Int64))) ∨ (¬ (v32 = (1 : Int32)) ∧ ((v32 = (2 : Int32) ∧ (v39 = (0 : Int64))) ∨ (¬ (v32 = (2 : Int32)) ∧ ((q2 = v27 ∧ (v39 = (1 : Int64))) ∨ (¬ (q2 = v27) ∧ (v39 = (0 : Int64))))))))) := (if cq0 : v32 = (0 : Int32) then Or.inl ⟨cq0, (by rw [hv39, if_pos cq0])⟩ else Or.inr ⟨cq0, (if cq1 : v32 = (1 : Int32) then Or.inl ⟨cq1, (by rw [hv39, if_neg cq0, if_pos cq1])⟩ else Or.inr ⟨cq1, (if cq2 : v32 = (2 : Int32) then Or.inl ⟨cq2, (by rw [hv39, if_neg cq0, if_neg cq1, if_pos cq2])⟩ else Or.inr ⟨cq2, (if cq3 : q2 = v27 then Or.inl ⟨cq3, (by rw [hv39, if_neg cq0, if_neg cq1, if_neg cq2, if_pos cq3])⟩ else Or.inr ⟨cq3, (by rw [hv39, if_neg cq0, if_neg cq1, if_neg cq2, if_neg cq3])⟩)⟩)⟩)⟩)
  clear hv39
  have := own_f4_cases v38 p1
  have := own_f5_cases (0 : Int32) (2 : Int32) v38 v30
  have := own_f5_cases (1 : Int32) (2 : Int32) v38 v30
  have := own_f5_cases (2 : Int32) (2 : Int32) v38 v30
  have := c_mask p0 (3 : Int32) 2 (by decide) (by decide)
  have := Int32.le_toInt ((p0 &&& (3 : Int32))); have := Int32.toInt_lt ((p0 &&& (3 : Int32)))
  have := c_i2l p1
  have := Int64.le_toInt ((p1.toInt64)); have := Int64.toInt_lt ((p1.toInt64))
  have := c_andS p3 (4 : Int32)
  have := Int32.le_toInt ((p3 &&& (4 : Int32))); have := Int32.toInt_lt ((p3 &&& (4 : Int32)))
  have := c_mask p3 (3 : Int32) 2 (by decide) (by decide)
  have := Int32.le_toInt ((p3 &&& (3 : Int32))); have := Int32.toInt_lt ((p3 &&& (3 : Int32)))
  have := c_ladd v27 (1 : Int64)
  have := Int64.le_toInt ((v27 + (1 : Int64))); have := Int64.toInt_lt ((v27 + (1 : Int64)))
  have := c_xorSL v27 (4294967296 : Int64)
  have := own_xne v27 (4294967296 : Int64) (by decide)
  have := Int64.le_toInt ((v27 ^^^ (4294967296 : Int64))); have := Int64.toInt_lt ((v27 ^^^ (4294967296 : Int64)))
  have := Int32.le_toInt p0; have := Int32.toInt_lt p0
  have := Int32.le_toInt p1; have := Int32.toInt_lt p1
  have := Int64.le_toInt q2; have := Int64.toInt_lt q2
  have := Int32.le_toInt p3; have := Int32.toInt_lt p3
  have := Int64.le_toInt q4; have := Int64.toInt_lt q4
  have := Int64.le_toInt v27; have := Int64.toInt_lt v27
  have := Int64.le_toInt v30; have := Int64.toInt_lt v30
  have := Int32.le_toInt v32; have := Int32.toInt_lt v32
  have := Int64.le_toInt v38; have := Int64.toInt_lt v38
  have := Int64.le_toInt v39; have := Int64.toInt_lt v39
  have := Int64.le_toInt v195; have := Int64.toInt_lt v195
  simp only [Int32.lt_iff_toInt_lt, Int64.lt_iff_toInt_lt, ← Int32.toInt_inj, ← Int64.toInt_inj, Int32.reduceToInt, Int64.reduceToInt, not_true_eq_false, not_false_eq_true, false_and, and_false, true_and, and_true, false_or, or_false, true_or, or_true] at *
  all_goals omega
set_option maxRecDepth 65536 in
set_option maxHeartbeats 40000000 in
theorem own_leaf0_16 (p0 : Int32) (p1 : Int32) (q2 : Int64) (p3 : Int32) (q4 : Int64) (hv26 : (2 : Int32) = (p0 &&& (3 : Int32))) (v27 : Int64) (hv27 : v27 = (p1.toInt64)) (v30 : Int64) (hv30 : v30 = (if (p3 &&& (4 : Int32)) = (0 : Int32) then v27 else q4)) (v32 : Int32) (hv32 : v32 = (p3 &&& (3 : Int32))) (v38 : Int64) (hv38 : v38 = (if v32 = (0 : Int32) then v27 else (if v32 = (1 : Int32) then (v27 ^^^ (4294967296 : Int64)) else (if v32 = (2 : Int32) then (v27 + (1 : Int64)) else q2)))) (v39 : Int64) (hv39 : v39 = (if v32 = (0 : Int32) then (1 : Int64) else (if v32 = (1 : Int32) then (0 : Int64) else (if v32 = (2 : Int32) then (0 : Int64) else (if q2 = v27 then (1 : Int64) else (0 : Int64)))))) (v195 : Int64) (hv195 : v195 = (own_f4 v38 p1)) (hc197 : v195 = v39) (hc203 : v30 = (own_f5 (0 : Int32) (2 : Int32) v38 v30)) (hc209 : ¬ (v30 = (own_f5 (1 : Int32) (2 : Int32) v38 v30))) : False := by
  have dv30 : ((p3 &&& (4 : Int32)) = (0 : Int32) ∧ (v30 = v27)) ∨ (¬ ((p3 &&& (4 : Int32)) = (0 : Int32)) ∧ (v30 = q4)) := (if cq0 : (p3 &&& (4 : Int32)) = (0 : Int32) then Or.inl ⟨cq0, (by rw [hv30, if_pos cq0])⟩ else Or.inr ⟨cq0, (by rw [hv30, if_neg cq0])⟩)
  clear hv30
  have dv38 : (v32 = (0 : Int32) ∧ (v38 = v27)) ∨ (¬ (v32 = (0 : Int32)) ∧ ((v32 = (1 : Int32) ∧ (v38 = (v27 ^^^ (4294967296 : Int64)))) ∨ (¬ (v32 = (1 : Int32)) ∧ ((v32 = (2 : Int32) ∧ (v38 = (v27 + (1 : Int64)))) ∨ (¬ (v32 = (2 : Int32)) ∧ (v38 = q2)))))) := (if cq0 : v32 = (0 : Int32) then Or.inl ⟨cq0, (by rw [hv38, if_pos cq0])⟩ else Or.inr ⟨cq0, (if cq1 : v32 = (1 : Int32) then Or.inl ⟨cq1, (by rw [hv38, if_neg cq0, if_pos cq1])⟩ else Or.inr ⟨cq1, (if cq2 : v32 = (2 : Int32) then Or.inl ⟨cq2, (by rw [hv38, if_neg cq0, if_neg cq1, if_pos cq2])⟩ else Or.inr ⟨cq2, (by rw [hv38, if_neg cq0, if_neg cq1, if_neg cq2])⟩)⟩)⟩)
  clear hv38
  have dv39 : (v32 = (0 : Int32) ∧ (v39 = (1 : Int64))) ∨ (¬ (v32 = (0 : Int32)) ∧ ((v32 = (1 : Int32) ∧ (v39 = (0 : Int64))) ∨ (¬ (v32 = (1 : Int32)) ∧ ((v32 = (2 : Int32) ∧ (v39 = (0 : Int64))) ∨ (¬ (v32 = (2 : Int32)) ∧ ((q2 = v27 ∧ (v39 = (1 : Int64))) ∨ (¬ (q2 = v27) ∧ (v39 = (0 : Int64))))))))) := (if cq0 : v32 = (0 : Int32) then Or.inl ⟨cq0, (by rw [hv39, if_pos cq0])⟩ else Or.inr ⟨cq0, (if cq1 : v32 = (1 : Int32) then Or.inl ⟨cq1, (by rw [hv39, if_neg cq0, if_pos cq1])⟩ else Or.inr ⟨cq1, (if cq2 : v32 = (2 : Int32) then Or.inl ⟨cq2, (by rw [hv39, if_neg cq0, if_neg cq1, if_pos cq2])⟩ else Or.inr ⟨cq2, (if cq3 : q2 = v27 then Or.inl ⟨cq3, (by rw [hv39, if_neg cq0, if_neg cq1, if_neg cq2, if_pos cq3])⟩ else Or.inr ⟨cq3, (by rw [hv39, if_neg cq0, if_neg cq1, if_neg cq2, if_neg cq3])⟩)⟩)⟩)⟩)
  clear hv39
  have := own_f4_cases v38 p1
  have := own_f5_cases (0 : Int32) (2 : Int32) v38 v30
  have := own_f5_cases (1 : Int32) (2 : Int32) v38 v30
  have := c_mask p0 (3 : Int32) 2 (by decide) (by decide)
  have := Int32.le_toInt ((p0 &&& (3 : Int32))); have := Int32.toInt_lt ((p0 &&& (3 : Int32)))
  have := c_i2l p1
  have := Int64.le_toInt ((p1.toInt64)); have := Int64.toInt_lt ((p1.toInt64))
  have := c_andS p3 (4 : Int32)
  have := Int32.le_toInt ((p3 &&& (4 : Int32))); have := Int32.toInt_lt ((p3 &&& (4 : Int32)))
  have := c_mask p3 (3 : Int32) 2 (by decide) (by decide)
  have := Int32.le_toInt ((p3 &&& (3 : Int32))); have := Int32.toInt_lt ((p3 &&& (3 : Int32)))
  have := c_ladd v27 (1 : Int64)
  have := Int64.le_toInt ((v27 + (1 : Int64))); have := Int64.toInt_lt ((v27 + (1 : Int64)))
  have := c_xorSL v27 (4294967296 : Int64)
  have := own_xne v27 (4294967296 : Int64) (by decide)
  have := Int64.le_toInt ((v27 ^^^ (4294967296 : Int64))); have := Int64.toInt_lt ((v27 ^^^ (4294967296 : Int64)))
  have := Int32.le_toInt p0; have := Int32.toInt_lt p0
  have := Int32.le_toInt p1; have := Int32.toInt_lt p1
  have := Int64.le_toInt q2; have := Int64.toInt_lt q2
  have := Int32.le_toInt p3; have := Int32.toInt_lt p3
  have := Int64.le_toInt q4; have := Int64.toInt_lt q4
  have := Int64.le_toInt v27; have := Int64.toInt_lt v27
  have := Int64.le_toInt v30; have := Int64.toInt_lt v30
  have := Int32.le_toInt v32; have := Int32.toInt_lt v32
  have := Int64.le_toInt v38; have := Int64.toInt_lt v38
  have := Int64.le_toInt v39; have := Int64.toInt_lt v39
  have := Int64.le_toInt v195; have := Int64.toInt_lt v195
  simp only [Int32.lt_iff_toInt_lt, Int64.lt_iff_toInt_lt, ← Int32.toInt_inj, ← Int64.toInt_inj, Int32.reduceToInt, Int64.reduceToInt, not_true_eq_false, not_false_eq_true, false_and, and_false, true_and, and_true, false_or, or_false, true_or, or_true] at *
  all_goals omega
set_option maxRecDepth 65536 in
set_option maxHeartbeats 40000000 in
theorem own_leaf0_17 (p0 : Int32) (p1 : Int32) (q2 : Int64) (p3 : Int32) (q4 : Int64) (hv26 : (2 : Int32) = (p0 &&& (3 : Int32))) (v27 : Int64) (hv27 : v27 = (p1.toInt64)) (v30 : Int64) (hv30 : v30 = (if (p3 &&& (4 : Int32)) = (0 : Int32) then v27 else q4)) (v32 : Int32) (hv32 : v32 = (p3 &&& (3 : Int32))) (v38 : Int64) (hv38 : v38 = (if v32 = (0 : Int32) then v27 else (if v32 = (1 : Int32) then (v27 ^^^ (4294967296 : Int64)) else (if v32 = (2 : Int32) then (v27 + (1 : Int64)) else q2)))) (v39 : Int64) (hv39 : v39 = (if v32 = (0 : Int32) then (1 : Int64) else (if v32 = (1 : Int32) then (0 : Int64) else (if v32 = (2 : Int32) then (0 : Int64) else (if q2 = v27 then (1 : Int64) else (0 : Int64)))))) (v195 : Int64) (hv195 : v195 = (own_f4 v38 p1)) (hc197 : v195 = v39) (hc203 : ¬ (v30 = (own_f5 (0 : Int32) (2 : Int32) v38 v30))) : False := by
  have dv30 : ((p3 &&& (4 : Int32)) = (0 : Int32) ∧ (v30 = v27)) ∨ (¬ ((p3 &&& (4 : Int32)) = (0 : Int32)) ∧ (v30 = q4)) := (if cq0 : (p3 &&& (4 : Int32)) = (0 : Int32) then Or.inl ⟨cq0, (by rw [hv30, if_pos cq0])⟩ else Or.inr ⟨cq0, (by rw [hv30, if_neg cq0])⟩)
  clear hv30
  have dv38 : (v32 = (0 : Int32) ∧ (v38 = v27)) ∨ (¬ (v32 = (0 : Int32)) ∧ ((v32 = (1 : Int32) ∧ (v38 = (v27 ^^^ (4294967296 : Int64)))) ∨ (¬ (v32 = (1 : Int32)) ∧ ((v32 = (2 : Int32) ∧ (v38 = (v27 + (1 : Int64)))) ∨ (¬ (v32 = (2 : Int32)) ∧ (v38 = q2)))))) := (if cq0 : v32 = (0 : Int32) then Or.inl ⟨cq0, (by rw [hv38, if_pos cq0])⟩ else Or.inr ⟨cq0, (if cq1 : v32 = (1 : Int32) then Or.inl ⟨cq1, (by rw [hv38, if_neg cq0, if_pos cq1])⟩ else Or.inr ⟨cq1, (if cq2 : v32 = (2 : Int32) then Or.inl ⟨cq2, (by rw [hv38, if_neg cq0, if_neg cq1, if_pos cq2])⟩ else Or.inr ⟨cq2, (by rw [hv38, if_neg cq0, if_neg cq1, if_neg cq2])⟩)⟩)⟩)
  clear hv38
  have dv39 : (v32 = (0 : Int32) ∧ (v39 = (1 : Int64))) ∨ (¬ (v32 = (0 : Int32)) ∧ ((v32 = (1 : Int32) ∧ (v39 = (0 : Int64))) ∨ (¬ (v32 = (1 : Int32)) ∧ ((v32 = (2 : Int32) ∧ (v39 = (0 : Int64))) ∨ (¬ (v32 = (2 : Int32)) ∧ ((q2 = v27 ∧ (v39 = (1 : Int64))) ∨ (¬ (q2 = v27) ∧ (v39 = (0 : Int64))))))))) := (if cq0 : v32 = (0 : Int32) then Or.inl ⟨cq0, (by rw [hv39, if_pos cq0])⟩ else Or.inr ⟨cq0, (if cq1 : v32 = (1 : Int32) then Or.inl ⟨cq1, (by rw [hv39, if_neg cq0, if_pos cq1])⟩ else Or.inr ⟨cq1, (if cq2 : v32 = (2 : Int32) then Or.inl ⟨cq2, (by rw [hv39, if_neg cq0, if_neg cq1, if_pos cq2])⟩ else Or.inr ⟨cq2, (if cq3 : q2 = v27 then Or.inl ⟨cq3, (by rw [hv39, if_neg cq0, if_neg cq1, if_neg cq2, if_pos cq3])⟩ else Or.inr ⟨cq3, (by rw [hv39, if_neg cq0, if_neg cq1, if_neg cq2, if_neg cq3])⟩)⟩)⟩)⟩)
  clear hv39
  have := own_f4_cases v38 p1
  have := own_f5_cases (0 : Int32) (2 : Int32) v38 v30
  have := c_mask p0 (3 : Int32) 2 (by decide) (by decide)
  have := Int32.le_toInt ((p0 &&& (3 : Int32))); have := Int32.toInt_lt ((p0 &&& (3 : Int32)))
  have := c_i2l p1
  have := Int64.le_toInt ((p1.toInt64)); have := Int64.toInt_lt ((p1.toInt64))
  have := c_andS p3 (4 : Int32)
  have := Int32.le_toInt ((p3 &&& (4 : Int32))); have := Int32.toInt_lt ((p3 &&& (4 : Int32)))
  have := c_mask p3 (3 : Int32) 2 (by decide) (by decide)
  have := Int32.le_toInt ((p3 &&& (3 : Int32))); have := Int32.toInt_lt ((p3 &&& (3 : Int32)))
  have := c_ladd v27 (1 : Int64)
  have := Int64.le_toInt ((v27 + (1 : Int64))); have := Int64.toInt_lt ((v27 + (1 : Int64)))
  have := c_xorSL v27 (4294967296 : Int64)
  have := own_xne v27 (4294967296 : Int64) (by decide)
  have := Int64.le_toInt ((v27 ^^^ (4294967296 : Int64))); have := Int64.toInt_lt ((v27 ^^^ (4294967296 : Int64)))
  have := Int32.le_toInt p0; have := Int32.toInt_lt p0
  have := Int32.le_toInt p1; have := Int32.toInt_lt p1
  have := Int64.le_toInt q2; have := Int64.toInt_lt q2
  have := Int32.le_toInt p3; have := Int32.toInt_lt p3
  have := Int64.le_toInt q4; have := Int64.toInt_lt q4
  have := Int64.le_toInt v27; have := Int64.toInt_lt v27
  have := Int64.le_toInt v30; have := Int64.toInt_lt v30
  have := Int32.le_toInt v32; have := Int32.toInt_lt v32
  have := Int64.le_toInt v38; have := Int64.toInt_lt v38
  have := Int64.le_toInt v39; have := Int64.toInt_lt v39
  have := Int64.le_toInt v195; have := Int64.toInt_lt v195
  simp only [Int32.lt_iff_toInt_lt, Int64.lt_iff_toInt_lt, ← Int32.toInt_inj, ← Int64.toInt_inj, Int32.reduceToInt, Int64.reduceToInt, not_true_eq_false, not_false_eq_true, false_and, and_false, true_and, and_true, false_or, or_false, true_or, or_true] at *
  all_goals omega
set_option maxRecDepth 65536 in
set_option maxHeartbeats 40000000 in
theorem own_leaf0_18 (p0 : Int32) (p1 : Int32) (q2 : Int64) (p3 : Int32) (q4 : Int64) (hv26 : (2 : Int32) = (p0 &&& (3 : Int32))) (v27 : Int64) (hv27 : v27 = (p1.toInt64)) (v30 : Int64) (hv30 : v30 = (if (p3 &&& (4 : Int32)) = (0 : Int32) then v27 else q4)) (v32 : Int32) (hv32 : v32 = (p3 &&& (3 : Int32))) (v38 : Int64) (hv38 : v38 = (if v32 = (0 : Int32) then v27 else (if v32 = (1 : Int32) then (v27 ^^^ (4294967296 : Int64)) else (if v32 = (2 : Int32) then (v27 + (1 : Int64)) else q2)))) (v39 : Int64) (hv39 : v39 = (if v32 = (0 : Int32) then (1 : Int64) else (if v32 = (1 : Int32) then (0 : Int64) else (if v32 = (2 : Int32) then (0 : Int64) else (if q2 = v27 then (1 : Int64) else (0 : Int64)))))) (v195 : Int64) (hv195 : v195 = (own_f4 v38 p1)) (hc197 : ¬ (v195 = v39)) : False := by
  have dv30 : ((p3 &&& (4 : Int32)) = (0 : Int32) ∧ (v30 = v27)) ∨ (¬ ((p3 &&& (4 : Int32)) = (0 : Int32)) ∧ (v30 = q4)) := (if cq0 : (p3 &&& (4 : Int32)) = (0 : Int32) then Or.inl ⟨cq0, (by rw [hv30, if_pos cq0])⟩ else Or.inr ⟨cq0, (by rw [hv30, if_neg cq0])⟩)
  clear hv30
  have dv38 : (v32 = (0 : Int32) ∧ (v38 = v27)) ∨ (¬ (v32 = (0 : Int32)) ∧ ((v32 = (1 : Int32) ∧ (v38 = (v27 ^^^ (4294967296 : Int64)))) ∨ (¬ (v32 = (1 : Int32)) ∧ ((v32 = (2 : Int32) ∧ (v38 = (v27 + (1 : Int64)))) ∨ (¬ (v32 = (2 : Int32)) ∧ (v38 = q2)))))) := (if cq0 : v32 = (0 : Int32) then Or.inl ⟨cq0, (by rw [hv38, if_pos cq0])⟩ else Or.inr ⟨cq0, (if cq1 : v32 = (1 : Int32) then Or.inl ⟨cq1, (by rw [hv38, if_neg cq0, if_pos cq1])⟩ else Or.inr ⟨cq1, (if cq2 : v32 = (2 : Int32) then Or.inl ⟨cq2, (by rw [hv38, if_neg cq0, if_neg cq1, if_pos cq2])⟩ else Or.inr ⟨cq2, (by rw [hv38, if_neg cq0, if_neg cq1, if_neg cq2])⟩)⟩)⟩)
  clear hv38
  have dv39 : (v32 = (0 : Int32) ∧ (v39 = (1 : Int64))) ∨ (¬ (v32 = (0 : Int32)) ∧ ((v32 = (1 : Int32) ∧ (v39 = (0 : Int64))) ∨ (¬ (v32 = (1 : Int32)) ∧ ((v32 = (2 : Int32) ∧ (v39 = (0 : Int64))) ∨ (¬ (v32 = (2 : Int32)) ∧ ((q2 = v27 ∧ (v39 = (1 : Int64))) ∨ (¬ (q2 = v27) ∧ (v39 = (0 : Int64))))))))) := (if cq0 : v32 = (0 : Int32) then Or.inl ⟨cq0, (by rw [hv39, if_pos cq0])⟩ else Or.inr ⟨cq0, (if cq1 : v32 = (1 : Int32) then Or.inl ⟨cq1, (by rw [hv39, if_neg cq0, if_pos cq1])⟩ else Or.inr ⟨cq1, (if cq2 : v32 = (2 : Int32) then Or.inl ⟨cq2, (by rw [hv39, if_neg cq0, if_neg cq1, if_pos cq2])⟩ else Or.inr ⟨cq2, (if cq3 : q2 = v27 then Or.inl ⟨cq3, (by rw [hv39, if_neg cq0, if_neg cq1, if_neg cq2, if_pos cq3])⟩ else Or.inr ⟨cq3, (by rw [hv39, if_neg cq0, if_neg cq1, if_neg cq2, if_neg cq3])⟩)⟩)⟩)⟩)
  clear hv39
  have := own_f4_cases v38 p1
  have := c_mask p0 (3 : Int32) 2 (by decide) (by decide)
  have := Int32.le_toInt ((p0 &&& (3 : Int32))); have := Int32.toInt_lt ((p0 &&& (3 : Int32)))
  have := c_i2l p1
  have := Int64.le_toInt ((p1.toInt64)); have := Int64.toInt_lt ((p1.toInt64))
  have := c_andS p3 (4 : Int32)
  have := Int32.le_toInt ((p3 &&& (4 : Int32))); have := Int32.toInt_lt ((p3 &&& (4 : Int32)))
  have := c_mask p3 (3 : Int32) 2 (by decide) (by decide)
  have := Int32.le_toInt ((p3 &&& (3 : Int32))); have := Int32.toInt_lt ((p3 &&& (3 : Int32)))
  have := c_ladd v27 (1 : Int64)
  have := Int64.le_toInt ((v27 + (1 : Int64))); have := Int64.toInt_lt ((v27 + (1 : Int64)))
  have := c_xorSL v27 (4294967296 : Int64)
  have := own_xne v27 (4294967296 : Int64) (by decide)
  have := Int64.le_toInt ((v27 ^^^ (4294967296 : Int64))); have := Int64.toInt_lt ((v27 ^^^ (4294967296 : Int64)))
  have := Int32.le_toInt p0; have := Int32.toInt_lt p0
  have := Int32.le_toInt p1; have := Int32.toInt_lt p1
  have := Int64.le_toInt q2; have := Int64.toInt_lt q2
  have := Int32.le_toInt p3; have := Int32.toInt_lt p3
  have := Int64.le_toInt q4; have := Int64.toInt_lt q4
  have := Int64.le_toInt v27; have := Int64.toInt_lt v27
  have := Int64.le_toInt v30; have := Int64.toInt_lt v30
  have := Int32.le_toInt v32; have := Int32.toInt_lt v32
  have := Int64.le_toInt v38; have := Int64.toInt_lt v38
  have := Int64.le_toInt v39; have := Int64.toInt_lt v39
  have := Int64.le_toInt v195; have := Int64.toInt_lt v195
  simp only [Int32.lt_iff_toInt_lt, Int64.lt_iff_toInt_lt, ← Int32.toInt_inj, ← Int64.toInt_inj, Int32.reduceToInt, Int64.reduceToInt, not_true_eq_false, not_false_eq_true, false_and, and_false, true_and, and_true, false_or, or_false, true_or, or_true] at *
  all_goals omega
set_option maxRecDepth 65536 in
set_option maxHeartbeats 40000000 in
theorem own_leaf0_20 (p0 : Int32) (p1 : Int32) (q2 : Int64) (p3 : Int32) (q4 : Int64) (hv26 : (3 : Int32) = (p0 &&& (3 : Int32))) (v27 : Int64) (hv27 : v27 = (p1.toInt64)) (v30 : Int64) (hv30 : v30 = (if (p3 &&& (4 : Int32)) = (0 : Int32) then v27 else q4)) (v32 : Int32) (hv32 : v32 = (p3 &&& (3 : Int32))) (v38 : Int64) (hv38 : v38 = (if v32 = (0 : Int32) then v27 else (if v32 = (1 : Int32) then (v27 ^^^ (4294967296 : Int64)) else (if v32 = (2 : Int32) then (v27 + (1 : Int64)) else q2)))) (v39 : Int64) (hv39 : v39 = (if v32 = (0 : Int32) then (1 : Int64) else (if v32 = (1 : Int32) then (0 : Int64) else (if v32 = (2 : Int32) then (0 : Int64) else (if q2 = v27 then (1 : Int64) else (0 : Int64)))))) (v245 : Int64) (hv245 : v245 = (own_f4 v38 p1)) (hc247 : v245 = v39) (hc253 : v30 = (own_f5 (0 : Int32) (3 : Int32) v38 v30)) (hc259 : v30 = (own_f5 (1 : Int32) (3 : Int32) v38 v30)) (hc265 : v30 = (own_f5 (2 : Int32) (3 : Int32) v38 v30)) (hc271 : ¬ (v38 = (own_f5 (3 : Int32) (3 : Int32) v38 v30))) : False := by
  have dv30 : ((p3 &&& (4 : Int32)) = (0 : Int32) ∧ (v30 = v27)) ∨ (¬ ((p3 &&& (4 : Int32)) = (0 : Int32)) ∧ (v30 = q4)) := (if cq0 : (p3 &&& (4 : Int32)) = (0 : Int32) then Or.inl ⟨cq0, (by rw [hv30, if_pos cq0])⟩ else Or.inr ⟨cq0, (by rw [hv30, if_neg cq0])⟩)
  clear hv30
  have dv38 : (v32 = (0 : Int32) ∧ (v38 = v27)) ∨ (¬ (v32 = (0 : Int32)) ∧ ((v32 = (1 : Int32) ∧ (v38 = (v27 ^^^ (4294967296 : Int64)))) ∨ (¬ (v32 = (1 : Int32)) ∧ ((v32 = (2 : Int32) ∧ (v38 = (v27 + (1 : Int64)))) ∨ (¬ (v32 = (2 : Int32)) ∧ (v38 = q2)))))) := (if cq0 : v32 = (0 : Int32) then Or.inl ⟨cq0, (by rw [hv38, if_pos cq0])⟩ else Or.inr ⟨cq0, (if cq1 : v32 = (1 : Int32) then Or.inl ⟨cq1, (by rw [hv38, if_neg cq0, if_pos cq1])⟩ else Or.inr ⟨cq1, (if cq2 : v32 = (2 : Int32) then Or.inl ⟨cq2, (by rw [hv38, if_neg cq0, if_neg cq1, if_pos cq2])⟩ else Or.inr ⟨cq2, (by rw [hv38, if_neg cq0, if_neg cq1, if_neg cq2])⟩)⟩)⟩)
  clear hv38
  have dv39 : (v32 = (0 : Int32) ∧ (v39 = (1 : Int64))) ∨ (¬ (v32 = (0 : Int32)) ∧ ((v32 = (1 : Int32) ∧ (v39 = (0 : Int64))) ∨ (¬ (v32 = (1 : Int32)) ∧ ((v32 = (2 : Int32) ∧ (v39 = (0 : Int64))) ∨ (¬ (v32 = (2 : Int32)) ∧ ((q2 = v27 ∧ (v39 = (1 : Int64))) ∨ (¬ (q2 = v27) ∧ (v39 = (0 : Int64))))))))) := (if cq0 : v32 = (0 : Int32) then Or.inl ⟨cq0, (by rw [hv39, if_pos cq0])⟩ else Or.inr ⟨cq0, (if cq1 : v32 = (1 : Int32) then Or.inl ⟨cq1, (by rw [hv39, if_neg cq0, if_pos cq1])⟩ else Or.inr ⟨cq1, (if cq2 : v32 = (2 : Int32) then Or.inl ⟨cq2, (by rw [hv39, if_neg cq0, if_neg cq1, if_pos cq2])⟩ else Or.inr ⟨cq2, (if cq3 : q2 = v27 then Or.inl ⟨cq3, (by rw [hv39, if_neg cq0, if_neg cq1, if_neg cq2, if_pos cq3])⟩ else Or.inr ⟨cq3, (by rw [hv39, if_neg cq0, if_neg cq1, if_neg cq2, if_neg cq3])⟩)⟩)⟩)⟩)
  clear hv39
  have := own_f4_cases v38 p1
  have := own_f5_cases (0 : Int32) (3 : Int32) v38 v30
  have := own_f5_cases (1 : Int32) (3 : Int32) v38 v30
  have := own_f5_cases (2 : Int32) (3 : Int32) v38 v30
  have := own_f5_cases (3 : Int32) (3 : Int32) v38 v30
  have := c_mask p0 (3 : Int32) 2 (by decide) (by decide)
  have := Int32.le_toInt ((p0 &&& (3 : Int32))); have := Int32.toInt_lt ((p0 &&& (3 : Int32)))
  have := c_i2l p1
  have := Int64.le_toInt ((p1.toInt64)); have := Int64.toInt_lt ((p1.toInt64))
  have := c_andS p3 (4 : Int32)
  have := Int32.le_toInt ((p3 &&& (4 : Int32))); have := Int32.toInt_lt ((p3 &&& (4 : Int32)))
  have := c_mask p3 (3 : Int32) 2 (by decide) (by decide)
  have := Int32.le_toInt ((p3 &&& (3 : Int32))); have := Int32.toInt_lt ((p3 &&& (3 : Int32)))
  have := c_ladd v27 (1 : Int64)
  have := Int64.le_toInt ((v27 + (1 : Int64))); have := Int64.toInt_lt ((v27 + (1 : Int64)))
  have := c_xorSL v27 (4294967296 : Int64)
  have := own_xne v27 (4294967296 : Int64) (by decide)
  have := Int64.le_toInt ((v27 ^^^ (4294967296 : Int64))); have := Int64.toInt_lt ((v27 ^^^ (4294967296 : Int64)))
  have := Int32.le_toInt p0; have := Int32.toInt_lt p0
  have := Int32.le_toInt p1; have := Int32.toInt_lt p1
  have := Int64.le_toInt q2; have := Int64.toInt_lt q2
  have := Int32.le_toInt p3; have := Int32.toInt_lt p3
  have := Int64.le_toInt q4; have := Int64.toInt_lt q4
  have := Int64.le_toInt v27; have := Int64.toInt_lt v27
  have := Int64.le_toInt v30; have := Int64.toInt_lt v30
  have := Int32.le_toInt v32; have := Int32.toInt_lt v32
  have := Int64.le_toInt v38; have := Int64.toInt_lt v38
  have := Int64.le_toInt v39; have := Int64.toInt_lt v39
  have := Int64.le_toInt v245; have := Int64.toInt_lt v245
  simp only [Int32.lt_iff_toInt_lt, Int64.lt_iff_toInt_lt, ← Int32.toInt_inj, ← Int64.toInt_inj, Int32.reduceToInt, Int64.reduceToInt, not_true_eq_false, not_false_eq_true, false_and, and_false, true_and, and_true, false_or, or_false, true_or, or_true] at *
  all_goals omega
set_option maxRecDepth 65536 in
set_option maxHeartbeats 40000000 in
theorem own_leaf0_21 (p0 : Int32) (p1 : Int32) (q2 : Int64) (p3 : Int32) (q4 : Int64) (hv26 : (3 : Int32) = (p0 &&& (3 : Int32))) (v27 : Int64) (hv27 : v27 = (p1.toInt64)) (v30 : Int64) (hv30 : v30 = (if (p3 &&& (4 : Int32)) = (0 : Int32) then v27 else q4)) (v32 : Int32) (hv32 : v32 = (p3 &&& (3 : Int32))) (v38 : Int64) (hv38 : v38 = (if v32 = (0 : Int32) then v27 else (if v32 = (1 : Int32) then (v27 ^^^ (4294967296 : Int64)) else (if v32 = (2 : Int32) then (v27 + (1 : Int64)) else q2)))) (v39 : Int64) (hv39 : v39 = (if v32 = (0 : Int32) then (1 : Int64) else (if v32 = (1 : Int32) then (0 : Int64) else (if v32 = (2 : Int32) then (0 : Int64) else (if q2 = v27 then (1 : Int64) else (0 : Int64)))))) (v245 : Int64) (hv245 : v245 = (own_f4 v38 p1)) (hc247 : v245 = v39) (hc253 : v30 = (own_f5 (0 : Int32) (3 : Int32) v38 v30)) (hc259 : v30 = (own_f5 (1 : Int32) (3 : Int32) v38 v30)) (hc265 : ¬ (v30 = (own_f5 (2 : Int32) (3 : Int32) v38 v30))) : False := by
  have dv30 : ((p3 &&& (4 : Int32)) = (0 : Int32) ∧ (v30 = v27)) ∨ (¬ ((p3 &&& (4 : Int32)) = (0 : Int32)) ∧ (v30 = q4)) := (if cq0 : (p3 &&& (4 : Int32)) = (0 : Int32) then Or.inl ⟨cq0, (by rw [hv30, if_pos cq0])⟩ else Or.inr ⟨cq0, (by rw [hv30, if_neg cq0])⟩)
  clear hv30
  have dv38 : (v32 = (0 : Int32) ∧ (v38 = v27)) ∨ (¬ (v32 = (0 : Int32)) ∧ ((v32 = (1 : Int32) ∧ (v38 = (v27 ^^^ (4294967296 : Int64)))) ∨ (¬ (v32 = (1 : Int32)) ∧ ((v32 = (2 : Int32) ∧ (v38 = (v27 + (1 : Int64)))) ∨ (¬ (v32 = (2 : Int32)) ∧ (v38 = q2)))))) := (if cq0 : v32 = (0 : Int32) then Or.inl ⟨cq0, (by rw [hv38, if_pos cq0])⟩ else Or.inr ⟨cq0, (if cq1 : v32 = (1 : Int32) then Or.inl ⟨cq1, (by rw [hv38, if_neg cq0, if_pos cq1])⟩ else Or.inr ⟨cq1, (if cq2 : v32 = (2 : Int32) then Or.inl ⟨cq2, (by rw [hv38, if_neg cq0, if_neg cq1, if_pos cq2])⟩ else Or.inr ⟨cq2, (by rw [hv38, if_neg cq0, if_neg cq1, if_neg cq2])⟩)⟩)⟩)
  clear hv38
  have dv39 : (v32 = (0 : Int32) ∧ (v39 = (1 : Int64))) ∨ (¬ (v32 = (0 : Int32)) ∧ ((v32 = (1 : Int32) ∧ (v39 = (0 : Int64))) ∨ (¬ (v32 = (1 : Int32)) ∧ ((v32 = (2 : Int32) ∧ (v39 = (0 : Int64))) ∨ (¬ (v32 = (2 : Int32)) ∧ ((q2 = v27 ∧ (v39 = (1 : Int64))) ∨ (¬ (q2 = v27) ∧ (v39 = (0 : Int64))))))))) := (if cq0 : v32 = (0 : Int32) then Or.inl ⟨cq0, (by rw [hv39, if_pos cq0])⟩ else Or.inr ⟨cq0, (if cq1 : v32 = (1 : Int32) then Or.inl ⟨cq1, (by rw [hv39, if_neg cq0, if_pos cq1])⟩ else Or.inr ⟨cq1, (if cq2 : v32 = (2 : Int32) then Or.inl ⟨cq2, (by rw [hv39, if_neg cq0, if_neg cq1, if_pos cq2])⟩ else Or.inr ⟨cq2, (if cq3 : q2 = v27 then Or.inl ⟨cq3, (by rw [hv39, if_neg cq0, if_neg cq1, if_neg cq2, if_pos cq3])⟩ else Or.inr ⟨cq3, (by rw [hv39, if_neg cq0, if_neg cq1, if_neg cq2, if_neg cq3])⟩)⟩)⟩)⟩)
  clear hv39
  have := own_f4_cases v38 p1
  have := own_f5_cases (0 : Int32) (3 : Int32) v38 v30
  have := own_f5_cases (1 : Int32) (3 : Int32) v38 v30
  have := own_f5_cases (2 : Int32) (3 : Int32) v38 v30
  have := c_mask p0 (3 : Int32) 2 (by decide) (by decide)
  have := Int32.le_toInt ((p0 &&& (3 : Int32))); have := Int32.toInt_lt ((p0 &&& (3 : Int32)))
  have := c_i2l p1
  have := Int64.le_toInt ((p1.toInt64)); have := Int64.toInt_lt ((p1.toInt64))
  have := c_andS p3 (4 : Int32)
  have := Int32.le_toInt ((p3 &&& (4 : Int32))); have := Int32.toInt_lt ((p3 &&& (4 : Int32)))
  have := c_mask p3 (3 : Int32) 2 (by decide) (by decide)
  have := Int32.le_toInt ((p3 &&& (3 : Int32))); have := Int32.toInt_lt ((p3 &&& (3 : Int32)))
  have := c_ladd v27 (1 : Int64)
  have := Int64.le_toInt ((v27 + (1 : Int64))); have := Int64.toInt_lt ((v27 + (1 : Int64)))
  have := c_xorSL v27 (4294967296 : Int64)
  have := own_xne v27 (4294967296 : Int64) (by decide)
  have := Int64.le_toInt ((v27 ^^^ (4294967296 : Int64))); have := Int64.toInt_lt ((v27 ^^^ (4294967296 : Int64)))
  have := Int32.le_toInt p0; have := Int32.toInt_lt p0
  have := Int32.le_toInt p1; have := Int32.toInt_lt p1
  have := Int64.le_toInt q2; have := Int64.toInt_lt q2
  have := Int32.le_toInt p3; have := Int32.toInt_lt p3
  have := Int64.le_toInt q4; have := Int64.toInt_lt q4
  have := Int64.le_toInt v27; have := Int64.toInt_lt v27
  have := Int64.le_toInt v30; have := Int64.toInt_lt v30
  have := Int32.le_toInt v32; have := Int32.toInt_lt v32
  have := Int64.le_toInt v38; have := Int64.toInt_lt v38
  have := Int64.le_toInt v39; have := Int64.toInt_lt v39
  have := Int64.le_toInt v245; have := Int64.toInt_lt v245
  simp only [Int32.lt_iff_toInt_lt, Int64.lt_iff_toInt_lt, ← Int32.toInt_inj, ← Int64.toInt_inj, Int32.reduceToInt, Int64.reduceToInt, not_true_eq_false, not_false_eq_true, false_and, and_false, true_and, and_true, false_or, or_false, true_or, or_true] at *
  all_goals omega
set_option maxRecDepth 65536 in
set_option maxHeartbeats 40000000 in
theorem own_leaf0_22 (p0 : Int32) (p1 : Int32) (q2 : Int64) (p3 : Int32) (q4 : Int64) (hv26 : (3 : Int32) = (p0 &&& (3 : Int32))) (v27 : Int64) (hv27 : v27 = (p1.toInt64)) (v30 : Int64) (hv30 : v30 = (if (p3 &&& (4 : Int32)) = (0 : Int32) then v27 else q4)) (v32 : Int32) (hv32 : v32 = (p3 &&& (3 : Int32))) (v38 : Int64) (hv38 : v38 = (if v32 = (0 : Int32) then v27 else (if v32 = (1 : Int32) then (v27 ^^^ (4294967296 : Int64)) else (if v32 = (2 : Int32) then (v27 + (1 : Int64)) else q2)))) (v39 : Int64) (hv39 : v39 = (if v32 = (0 : Int32) then (1 : Int64) else (if v32 = (1 : Int32) then (0 : Int64) else (if v32 = (2 : Int32) then (0 : Int64) else (if q2 = v27 then (1 : Int64) else (0 : Int64)))))) (v245 : Int64) (hv245 : v245 = (own_f4 v38 p1)) (hc247 : v245 = v39) (hc253 : v30 = (own_f5 (0 : Int32) (3 : Int32) v38 v30)) (hc259 : ¬ (v30 = (own_f5 (1 : Int32) (3 : Int32) v38 v30))) : False := by
  have dv30 : ((p3 &&& (4 : Int32)) = (0 : Int32) ∧ (v30 = v27)) ∨ (¬ ((p3 &&& (4 : Int32)) = (0 : Int32)) ∧ (v30 = q4)) := (if cq0 : (p3 &&& (4 : Int32)) = (0 : Int32) then Or.inl ⟨cq0, (by rw [hv30, if_pos cq0])⟩ else Or.inr ⟨cq0, (by rw [hv30, if_neg cq0])⟩)
  clear hv30
  have dv38 : (v32 = (0 : Int32) ∧ (v38 = v27)) ∨ (¬ (v32 = (0 : Int32)) ∧ ((v32 = (1 : Int32) ∧ (v38 = (v27 ^^^ (4294967296 : Int64)))) ∨ (¬ (v32 = (1 : Int32)) ∧ ((v32 = (2 : Int32) ∧ (v38 = (v27 + (1 : Int64)))) ∨ (¬ (v32 = (2 : Int32)) ∧ (v38 = q2)))))) := (if cq0 : v32 = (0 : Int32) then Or.inl ⟨cq0, (by rw [hv38, if_pos cq0])⟩ else Or.inr ⟨cq0, (if cq1 : v32 = (1 : Int32) then Or.inl ⟨cq1, (by rw [hv38, if_neg cq0, if_pos cq1])⟩ else Or.inr ⟨cq1, (if cq2 : v32 = (2 : Int32) then Or.inl ⟨cq2, (by rw [hv38, if_neg cq0, if_neg cq1, if_pos cq2])⟩ else Or.inr ⟨cq2, (by rw [hv38, if_neg cq0, if_neg cq1, if_neg cq2])⟩)⟩)⟩)
  clear hv38
  have dv39 : (v32 = (0 : Int32) ∧ (v39 = (1 : Int64))) ∨ (¬ (v32 = (0 : Int32)) ∧ ((v32 = (1 : Int32) ∧ (v39 = (0 : Int64))) ∨ (¬ (v32 = (1 : Int32)) ∧ ((v32 = (2 : Int32) ∧ (v39 = (0 : Int64))) ∨ (¬ (v32 = (2 : Int32)) ∧ ((q2 = v27 ∧ (v39 = (1 : Int64))) ∨ (¬ (q2 = v27) ∧ (v39 = (0 : Int64))))))))) := (if cq0 : v32 = (0 : Int32) then Or.inl ⟨cq0, (by rw [hv39, if_pos cq0])⟩ else Or.inr ⟨cq0, (if cq1 : v32 = (1 : Int32) then Or.inl ⟨cq1, (by rw [hv39, if_neg cq0, if_pos cq1])⟩ else Or.inr ⟨cq1, (if cq2 : v32 = (2 : Int32) then Or.inl ⟨cq2, (by rw [hv39, if_neg cq0, if_neg cq1, if_pos cq2])⟩ else Or.inr ⟨cq2, (if cq3 : q2 = v27 then Or.inl ⟨cq3, (by rw [hv39, if_neg cq0, if_neg cq1, if_neg cq2, if_pos cq3])⟩ else Or.inr ⟨cq3, (by rw [hv39, if_neg cq0, if_neg cq1, if_neg cq2, if_neg cq3])⟩)⟩)⟩)⟩)
  clear hv39
  have := own_f4_cases v38 p1
  have := own_f5_cases (0 : Int32) (3 : Int32) v38 v30
  have := own_f5_cases (1 : Int32) (3 : Int32) v38 v30
  have := c_mask p0 (3 : Int32) 2 (by decide) (by decide)
  have := Int32.le_toInt ((p0 &&& (3 : Int32))); have := Int32.toInt_lt ((p0 &&& (3 : Int32)))
  have := c_i2l p1
  have := Int64.le_toInt ((p1.toInt64)); have := Int64.toInt_lt ((p1.toInt64))
  have := c_andS p3 (4 : Int32)
  have := Int32.le_toInt ((p3 &&& (4 : Int32))); have := Int32.toInt_lt ((p3 &&& (4 : Int32)))
  have := c_mask p3 (3 : Int32) 2 (by decide) (by decide)
  have := Int32.le_toInt ((p3 &&& (3 : Int32))); have := Int32.toInt_lt ((p3 &&& (3 : Int32)))
  have := c_ladd v27 (1 : Int64)
  have := Int64.le_toInt ((v27 + (1 : Int64))); have := Int64.toInt_lt ((v27 + (1 : Int64)))
  have := c_xorSL v27 (4294967296 : Int64)
  have := own_xne v27 (4294967296 : Int64) (by decide)
  have := Int64.le_toInt ((v27 ^^^ (4294967296 : Int64))); have := Int64.toInt_lt ((v27 ^^^ (4294967296 : Int64)))
  have := Int32.le_toInt p0; have := Int32.toInt_lt p0
  have := Int32.le_toInt p1; have := Int32.toInt_lt p1
  have := Int64.le_toInt q2; have := Int64.toInt_lt q2
  have := Int32.le_toInt p3; have := Int32.toInt_lt p3
  have := Int64.le_toInt q4; have := Int64.toInt_lt q4
  have := Int64.le_toInt v27; have := Int64.toInt_lt v27
  have := Int64.le_toInt v30; have := Int64.toInt_lt v30
  have := Int32.le_toInt v32; have := Int32.toInt_lt v32
  have := Int64.le_toInt v38; have := Int64.toInt_lt v38
  have := Int64.le_toInt v39; have := Int64.toInt_lt v39
  have := Int64.le_toInt v245; have := Int64.toInt_lt v245
  simp only [Int32.lt_iff_toInt_lt, Int64.lt_iff_toInt_lt, ← Int32.toInt_inj, ← Int64.toInt_inj, Int32.reduceToInt, Int64.reduceToInt, not_true_eq_false, not_false_eq_true, false_and, and_false, true_and, and_true, false_or, or_false, true_or, or_true] at *
  all_goals omega
set_option maxRecDepth 65536 in
set_option maxHeartbeats 40000000 in
theorem own_leaf0_23 (p0 : Int32) (p1 : Int32) (q2 : Int64) (p3 : Int32) (q4 : Int64) (hv26 : (3 : Int32) = (p0 &&& (3 : Int32))) (v27 : Int64) (hv27 : v27 = (p1.toInt64)) (v30 : Int64) (hv30 : v30 = (if (p3 &&& (4 : Int32)) = (0 : Int32) then v27 else q4)) (v32 : Int32) (hv32 : v32 = (p3 &&& (3 : Int32))) (v38 : Int64) (hv38 : v38 = (if v32 = (0 : Int32) then v27 else (if v32 = (1 : Int32) then (v27 ^^^ (4294967296 : Int64)) else (if v32 = (2 : Int32) then (v27 + (1 : Int64)) else q2)))) (v39 : Int64) (hv39 : v39 = (if v32 = (0 : Int32) then (1 : Int64) else (if v32 = (1 : Int32) then (0 : Int64) else (if v32 = (2 : Int32) then (0 : Int64) else (if q2 = v27 then (1 : Int64) else (0 : Int64)))))) (v245 : Int64) (hv245 : v245 = (own_f4 v38 p1)) (hc247 : v245 = v39) (hc253 : ¬ (v30 = (own_f5 (0 : Int32) (3 : Int32) v38 v30))) : False := by
  have dv30 : ((p3 &&& (4 : Int32)) = (0 : Int32) ∧ (v30 = v27)) ∨ (¬ ((p3 &&& (4 : Int32)) = (0 : Int32)) ∧ (v30 = q4)) := (if cq0 : (p3 &&& (4 : Int32)) = (0 : Int32) then Or.inl ⟨cq0, (by rw [hv30, if_pos cq0])⟩ else Or.inr ⟨cq0, (by rw [hv30, if_neg cq0])⟩)
  clear hv30
  have dv38 : (v32 = (0 : Int32) ∧ (v38 = v27)) ∨ (¬ (v32 = (0 : Int32)) ∧ ((v32 = (1 : Int32) ∧ (v38 = (v27 ^^^ (4294967296 : Int64)))) ∨ (¬ (v32 = (1 : Int32)) ∧ ((v32 = (2 : Int32) ∧ (v38 = (v27 + (1 : Int64)))) ∨ (¬ (v32 = (2 : Int32)) ∧ (v38 = q2)))))) := (if cq0 : v32 = (0 : Int32) then Or.inl ⟨cq0, (by rw [hv38, if_pos cq0])⟩ else Or.inr ⟨cq0, (if cq1 : v32 = (1 : Int32) then Or.inl ⟨cq1, (by rw [hv38, if_neg cq0, if_pos cq1])⟩ else Or.inr ⟨cq1, (if cq2 : v32 = (2 : Int32) then Or.inl ⟨cq2, (by rw [hv38, if_neg cq0, if_neg cq1, if_pos cq2])⟩ else Or.inr ⟨cq2, (by rw [hv38, if_neg cq0, if_neg cq1, if_neg cq2])⟩)⟩)⟩)
  clear hv38
  have dv39 : (v32 = (0 : Int32) ∧ (v39 = (1 : Int64))) ∨ (¬ (v32 = (0 : Int32)) ∧ ((v32 = (1 : Int32) ∧ (v39 = (0 : Int64))) ∨ (¬ (v32 = (1 : Int32)) ∧ ((v32 = (2 : Int32) ∧ (v39 = (0 : Int64))) ∨ (¬ (v32 = (2 : Int32)) ∧ ((q2 = v27 ∧ (v39 = (1 : Int64))) ∨ (¬ (q2 = v27) ∧ (v39 = (0 : Int64))))))))) := (if cq0 : v32 = (0 : Int32) then Or.inl ⟨cq0, (by rw [hv39, if_pos cq0])⟩ else Or.inr ⟨cq0, (if cq1 : v32 = (1 : Int32) then Or.inl ⟨cq1, (by rw [hv39, if_neg cq0, if_pos cq1])⟩ else Or.inr ⟨cq1, (if cq2 : v32 = (2 : Int32) then Or.inl ⟨cq2, (by rw [hv39, if_neg cq0, if_neg cq1, if_pos cq2])⟩ else Or.inr ⟨cq2, (if cq3 : q2 = v27 then Or.inl ⟨cq3, (by rw [hv39, if_neg cq0, if_neg cq1, if_neg cq2, if_pos cq3])⟩ else Or.inr ⟨cq3, (by rw [hv39, if_neg cq0, if_neg cq1, if_neg cq2, if_neg cq3])⟩)⟩)⟩)⟩)
  clear hv39
  have := own_f4_cases v38 p1
  have := own_f5_cases (0 : Int32) (3 : Int32) v38 v30
  have := c_mask p0 (3 : Int32) 2 (by decide) (by decide)
  have := Int32.le_toInt ((p0 &&& (3 : Int32))); have := Int32.toInt_lt ((p0 &&& (3 : Int32)))
  have := c_i2l p1
  have := Int64.le_toInt ((p1.toInt64)); have := Int64.toInt_lt ((p1.toInt64))
  have := c_andS p3 (4 : Int32)
  have := Int32.le_toInt ((p3 &&& (4 : Int32))); have := Int32.toInt_lt ((p3 &&& (4 : Int32)))
  have := c_mask p3 (3 : Int32) 2 (by decide) (by decide)
  have := Int32.le_toInt ((p3 &&& (3 : Int32))); have := Int32.toInt_lt ((p3 &&& (3 : Int32)))
  have := c_ladd v27 (1 : Int64)
  have := Int64.le_toInt ((v27 + (1 : Int64))); have := Int64.toInt_lt ((v27 + (1 : Int64)))
  have := c_xorSL v27 (4294967296 : Int64)
  have := own_xne v27 (4294967296 : Int64) (by decide)
  have := Int64.le_toInt ((v27 ^^^ (4294967296 : Int64))); have := Int64.toInt_lt ((v27 ^^^ (4294967296 : Int64)))
  have := Int32.le_toInt p0; have := Int32.toInt_lt p0
  have := Int32.le_toInt p1; have := Int32.toInt_lt p1
  have := Int64.le_toInt q2; have := Int64.toInt_lt q2
  have := Int32.le_toInt p3; have := Int32.toInt_lt p3
  have := Int64.le_toInt q4; have := Int64.toInt_lt q4
  have := Int64.le_toInt v27; have := Int64.toInt_lt v27
  have := Int64.le_toInt v30; have := Int64.toInt_lt v30
  have := Int32.le_toInt v32; have := Int32.toInt_lt v32
  have := Int64.le_toInt v38; have := Int64.toInt_lt v38
  have := Int64.le_toInt v39; have := Int64.toInt_lt v39
  have := Int64.le_toInt v245; have := Int64.toInt_lt v245
  simp only [Int32.lt_iff_toInt_lt, Int64.lt_iff_toInt_lt, ← Int32.toInt_inj, ← Int64.toInt_inj, Int32.reduceToInt, Int64.reduceToInt, not_true_eq_false, not_false_eq_true, false_and, and_false, true_and, and_true, false_or, or_false, true_or, or_true] at *
  all_goals omega
set_option maxRecDepth 65536 in
set_option maxHeartbeats 40000000 in
theorem own_leaf0_24 (p0 : Int32) (p1 : Int32) (q2 : Int64) (p3 : Int32) (q4 : Int64) (hv26 : (3 : Int32) = (p0 &&& (3 : Int32))) (v27 : Int64) (hv27 : v27 = (p1.toInt64)) (v30 : Int64) (hv30 : v30 = (if (p3 &&& (4 : Int32)) = (0 : Int32) then v27 else q4)) (v32 : Int32) (hv32 : v32 = (p3 &&& (3 : Int32))) (v38 : Int64) (hv38 : v38 = (if v32 = (0 : Int32) then v27 else (if v32 = (1 : Int32) then (v27 ^^^ (4294967296 : Int64)) else (if v32 = (2 : Int32) then (v27 + (1 : Int64)) else q2)))) (v39 : Int64) (hv39 : v39 = (if v32 = (0 : Int32) then (1 : Int64) else (if v32 = (1 : Int32) then (0 : Int64) else (if v32 = (2 : Int32) then (0 : Int64) else (if q2 = v27 then (1 : Int64) else (0 : Int64)))))) (v245 : Int64) (hv245 : v245 = (own_f4 v38 p1)) (hc247 : ¬ (v245 = v39)) : False := by
  have dv30 : ((p3 &&& (4 : Int32)) = (0 : Int32) ∧ (v30 = v27)) ∨ (¬ ((p3 &&& (4 : Int32)) = (0 : Int32)) ∧ (v30 = q4)) := (if cq0 : (p3 &&& (4 : Int32)) = (0 : Int32) then Or.inl ⟨cq0, (by rw [hv30, if_pos cq0])⟩ else Or.inr ⟨cq0, (by rw [hv30, if_neg cq0])⟩)
  clear hv30
  have dv38 : (v32 = (0 : Int32) ∧ (v38 = v27)) ∨ (¬ (v32 = (0 : Int32)) ∧ ((v32 = (1 : Int32) ∧ (v38 = (v27 ^^^ (4294967296 : Int64)))) ∨ (¬ (v32 = (1 : Int32)) ∧ ((v32 = (2 : Int32) ∧ (v38 = (v27 + (1 : Int64)))) ∨ (¬ (v32 = (2 : Int32)) ∧ (v38 = q2)))))) := (if cq0 : v32 = (0 : Int32) then Or.inl ⟨cq0, (by rw [hv38, if_pos cq0])⟩ else Or.inr ⟨cq0, (if cq1 : v32 = (1 : Int32) then Or.inl ⟨cq1, (by rw [hv38, if_neg cq0, if_pos cq1])⟩ else Or.inr ⟨cq1, (if cq2 : v32 = (2 : Int32) then Or.inl ⟨cq2, (by rw [hv38, if_neg cq0, if_neg cq1, if_pos cq2])⟩ else Or.inr ⟨cq2, (by rw [hv38, if_neg cq0, if_neg cq1, if_neg cq2])⟩)⟩)⟩)
  clear hv38
  have dv39 : (v32 = (0 : Int32) ∧ (v39 = (1 : Int64))) ∨ (¬ (v32 = (0 : Int32)) ∧ ((v32 = (1 : Int32) ∧ (v39 = (0 : Int64))) ∨ (¬ (v32 = (1 : Int32)) ∧ ((v32 = (2 : Int32) ∧ (v39 = (0 : Int64))) ∨ (¬ (v32 = (2 : Int32)) ∧ ((q2 = v27 ∧ (v39 = (1 : Int64))) ∨ (¬ (q2 = v27) ∧ (v39 = (0 : Int64))))))))) := (if cq0 : v32 = (0 : Int32) then Or.inl ⟨cq0, (by rw [hv39, if_pos cq0])⟩ else Or.inr ⟨cq0, (if cq1 : v32 = (1 : Int32) then Or.inl ⟨cq1, (by rw [hv39, if_neg cq0, if_pos cq1])⟩ else Or.inr ⟨cq1, (if cq2 : v32 = (2 : Int32) then Or.inl ⟨cq2, (by rw [hv39, if_neg cq0, if_neg cq1, if_pos cq2])⟩ else Or.inr ⟨cq2, (if cq3 : q2 = v27 then Or.inl ⟨cq3, (by rw [hv39, if_neg cq0, if_neg cq1, if_neg cq2, if_pos cq3])⟩ else Or.inr ⟨cq3, (by rw [hv39, if_neg cq0, if_neg cq1, if_neg cq2, if_neg cq3])⟩)⟩)⟩)⟩)
  clear hv39
  have := own_f4_cases v38 p1
  have := c_mask p0 (3 : Int32) 2 (by decide) (by decide)
  have := Int32.le_toInt ((p0 &&& (3 : Int32))); have := Int32.toInt_lt ((p0 &&& (3 : Int32)))
  have := c_i2l p1
  have := Int64.le_toInt ((p1.toInt64)); have := Int64.toInt_lt ((p1.toInt64))
  have := c_andS p3 (4 : Int32)
  have := Int32.le_toInt ((p3 &&& (4 : Int32))); have := Int32.toInt_lt ((p3 &&& (4 : Int32)))
  have := c_mask p3 (3 : Int32) 2 (by decide) (by decide)
  have := Int32.le_toInt ((p3 &&& (3 : Int32))); have := Int32.toInt_lt ((p3 &&& (3 : Int32)))
  have := c_ladd v27 (1 : Int64)
  have := Int64.le_toInt ((v27 + (1 : Int64))); have := Int64.toInt_lt ((v27 + (1 : Int64)))
  have := c_xorSL v27 (4294967296 : Int64)
  have := own_xne v27 (4294967296 : Int64) (by decide)
  have := Int64.le_toInt ((v27 ^^^ (4294967296 : Int64))); have := Int64.toInt_lt ((v27 ^^^ (4294967296 : Int64)))
  have := Int32.le_toInt p0; have := Int32.toInt_lt p0
  have := Int32.le_toInt p1; have := Int32.toInt_lt p1
  have := Int64.le_toInt q2; have := Int64.toInt_lt q2
  have := Int32.le_toInt p3; have := Int32.toInt_lt p3
  have := Int64.le_toInt q4; have := Int64.toInt_lt q4
  have := Int64.le_toInt v27; have := Int64.toInt_lt v27
  have := Int64.le_toInt v30; have := Int64.toInt_lt v30
  have := Int32.le_toInt v32; have := Int32.toInt_lt v32
  have := Int64.le_toInt v38; have := Int64.toInt_lt v38
  have := Int64.le_toInt v39; have := Int64.toInt_lt v39
  have := Int64.le_toInt v245; have := Int64.toInt_lt v245
  simp only [Int32.lt_iff_toInt_lt, Int64.lt_iff_toInt_lt, ← Int32.toInt_inj, ← Int64.toInt_inj, Int32.reduceToInt, Int64.reduceToInt, not_true_eq_false, not_false_eq_true, false_and, and_false, true_and, and_true, false_or, or_false, true_or, or_true] at *
  all_goals omega
theorem own_ef0 (m : MethodId) (p0 : Int32) (p1 : Int32) (q2 : Int64) (p3 : Int32) (q4 : Int64) : entryFrame m #[(.int p0), (.int p1), (.long q2), (.int p3), (.long q4)] maxLocals = mkF m 0 #[.val (.int p0), .val (.int p1), .val (.long q2), .second, .val (.int p3), .val (.long q4), .second, .unset, .unset, .unset, .unset, .unset, .unset, .unset, .unset, .unset, .unset, .unset, .unset, .unset, .unset] [] := by first | (simp [entryFrame, mkF, argsToLocals, Value.category, maxLocals]; done) | rfl
def own_Q0 (Z : State) (p0 : Int32) (p1 : Int32) (q2 : Int64) (p3 : Int32) (q4 : Int64) (h0 : Heap) (n0 : Nat) (v : Option Value) (h : Heap) (L : List Loc) : Prop := v = some (.int 1) ∧ Fr n0 L
set_option maxRecDepth 65536 in
set_option maxHeartbeats 40000000 in
theorem own_rm0 (l : Launch) (Z : State) (av : Array Value) (hw : ∀ d ∈ tables_1, d.before av Z = true) (ws : List Jvm.Cond) (p0 : Int32) (p1 : Int32) (q2 : Int64) (p3 : Int32) (q4 : Int64) (h0 : Heap) (n0 : Nat) (Z0 : n0 ≤ h0.size) :
    MetFree l x (head1 (Jvm.Cond.code x code maxLocals ret :: ws) room_1) (fun a U => a = #[(.int p0), (.int p1), (.long q2), (.int p3), (.long q4)] ∧ Z.Warmed39 U.vm ∧ U.heap = h0) (fun _ _ _ _ _ => True) (fun _ U o U' => ∃ v L, o = .returned v ∧ own_Q0 Z p0 p1 q2 p3 q4 h0 n0 v U'.heap L ∧ FrameEnd U o U' L room_1.cells room_1.slots) := by
  refine MetFree.of_bodySF (plainFor_of_name own_pn34) hisR ?_
  intro p e s m args below meth c s₁ Bd hml0 hP hK
  obtain ⟨rfl, hZ, hh⟩ := hP
  have hx := Bd.exec
  have hby := Bd.bytes
  have hml : c.maxLocals = 21 := hml0
  have hown : s.vm.findClass "com/example/thyme/thyme/lang/InLocationEvaluatePinLaw" = some m.cls := findClass_of_methodNamed Bd.named
  have hnm := (name_of_methodNamed Bd.named Bd.method).1
  have X0 : Stand p l e room_1 s m #[(.int p0), (.int p1), (.long q2), (.int p3), (.long q4)] below meth c s₁ [] 0 0 := Stand.of_body Bd
  have e0 : s₁.heap = h0 := by rw [← hh, Bd.state]; rfl
  have N0 := Fr.nil n0
  have pre0 : ∀ t, Steps p.tables e below (s₁.setTop (mkF m 0 #[.val (.int p0), .val (.int p1), .val (.long q2), .second, .val (.int p3), .val (.long q4), .second, .unset, .unset, .unset, .unset, .unset, .unset, .unset, .unset, .unset, .unset, .unset, .unset, .unset, .unset] [])) t → Steps p.tables e below (s₁.setTop (entryFrame m #[(.int p0), (.int p1), (.long q2), (.int p3), (.long q4)] maxLocals)) t := fun t k => castTop (own_ef0 m p0 p1 q2 p3 q4) k
  obtain ⟨v26, hv26⟩ : ∃ z : Int32, z = (p0 &&& (3 : Int32)) := ⟨_, rfl⟩
  obtain ⟨v27, hv27⟩ : ∃ z : Int64, z = (p1.toInt64) := ⟨_, rfl⟩
  have pre28 : ∀ t, Steps p.tables e below (s₁.setTop (mkF m 13 #[.val (.int p0), .val (.int p1), .val (.long q2), .second, .val (.int p3), .val (.long q4), .second, .val (.int v26), .val (.long v27), .second, .unset, .unset, .unset, .unset, .unset, .unset, .unset, .unset, .unset, .unset, .unset] [(.int (p3 &&& (4 : Int32)))])) t → Steps p.tables e below (s₁.setTop (entryFrame m #[(.int p0), (.int p1), (.long q2), (.int p3), (.long q4)] maxLocals)) t := fun t kk => pre0 t (by
    show Steps p.tables e below (s₁.setTop (mkF m 0 #[.val (.int p0), .val (.int p1), .val (.long q2), .second, .val (.int p3), .val (.long q4), .second, .unset, .unset, .unset, .unset, .unset, .unset, .unset, .unset, .unset, .unset, .unset, .unset, .unset, .unset] [])) _
    refine XS.iloadN X0.here hx rfl (hb hby at_0) rfl ?_
    show Steps p.tables e below (s₁.setTop (mkF m 1 #[.val (.int p0), .val (.int p1), .val (.long q2), .second, .val (.int p3), .val (.long q4), .second, .unset, .unset, .unset, .unset, .unset, .unset, .unset, .unset, .unset, .unset, .unset, .unset, .unset, .unset] [(.int p0)])) _
    refine XS.iconst X0.here hx rfl (hb hby at_1) ?_
    show Steps p.tables e below (s₁.setTop (mkF m 2 #[.val (.int p0), .val (.int p1), .val (.long q2), .second, .val (.int p3), .val (.long q4), .second, .unset, .unset, .unset, .unset, .unset, .unset, .unset, .unset, .unset, .unset, .unset, .unset, .unset, .unset] [(.int (3 : Int32)), (.int p0)])) _
    refine XS.iand X0.here hx rfl (hb hby at_2) rfl ?_
    show Steps p.tables e below (s₁.setTop (mkF m 3 #[.val (.int p0), .val (.int p1), .val (.long q2), .second, .val (.int p3), .val (.long q4), .second, .unset, .unset, .unset, .unset, .unset, .unset, .unset, .unset, .unset, .unset, .unset, .unset, .unset, .unset] [(.int (p0 &&& (3 : Int32)))])) _
    refine castTop (congrArg (fun z : Int32 => mkF m 3 #[.val (.int p0), .val (.int p1), .val (.long q2), .second, .val (.int p3), .val (.long q4), .second, .unset, .unset, .unset, .unset, .unset, .unset, .unset, .unset, .unset, .unset, .unset, .unset, .unset, .unset] [(.int z)]) hv26.symm) ?_
    show Steps p.tables e below (s₁.setTop (mkF m 3 #[.val (.int p0), .val (.int p1), .val (.long q2), .second, .val (.int p3), .val (.long q4), .second, .unset, .unset, .unset, .unset, .unset, .unset, .unset, .unset, .unset, .unset, .unset, .unset, .unset, .unset] [(.int v26)])) _
    refine XS.istore X0.here hx rfl (hb hby at_3) rfl (l' := #[.val (.int p0), .val (.int p1), .val (.long q2), .second, .val (.int p3), .val (.long q4), .second, .val (.int v26), .unset, .unset, .unset, .unset, .unset, .unset, .unset, .unset, .unset, .unset, .unset, .unset, .unset]) rfl ?_
    show Steps p.tables e below (s₁.setTop (mkF m 5 #[.val (.int p0), .val (.int p1), .val (.long q2), .second, .val (.int p3), .val (.long q4), .second, .val (.int v26), .unset, .unset, .unset, .unset, .unset, .unset, .unset, .unset, .unset, .unset, .unset, .unset, .unset] [])) _
    refine XS.iloadN X0.here hx rfl (hb hby at_5) rfl ?_
    show Steps p.tables e below (s₁.setTop (mkF m 6 #[.val (.int p0), .val (.int p1), .val (.long q2), .second, .val (.int p3), .val (.long q4), .second, .val (.int v26), .unset, .unset, .unset, .unset, .unset, .unset, .unset, .unset, .unset, .unset, .unset, .unset, .unset] [(.int p1)])) _
    refine XS.i2l X0.here hx rfl (hb hby at_6) rfl ?_
    show Steps p.tables e below (s₁.setTop (mkF m 7 #[.val (.int p0), .val (.int p1), .val (.long q2), .second, .val (.int p3), .val (.long q4), .second, .val (.int v26), .unset, .unset, .unset, .unset, .unset, .unset, .unset, .unset, .unset, .unset, .unset, .unset, .unset] [(.long (p1.toInt64))])) _
    refine castTop (congrArg (fun z : Int64 => mkF m 7 #[.val (.int p0), .val (.int p1), .val (.long q2), .second, .val (.int p3), .val (.long q4), .second, .val (.int v26), .unset, .unset, .unset, .unset, .unset, .unset, .unset, .unset, .unset, .unset, .unset, .unset, .unset] [(.long z)]) hv27.symm) ?_
    show Steps p.tables e below (s₁.setTop (mkF m 7 #[.val (.int p0), .val (.int p1), .val (.long q2), .second, .val (.int p3), .val (.long q4), .second, .val (.int v26), .unset, .unset, .unset, .unset, .unset, .unset, .unset, .unset, .unset, .unset, .unset, .unset, .unset] [(.long v27)])) _
    refine XS.lstore X0.here hx rfl (hb hby at_7) rfl (l' := #[.val (.int p0), .val (.int p1), .val (.long q2), .second, .val (.int p3), .val (.long q4), .second, .val (.int v26), .val (.long v27), .second, .unset, .unset, .unset, .unset, .unset, .unset, .unset, .unset, .unset, .unset, .unset]) rfl ?_
    show Steps p.tables e below (s₁.setTop (mkF m 9 #[.val (.int p0), .val (.int p1), .val (.long q2), .second, .val (.int p3), .val (.long q4), .second, .val (.int v26), .val (.long v27), .second, .unset, .unset, .unset, .unset, .unset, .unset, .unset, .unset, .unset, .unset, .unset] [])) _
    refine XS.iload X0.here hx rfl (hb hby at_9) rfl ?_
    show Steps p.tables e below (s₁.setTop (mkF m 11 #[.val (.int p0), .val (.int p1), .val (.long q2), .second, .val (.int p3), .val (.long q4), .second, .val (.int v26), .val (.long v27), .second, .unset, .unset, .unset, .unset, .unset, .unset, .unset, .unset, .unset, .unset, .unset] [(.int p3)])) _
    refine XS.iconst X0.here hx rfl (hb hby at_11) ?_
    show Steps p.tables e below (s₁.setTop (mkF m 12 #[.val (.int p0), .val (.int p1), .val (.long q2), .second, .val (.int p3), .val (.long q4), .second, .val (.int v26), .val (.long v27), .second, .unset, .unset, .unset, .unset, .unset, .unset, .unset, .unset, .unset, .unset, .unset] [(.int (4 : Int32)), (.int p3)])) _
    refine XS.iand X0.here hx rfl (hb hby at_12) rfl ?_
    show Steps p.tables e below (s₁.setTop (mkF m 13 #[.val (.int p0), .val (.int p1), .val (.long q2), .second, .val (.int p3), .val (.long q4), .second, .val (.int v26), .val (.long v27), .second, .unset, .unset, .unset, .unset, .unset, .unset, .unset, .unset, .unset, .unset, .unset] [(.int (p3 &&& (4 : Int32)))])) _
    exact kk)
  obtain ⟨v30, hv30⟩ : ∃ z : Int64, z = (if (p3 &&& (4 : Int32)) = (0 : Int32) then v27 else q4) := ⟨_, rfl⟩
  have pre31 : ∀ t, Steps p.tables e below (s₁.setTop (mkF m 23 #[.val (.int p0), .val (.int p1), .val (.long q2), .second, .val (.int p3), .val (.long q4), .second, .val (.int v26), .val (.long v27), .second, .unset, .unset, .unset, .unset, .unset, .unset, .unset, .unset, .unset, .unset, .unset] [(.long v30)])) t → Steps p.tables e below (s₁.setTop (entryFrame m #[(.int p0), (.int p1), (.long q2), (.int p3), (.long q4)] maxLocals)) t := fun t kk => pre28 t (by
    show Steps p.tables e below (s₁.setTop (mkF m 13 #[.val (.int p0), .val (.int p1), .val (.long q2), .second, .val (.int p3), .val (.long q4), .second, .val (.int v26), .val (.long v27), .second, .unset, .unset, .unset, .unset, .unset, .unset, .unset, .unset, .unset, .unset, .unset] [(.int (p3 &&& (4 : Int32)))])) _
    by_cases hc29 : (p3 &&& (4 : Int32)) = (0 : Int32)
    · refine XS.ifYes X0.here hx rfl (pc0 := 13) (pc' := 21) rfl (hb hby at_13) rfl ((if0 _ _).trans (teq hc29).1) (by decide) (by decide) ?_
      show Steps p.tables e below (s₁.setTop (mkF m 21 #[.val (.int p0), .val (.int p1), .val (.long q2), .second, .val (.int p3), .val (.long q4), .second, .val (.int v26), .val (.long v27), .second, .unset, .unset, .unset, .unset, .unset, .unset, .unset, .unset, .unset, .unset, .unset] [])) _
      refine XS.lload X0.here hx rfl (hb hby at_21) rfl ?_
      rw [show v30 = v27 by rw [hv30, if_pos hc29]] at kk
      exact kk
    · refine XS.ifNo X0.here hx rfl (hb hby at_13) rfl ((if0 _ _).trans (feq hc29).1) ?_
      show Steps p.tables e below (s₁.setTop (mkF m 16 #[.val (.int p0), .val (.int p1), .val (.long q2), .second, .val (.int p3), .val (.long q4), .second, .val (.int v26), .val (.long v27), .second, .unset, .unset, .unset, .unset, .unset, .unset, .unset, .unset, .unset, .unset, .unset] [])) _
      refine XS.lload X0.here hx rfl (hb hby at_16) rfl ?_
      show Steps p.tables e below (s₁.setTop (mkF m 18 #[.val (.int p0), .val (.int p1), .val (.long q2), .second, .val (.int p3), .val (.long q4), .second, .val (.int v26), .val (.long v27), .second, .unset, .unset, .unset, .unset, .unset, .unset, .unset, .unset, .unset, .unset, .unset] [(.long q4)])) _
      refine XS.goto X0.here hx rfl (pc0 := 18) (pc' := 23) rfl (hb hby at_18) (by decide) (by decide) ?_
      rw [show v30 = q4 by rw [hv30, if_neg hc29]] at kk
      exact kk)
  obtain ⟨v32, hv32⟩ : ∃ z : Int32, z = (p3 &&& (3 : Int32)) := ⟨_, rfl⟩
  have pre33 : ∀ t, Steps p.tables e below (s₁.setTop (mkF m 33 #[.val (.int p0), .val (.int p1), .val (.long q2), .second, .val (.int p3), .val (.long q4), .second, .val (.int v26), .val (.long v27), .second, .val (.long v30), .second, .val (.int v32), .unset, .unset, .unset, .unset, .unset, .unset, .unset, .unset] [(.int v32)])) t → Steps p.tables e below (s₁.setTop (entryFrame m #[(.int p0), (.int p1), (.long q2), (.int p3), (.long q4)] maxLocals)) t := fun t kk => pre31 t (by
    show Steps p.tables e below (s₁.setTop (mkF m 23 #[.val (.int p0), .val (.int p1), .val (.long q2), .second, .val (.int p3), .val (.long q4), .second, .val (.int v26), .val (.long v27), .second, .unset, .unset, .unset, .unset, .unset, .unset, .unset, .unset, .unset, .unset, .unset] [(.long v30)])) _
    refine XS.lstore X0.here hx rfl (hb hby at_23) rfl (l' := #[.val (.int p0), .val (.int p1), .val (.long q2), .second, .val (.int p3), .val (.long q4), .second, .val (.int v26), .val (.long v27), .second, .val (.long v30), .second, .unset, .unset, .unset, .unset, .unset, .unset, .unset, .unset, .unset]) rfl ?_
    show Steps p.tables e below (s₁.setTop (mkF m 25 #[.val (.int p0), .val (.int p1), .val (.long q2), .second, .val (.int p3), .val (.long q4), .second, .val (.int v26), .val (.long v27), .second, .val (.long v30), .second, .unset, .unset, .unset, .unset, .unset, .unset, .unset, .unset, .unset] [])) _
    refine XS.iload X0.here hx rfl (hb hby at_25) rfl ?_
    show Steps p.tables e below (s₁.setTop (mkF m 27 #[.val (.int p0), .val (.int p1), .val (.long q2), .second, .val (.int p3), .val (.long q4), .second, .val (.int v26), .val (.long v27), .second, .val (.long v30), .second, .unset, .unset, .unset, .unset, .unset, .unset, .unset, .unset, .unset] [(.int p3)])) _
    refine XS.iconst X0.here hx rfl (hb hby at_27) ?_
    show Steps p.tables e below (s₁.setTop (mkF m 28 #[.val (.int p0), .val (.int p1), .val (.long q2), .second, .val (.int p3), .val (.long q4), .second, .val (.int v26), .val (.long v27), .second, .val (.long v30), .second, .unset, .unset, .unset, .unset, .unset, .unset, .unset, .unset, .unset] [(.int (3 : Int32)), (.int p3)])) _
    refine XS.iand X0.here hx rfl (hb hby at_28) rfl ?_
    show Steps p.tables e below (s₁.setTop (mkF m 29 #[.val (.int p0), .val (.int p1), .val (.long q2), .second, .val (.int p3), .val (.long q4), .second, .val (.int v26), .val (.long v27), .second, .val (.long v30), .second, .unset, .unset, .unset, .unset, .unset, .unset, .unset, .unset, .unset] [(.int (p3 &&& (3 : Int32)))])) _
    refine castTop (congrArg (fun z : Int32 => mkF m 29 #[.val (.int p0), .val (.int p1), .val (.long q2), .second, .val (.int p3), .val (.long q4), .second, .val (.int v26), .val (.long v27), .second, .val (.long v30), .second, .unset, .unset, .unset, .unset, .unset, .unset, .unset, .unset, .unset] [(.int z)]) hv32.symm) ?_
    show Steps p.tables e below (s₁.setTop (mkF m 29 #[.val (.int p0), .val (.int p1), .val (.long q2), .second, .val (.int p3), .val (.long q4), .second, .val (.int v26), .val (.long v27), .second, .val (.long v30), .second, .unset, .unset, .unset, .unset, .unset, .unset, .unset, .unset, .unset] [(.int v32)])) _
    refine XS.istore X0.here hx rfl (hb hby at_29) rfl (l' := #[.val (.int p0), .val (.int p1), .val (.long q2), .second, .val (.int p3), .val (.long q4), .second, .val (.int v26), .val (.long v27), .second, .val (.long v30), .second, .val (.int v32), .unset, .unset, .unset, .unset, .unset, .unset, .unset, .unset]) rfl ?_
    show Steps p.tables e below (s₁.setTop (mkF m 31 #[.val (.int p0), .val (.int p1), .val (.long q2), .second, .val (.int p3), .val (.long q4), .second, .val (.int v26), .val (.long v27), .second, .val (.long v30), .second, .val (.int v32), .unset, .unset, .unset, .unset, .unset, .unset, .unset, .unset] [])) _
    refine XS.iload X0.here hx rfl (hb hby at_31) rfl ?_
    show Steps p.tables e below (s₁.setTop (mkF m 33 #[.val (.int p0), .val (.int p1), .val (.long q2), .second, .val (.int p3), .val (.long q4), .second, .val (.int v26), .val (.long v27), .second, .val (.long v30), .second, .val (.int v32), .unset, .unset, .unset, .unset, .unset, .unset, .unset, .unset] [(.int v32)])) _
    exact kk)
  obtain ⟨v38, hv38⟩ : ∃ z : Int64, z = (if v32 = (0 : Int32) then v27 else (if v32 = (1 : Int32) then (v27 ^^^ (4294967296 : Int64)) else (if v32 = (2 : Int32) then (v27 + (1 : Int64)) else q2))) := ⟨_, rfl⟩
  obtain ⟨v39, hv39⟩ : ∃ z : Int64, z = (if v32 = (0 : Int32) then (1 : Int64) else (if v32 = (1 : Int32) then (0 : Int64) else (if v32 = (2 : Int32) then (0 : Int64) else (if q2 = v27 then (1 : Int64) else (0 : Int64))))) := ⟨_, rfl⟩
  have pre40 : ∀ t, Steps p.tables e below (s₁.setTop (mkF m 101 #[.val (.int p0), .val (.int p1), .val (.long q2), .second, .val (.int p3), .val (.long q4), .second, .val (.int v26), .val (.long v27), .second, .val (.long v30), .second, .val (.int v32), .val (.long v38), .second, .val (.long v39), .second, .unset, .unset, .unset, .unset] [])) t → Steps p.tables e below (s₁.setTop (entryFrame m #[(.int p0), (.int p1), (.long q2), (.int p3), (.long q4)] maxLocals)) t := fun t kk => pre33 t (by
    show Steps p.tables e below (s₁.setTop (mkF m 33 #[.val (.int p0), .val (.int p1), .val (.long q2), .second, .val (.int p3), .val (.long q4), .second, .val (.int v26), .val (.long v27), .second, .val (.long v30), .second, .val (.int v32), .unset, .unset, .unset, .unset, .unset, .unset, .unset, .unset] [(.int v32)])) _
    by_cases hc34 : v32 = (0 : Int32)
    · refine XS.ifNo X0.here hx rfl (hb hby at_33) rfl ((if0 _ _).trans (teq hc34).2) ?_
      show Steps p.tables e below (s₁.setTop (mkF m 36 #[.val (.int p0), .val (.int p1), .val (.long q2), .second, .val (.int p3), .val (.long q4), .second, .val (.int v26), .val (.long v27), .second, .val (.long v30), .second, .val (.int v32), .unset, .unset, .unset, .unset, .unset, .unset, .unset, .unset] [])) _
      refine XS.lload X0.here hx rfl (hb hby at_36) rfl ?_
      show Steps p.tables e below (s₁.setTop (mkF m 38 #[.val (.int p0), .val (.int p1), .val (.long q2), .second, .val (.int p3), .val (.long q4), .second, .val (.int v26), .val (.long v27), .second, .val (.long v30), .second, .val (.int v32), .unset, .unset, .unset, .unset, .unset, .unset, .unset, .unset] [(.long v27)])) _
      refine XS.lstore X0.here hx rfl (hb hby at_38) rfl (l' := #[.val (.int p0), .val (.int p1), .val (.long q2), .second, .val (.int p3), .val (.long q4), .second, .val (.int v26), .val (.long v27), .second, .val (.long v30), .second, .val (.int v32), .val (.long v27), .second, .unset, .unset, .unset, .unset, .unset, .unset]) rfl ?_
      show Steps p.tables e below (s₁.setTop (mkF m 40 #[.val (.int p0), .val (.int p1), .val (.long q2), .second, .val (.int p3), .val (.long q4), .second, .val (.int v26), .val (.long v27), .second, .val (.long v30), .second, .val (.int v32), .val (.long v27), .second, .unset, .unset, .unset, .unset, .unset, .unset] [])) _
      refine XS.lconst X0.here hx rfl (hb hby at_40) ?_
      show Steps p.tables e below (s₁.setTop (mkF m 41 #[.val (.int p0), .val (.int p1), .val (.long q2), .second, .val (.int p3), .val (.long q4), .second, .val (.int v26), .val (.long v27), .second, .val (.long v30), .second, .val (.int v32), .val (.long v27), .second, .unset, .unset, .unset, .unset, .unset, .unset] [(.long (1 : Int64))])) _
      refine XS.lstore X0.here hx rfl (hb hby at_41) rfl (l' := #[.val (.int p0), .val (.int p1), .val (.long q2), .second, .val (.int p3), .val (.long q4), .second, .val (.int v26), .val (.long v27), .second, .val (.long v30), .second, .val (.int v32), .val (.long v27), .second, .val (.long (1 : Int64)), .second, .unset, .unset, .unset, .unset]) rfl ?_
      show Steps p.tables e below (s₁.setTop (mkF m 43 #[.val (.int p0), .val (.int p1), .val (.long q2), .second, .val (.int p3), .val (.long q4), .second, .val (.int v26), .val (.long v27), .second, .val (.long v30), .second, .val (.int v32), .val (.long v27), .second, .val (.long (1 : Int64)), .second, .unset, .unset, .unset, .unset] [])) _
      refine XS.goto X0.here hx rfl (pc0 := 43) (pc' := 101) rfl (hb hby at_43) (by decide) (by decide) ?_
      rw [show v38 = v27 by rw [hv38, if_pos hc34]] at kk
      rw [show v39 = (1 : Int64) by rw [hv39, if_pos hc34]] at kk
      exact kk
    · refine XS.ifYes X0.here hx rfl (pc0 := 33) (pc' := 46) rfl (hb hby at_33) rfl ((if0 _ _).trans (feq hc34).2) (by decide) (by decide) ?_
      show Steps p.tables e below (s₁.setTop (mkF m 46 #[.val (.int p0), .val (.int p1), .val (.long q2), .second, .val (.int p3), .val (.long q4), .second, .val (.int v26), .val (.long v27), .second, .val (.long v30), .second, .val (.int v32), .unset, .unset, .unset, .unset, .unset, .unset, .unset, .unset] [])) _
      refine XS.iload X0.here hx rfl (hb hby at_46) rfl ?_
      show Steps p.tables e below (s₁.setTop (mkF m 48 #[.val (.int p0), .val (.int p1), .val (.long q2), .second, .val (.int p3), .val (.long q4), .second, .val (.int v26), .val (.long v27), .second, .val (.long v30), .second, .val (.int v32), .unset, .unset, .unset, .unset, .unset, .unset, .unset, .unset] [(.int v32)])) _
      refine XS.iconst X0.here hx rfl (hb hby at_48) ?_
      show Steps p.tables e below (s₁.setTop (mkF m 49 #[.val (.int p0), .val (.int p1), .val (.long q2), .second, .val (.int p3), .val (.long q4), .second, .val (.int v26), .val (.long v27), .second, .val (.long v30), .second, .val (.int v32), .unset, .unset, .unset, .unset, .unset, .unset, .unset, .unset] [(.int (1 : Int32)), (.int v32)])) _
      by_cases hc35 : v32 = (1 : Int32)
      · refine XS.icmpNo X0.here hx rfl (hb hby at_49) rfl (teq hc35).2 ?_
        show Steps p.tables e below (s₁.setTop (mkF m 52 #[.val (.int p0), .val (.int p1), .val (.long q2), .second, .val (.int p3), .val (.long q4), .second, .val (.int v26), .val (.long v27), .second, .val (.long v30), .second, .val (.int v32), .unset, .unset, .unset, .unset, .unset, .unset, .unset, .unset] [])) _
        refine XS.lload X0.here hx rfl (hb hby at_52) rfl ?_
        show Steps p.tables e below (s₁.setTop (mkF m 54 #[.val (.int p0), .val (.int p1), .val (.long q2), .second, .val (.int p3), .val (.long q4), .second, .val (.int v26), .val (.long v27), .second, .val (.long v30), .second, .val (.int v32), .unset, .unset, .unset, .unset, .unset, .unset, .unset, .unset] [(.long v27)])) _
        refine X0.ldc2Long hx hown (mvT hZ (hw _ (List.mem_of_getElem? (i := 28) rfl))) (g := (mkF m 54 #[.val (.int p0), .val (.int p1), .val (.long q2), .second, .val (.int p3), .val (.long q4), .second, .val (.int v26), .val (.long v27), .second, .val (.long v30), .second, .val (.int v32), .unset, .unset, .unset, .unset, .unset, .unset, .unset, .unset] [(.long v27)])) rfl (hb hby at_54) _ ?_
        show Steps p.tables e below (s₁.setTop (mkF m 57 #[.val (.int p0), .val (.int p1), .val (.long q2), .second, .val (.int p3), .val (.long q4), .second, .val (.int v26), .val (.long v27), .second, .val (.long v30), .second, .val (.int v32), .unset, .unset, .unset, .unset, .unset, .unset, .unset, .unset] [(.long (4294967296 : Int64)), (.long v27)])) _
        refine XS.lxor X0.here hx rfl (hb hby at_57) rfl ?_
        show Steps p.tables e below (s₁.setTop (mkF m 58 #[.val (.int p0), .val (.int p1), .val (.long q2), .second, .val (.int p3), .val (.long q4), .second, .val (.int v26), .val (.long v27), .second, .val (.long v30), .second, .val (.int v32), .unset, .unset, .unset, .unset, .unset, .unset, .unset, .unset] [(.long (v27 ^^^ (4294967296 : Int64)))])) _
        refine XS.lstore X0.here hx rfl (hb hby at_58) rfl (l' := #[.val (.int p0), .val (.int p1), .val (.long q2), .second, .val (.int p3), .val (.long q4), .second, .val (.int v26), .val (.long v27), .second, .val (.long v30), .second, .val (.int v32), .val (.long (v27 ^^^ (4294967296 : Int64))), .second, .unset, .unset, .unset, .unset, .unset, .unset]) rfl ?_
        show Steps p.tables e below (s₁.setTop (mkF m 60 #[.val (.int p0), .val (.int p1), .val (.long q2), .second, .val (.int p3), .val (.long q4), .second, .val (.int v26), .val (.long v27), .second, .val (.long v30), .second, .val (.int v32), .val (.long (v27 ^^^ (4294967296 : Int64))), .second, .unset, .unset, .unset, .unset, .unset, .unset] [])) _
        refine XS.lconst X0.here hx rfl (hb hby at_60) ?_
        show Steps p.tables e below (s₁.setTop (mkF m 61 #[.val (.int p0), .val (.int p1), .val (.long q2), .second, .val (.int p3), .val (.long q4), .second, .val (.int v26), .val (.long v27), .second, .val (.long v30), .second, .val (.int v32), .val (.long (v27 ^^^ (4294967296 : Int64))), .second, .unset, .unset, .unset, .unset, .unset, .unset] [(.long (0 : Int64))])) _
        refine XS.lstore X0.here hx rfl (hb hby at_61) rfl (l' := #[.val (.int p0), .val (.int p1), .val (.long q2), .second, .val (.int p3), .val (.long q4), .second, .val (.int v26), .val (.long v27), .second, .val (.long v30), .second, .val (.int v32), .val (.long (v27 ^^^ (4294967296 : Int64))), .second, .val (.long (0 : Int64)), .second, .unset, .unset, .unset, .unset]) rfl ?_
        show Steps p.tables e below (s₁.setTop (mkF m 63 #[.val (.int p0), .val (.int p1), .val (.long q2), .second, .val (.int p3), .val (.long q4), .second, .val (.int v26), .val (.long v27), .second, .val (.long v30), .second, .val (.int v32), .val (.long (v27 ^^^ (4294967296 : Int64))), .second, .val (.long (0 : Int64)), .second, .unset, .unset, .unset, .unset] [])) _
        refine XS.goto X0.here hx rfl (pc0 := 63) (pc' := 101) rfl (hb hby at_63) (by decide) (by decide) ?_
        rw [show v38 = (v27 ^^^ (4294967296 : Int64)) by rw [hv38, if_neg hc34, if_pos hc35]] at kk
        rw [show v39 = (0 : Int64) by rw [hv39, if_neg hc34, if_pos hc35]] at kk
        exact kk
      · refine XS.icmpYes X0.here hx rfl (pc0 := 49) (pc' := 66) rfl (hb hby at_49) rfl (feq hc35).2 (by decide) (by decide) ?_
        show Steps p.tables e below (s₁.setTop (mkF m 66 #[.val (.int p0), .val (.int p1), .val (.long q2), .second, .val (.int p3), .val (.long q4), .second, .val (.int v26), .val (.long v27), .second, .val (.long v30), .second, .val (.int v32), .unset, .unset, .unset, .unset, .unset, .unset, .unset, .unset] [])) _
        refine XS.iload X0.here hx rfl (hb hby at_66) rfl ?_
        show Steps p.tables e below (s₁.setTop (mkF m 68 #[.val (.int p0), .val (.int p1), .val (.long q2), .second, .val (.int p3), .val (.long q4), .second, .val (.int v26), .val (.long v27), .second, .val (.long v30), .second, .val (.int v32), .unset, .unset, .unset, .unset, .unset, .unset, .unset, .unset] [(.int v32)])) _
        refine XS.iconst X0.here hx rfl (hb hby at_68) ?_
        show Steps p.tables e below (s₁.setTop (mkF m 69 #[.val (.int p0), .val (.int p1), .val (.long q2), .second, .val (.int p3), .val (.long q4), .second, .val (.int v26), .val (.long v27), .second, .val (.long v30), .second, .val (.int v32), .unset, .unset, .unset, .unset, .unset, .unset, .unset, .unset] [(.int (2 : Int32)), (.int v32)])) _
        by_cases hc36 : v32 = (2 : Int32)
        · refine XS.icmpNo X0.here hx rfl (hb hby at_69) rfl (teq hc36).2 ?_
          show Steps p.tables e below (s₁.setTop (mkF m 72 #[.val (.int p0), .val (.int p1), .val (.long q2), .second, .val (.int p3), .val (.long q4), .second, .val (.int v26), .val (.long v27), .second, .val (.long v30), .second, .val (.int v32), .unset, .unset, .unset, .unset, .unset, .unset, .unset, .unset] [])) _
          refine XS.lload X0.here hx rfl (hb hby at_72) rfl ?_
          show Steps p.tables e below (s₁.setTop (mkF m 74 #[.val (.int p0), .val (.int p1), .val (.long q2), .second, .val (.int p3), .val (.long q4), .second, .val (.int v26), .val (.long v27), .second, .val (.long v30), .second, .val (.int v32), .unset, .unset, .unset, .unset, .unset, .unset, .unset, .unset] [(.long v27)])) _
          refine XS.lconst X0.here hx rfl (hb hby at_74) ?_
          show Steps p.tables e below (s₁.setTop (mkF m 75 #[.val (.int p0), .val (.int p1), .val (.long q2), .second, .val (.int p3), .val (.long q4), .second, .val (.int v26), .val (.long v27), .second, .val (.long v30), .second, .val (.int v32), .unset, .unset, .unset, .unset, .unset, .unset, .unset, .unset] [(.long (1 : Int64)), (.long v27)])) _
          refine XS.ladd X0.here hx rfl (hb hby at_75) rfl ?_
          show Steps p.tables e below (s₁.setTop (mkF m 76 #[.val (.int p0), .val (.int p1), .val (.long q2), .second, .val (.int p3), .val (.long q4), .second, .val (.int v26), .val (.long v27), .second, .val (.long v30), .second, .val (.int v32), .unset, .unset, .unset, .unset, .unset, .unset, .unset, .unset] [(.long (v27 + (1 : Int64)))])) _
          refine XS.lstore X0.here hx rfl (hb hby at_76) rfl (l' := #[.val (.int p0), .val (.int p1), .val (.long q2), .second, .val (.int p3), .val (.long q4), .second, .val (.int v26), .val (.long v27), .second, .val (.long v30), .second, .val (.int v32), .val (.long (v27 + (1 : Int64))), .second, .unset, .unset, .unset, .unset, .unset, .unset]) rfl ?_
          show Steps p.tables e below (s₁.setTop (mkF m 78 #[.val (.int p0), .val (.int p1), .val (.long q2), .second, .val (.int p3), .val (.long q4), .second, .val (.int v26), .val (.long v27), .second, .val (.long v30), .second, .val (.int v32), .val (.long (v27 + (1 : Int64))), .second, .unset, .unset, .unset, .unset, .unset, .unset] [])) _
          refine XS.lconst X0.here hx rfl (hb hby at_78) ?_
          show Steps p.tables e below (s₁.setTop (mkF m 79 #[.val (.int p0), .val (.int p1), .val (.long q2), .second, .val (.int p3), .val (.long q4), .second, .val (.int v26), .val (.long v27), .second, .val (.long v30), .second, .val (.int v32), .val (.long (v27 + (1 : Int64))), .second, .unset, .unset, .unset, .unset, .unset, .unset] [(.long (0 : Int64))])) _
          refine XS.lstore X0.here hx rfl (hb hby at_79) rfl (l' := #[.val (.int p0), .val (.int p1), .val (.long q2), .second, .val (.int p3), .val (.long q4), .second, .val (.int v26), .val (.long v27), .second, .val (.long v30), .second, .val (.int v32), .val (.long (v27 + (1 : Int64))), .second, .val (.long (0 : Int64)), .second, .unset, .unset, .unset, .unset]) rfl ?_
          show Steps p.tables e below (s₁.setTop (mkF m 81 #[.val (.int p0), .val (.int p1), .val (.long q2), .second, .val (.int p3), .val (.long q4), .second, .val (.int v26), .val (.long v27), .second, .val (.long v30), .second, .val (.int v32), .val (.long (v27 + (1 : Int64))), .second, .val (.long (0 : Int64)), .second, .unset, .unset, .unset, .unset] [])) _
          refine XS.goto X0.here hx rfl (pc0 := 81) (pc' := 101) rfl (hb hby at_81) (by decide) (by decide) ?_
          rw [show v38 = (v27 + (1 : Int64)) by rw [hv38, if_neg hc34, if_neg hc35, if_pos hc36]] at kk
          rw [show v39 = (0 : Int64) by rw [hv39, if_neg hc34, if_neg hc35, if_pos hc36]] at kk
          exact kk
        · refine XS.icmpYes X0.here hx rfl (pc0 := 69) (pc' := 84) rfl (hb hby at_69) rfl (feq hc36).2 (by decide) (by decide) ?_
          show Steps p.tables e below (s₁.setTop (mkF m 84 #[.val (.int p0), .val (.int p1), .val (.long q2), .second, .val (.int p3), .val (.long q4), .second, .val (.int v26), .val (.long v27), .second, .val (.long v30), .second, .val (.int v32), .unset, .unset, .unset, .unset, .unset, .unset, .unset, .unset] [])) _
          refine XS.lloadN X0.here hx rfl (hb hby at_84) rfl ?_
          show Steps p.tables e below (s₁.setTop (mkF m 85 #[.val (.int p0), .val (.int p1), .val (.long q2), .second, .val (.int p3), .val (.long q4), .second, .val (.int v26), .val (.long v27), .second, .val (.long v30), .second, .val (.int v32), .unset, .unset, .unset, .unset, .unset, .unset, .unset, .unset] [(.long q2)])) _
          refine XS.lstore X0.here hx rfl (hb hby at_85) rfl (l' := #[.val (.int p0), .val (.int p1), .val (.long q2), .second, .val (.int p3), .val (.long q4), .second, .val (.int v26), .val (.long v27), .second, .val (.long v30), .second, .val (.int v32), .val (.long q2), .second, .unset, .unset, .unset, .unset, .unset, .unset]) rfl ?_
          show Steps p.tables e below (s₁.setTop (mkF m 87 #[.val (.int p0), .val (.int p1), .val (.long q2), .second, .val (.int p3), .val (.long q4), .second, .val (.int v26), .val (.long v27), .second, .val (.long v30), .second, .val (.int v32), .val (.long q2), .second, .unset, .unset, .unset, .unset, .unset, .unset] [])) _
          refine XS.lloadN X0.here hx rfl (hb hby at_87) rfl ?_
          show Steps p.tables e below (s₁.setTop (mkF m 88 #[.val (.int p0), .val (.int p1), .val (.long q2), .second, .val (.int p3), .val (.long q4), .second, .val (.int v26), .val (.long v27), .second, .val (.long v30), .second, .val (.int v32), .val (.long q2), .second, .unset, .unset, .unset, .unset, .unset, .unset] [(.long q2)])) _
          refine XS.lload X0.here hx rfl (hb hby at_88) rfl ?_
          show Steps p.tables e below (s₁.setTop (mkF m 90 #[.val (.int p0), .val (.int p1), .val (.long q2), .second, .val (.int p3), .val (.long q4), .second, .val (.int v26), .val (.long v27), .second, .val (.long v30), .second, .val (.int v32), .val (.long q2), .second, .unset, .unset, .unset, .unset, .unset, .unset] [(.long v27), (.long q2)])) _
          refine XS.lcmp X0.here hx rfl (hb hby at_90) rfl ?_
          show Steps p.tables e below (s₁.setTop (mkF m 91 #[.val (.int p0), .val (.int p1), .val (.long q2), .second, .val (.int p3), .val (.long q4), .second, .val (.int v26), .val (.long v27), .second, .val (.long v30), .second, .val (.int v32), .val (.long q2), .second, .unset, .unset, .unset, .unset, .unset, .unset] [(.int (lcmpW q2 v27))])) _
          by_cases hc37 : q2 = v27
          · refine XS.ifNo X0.here hx rfl (hb hby at_91) rfl ((if0 _ _).trans (teq ((lw_eq q2 v27).mpr hc37)).2) ?_
            show Steps p.tables e below (s₁.setTop (mkF m 94 #[.val (.int p0), .val (.int p1), .val (.long q2), .second, .val (.int p3), .val (.long q4), .second, .val (.int v26), .val (.long v27), .second, .val (.long v30), .second, .val (.int v32), .val (.long q2), .second, .unset, .unset, .unset, .unset, .unset, .unset] [])) _
            refine XS.lconst X0.here hx rfl (hb hby at_94) ?_
            show Steps p.tables e below (s₁.setTop (mkF m 95 #[.val (.int p0), .val (.int p1), .val (.long q2), .second, .val (.int p3), .val (.long q4), .second, .val (.int v26), .val (.long v27), .second, .val (.long v30), .second, .val (.int v32), .val (.long q2), .second, .unset, .unset, .unset, .unset, .unset, .unset] [(.long (1 : Int64))])) _
            refine XS.goto X0.here hx rfl (pc0 := 95) (pc' := 99) rfl (hb hby at_95) (by decide) (by decide) ?_
            show Steps p.tables e below (s₁.setTop (mkF m 99 #[.val (.int p0), .val (.int p1), .val (.long q2), .second, .val (.int p3), .val (.long q4), .second, .val (.int v26), .val (.long v27), .second, .val (.long v30), .second, .val (.int v32), .val (.long q2), .second, .unset, .unset, .unset, .unset, .unset, .unset] [(.long (1 : Int64))])) _
            refine XS.lstore X0.here hx rfl (hb hby at_99) rfl (l' := #[.val (.int p0), .val (.int p1), .val (.long q2), .second, .val (.int p3), .val (.long q4), .second, .val (.int v26), .val (.long v27), .second, .val (.long v30), .second, .val (.int v32), .val (.long q2), .second, .val (.long (1 : Int64)), .second, .unset, .unset, .unset, .unset]) rfl ?_
            rw [show v38 = q2 by rw [hv38, if_neg hc34, if_neg hc35, if_neg hc36]] at kk
            rw [show v39 = (1 : Int64) by rw [hv39, if_neg hc34, if_neg hc35, if_neg hc36, if_pos hc37]] at kk
            exact kk
          · refine XS.ifYes X0.here hx rfl (pc0 := 91) (pc' := 98) rfl (hb hby at_91) rfl ((if0 _ _).trans (feq (mt (lw_eq q2 v27).mp hc37)).2) (by decide) (by decide) ?_
            show Steps p.tables e below (s₁.setTop (mkF m 98 #[.val (.int p0), .val (.int p1), .val (.long q2), .second, .val (.int p3), .val (.long q4), .second, .val (.int v26), .val (.long v27), .second, .val (.long v30), .second, .val (.int v32), .val (.long q2), .second, .unset, .unset, .unset, .unset, .unset, .unset] [])) _
            refine XS.lconst X0.here hx rfl (hb hby at_98) ?_
            show Steps p.tables e below (s₁.setTop (mkF m 99 #[.val (.int p0), .val (.int p1), .val (.long q2), .second, .val (.int p3), .val (.long q4), .second, .val (.int v26), .val (.long v27), .second, .val (.long v30), .second, .val (.int v32), .val (.long q2), .second, .unset, .unset, .unset, .unset, .unset, .unset] [(.long (0 : Int64))])) _
            refine XS.lstore X0.here hx rfl (hb hby at_99) rfl (l' := #[.val (.int p0), .val (.int p1), .val (.long q2), .second, .val (.int p3), .val (.long q4), .second, .val (.int v26), .val (.long v27), .second, .val (.long v30), .second, .val (.int v32), .val (.long q2), .second, .val (.long (0 : Int64)), .second, .unset, .unset, .unset, .unset]) rfl ?_
            rw [show v38 = q2 by rw [hv38, if_neg hc34, if_neg hc35, if_neg hc36]] at kk
            rw [show v39 = (0 : Int64) by rw [hv39, if_neg hc34, if_neg hc35, if_neg hc36, if_neg hc37]] at kk
            exact kk)
  obtain ⟨T41, h41, k41, X41, e41, E41, A41, st41⟩ := newP X0 hx hZ (hw _ (List.mem_of_getElem? (i := 0) rfl)) e0 (g := (mkF m 102 #[.val (.int p0), .val (.int p1), .val (.long q2), .second, .val (.int p3), .val (.long q4), .second, .val (.int v26), .val (.long v27), .second, .val (.long v30), .second, .val (.int v32), .val (.long v38), .second, .val (.long v39), .second, .unset, .unset, .unset, .unset] [(.int (4 : Int32))])) rfl (hb hby at_102) rfl (by decide) (cap := 4) (by decide) (by decide) (by decide) (by decide)
  obtain ⟨b41, g41⟩ : ∃ z, z = h0.size := ⟨_, rfl⟩
  have g_b41 : n0 ≤ b41 := Nat.le_trans Z0 (Nat.le_of_eq g41.symm)
  have sz_b41 : h0.size ≤ b41 := Nat.le_trans (Keep.refl h0 []).1 (Nat.le_of_eq g41.symm)
  rw [← g41] at A41 st41
  have z42 : n0 ≤ h41.size := Nat.le_trans Z0 E41.1
  have K43 : Keep h0 h41 [] := (Keep.refl h0 []).ext E41
  have f44 : Arv Z h41 b41 k41 .long (4 : Int32) [(.long (0 : Int64)), (.long (0 : Int64)), (.long (0 : Int64)), (.long (0 : Int64))] (.long (0 : Int64)) := (Arv.new A41 (by decide)).pad (pad_rep [] (.long (0 : Int64)) 4)
  obtain ⟨cl45, Ar45, q45, S45, M45, H45, G45⟩ := id f44
  have hin45 : ¬ ((0 : Int32) < 0 ∨ cl45.slots.size ≤ ((0 : Int32)).toNatClampNeg) := inb_of S45 ⟨by decide, by decide⟩
  obtain ⟨T46, h46, X46, e46, W46, st46⟩ := stJ X41 hx hZ e41 Ar45 (j := (0 : Int32)) hin45 (g := (mkF m 111 #[.val (.int p0), .val (.int p1), .val (.long q2), .second, .val (.int p3), .val (.long q4), .second, .val (.int v26), .val (.long v27), .second, .val (.long v30), .second, .val (.int v32), .val (.long v38), .second, .val (.long v39), .second, .val (.ref b41), .unset, .unset, .unset] [(.long v30), (.int (0 : Int32)), (.ref b41)])) rfl rfl (hb hby at_111)
  have K47 : Keep h0 h46 [] := K43.wr W46 (Or.inr sz_b41)
  have z48 : n0 ≤ h46.size := Nat.le_trans z42 (Keep.of_wr W46).1
  have N49 := Fr.snoc X46 N0 g_b41
  have f50 : Arv Z h46 b41 k41 .long (4 : Int32) [(.long v30), (.long (0 : Int64)), (.long (0 : Int64)), (.long (0 : Int64))] (.long (0 : Int64)) := Arv.set Ar45 q45 S45 M45 H45 G45 rfl W46 0 rfl (Nat.le_of_ble_eq_true rfl)
  obtain ⟨cl51, Ar51, q51, S51, M51, H51, G51⟩ := id f50
  have hin51 : ¬ ((1 : Int32) < 0 ∨ cl51.slots.size ≤ ((1 : Int32)).toNatClampNeg) := inb_of S51 ⟨by decide, by decide⟩
  obtain ⟨T52, h52, X52, e52, W52, st52⟩ := stJ X46 hx hZ e46 Ar51 (j := (1 : Int32)) hin51 (g := (mkF m 117 #[.val (.int p0), .val (.int p1), .val (.long q2), .second, .val (.int p3), .val (.long q4), .second, .val (.int v26), .val (.long v27), .second, .val (.long v30), .second, .val (.int v32), .val (.long v38), .second, .val (.long v39), .second, .val (.ref b41), .unset, .unset, .unset] [(.long v30), (.int (1 : Int32)), (.ref b41)])) rfl rfl (hb hby at_117)
  have K53 : Keep h0 h52 [] := K47.wr W52 (Or.inr sz_b41)
  have z54 : n0 ≤ h52.size := Nat.le_trans z48 (Keep.of_wr W52).1
  have N55 := Fr.snoc X52 N49 g_b41
  have f56 : Arv Z h52 b41 k41 .long (4 : Int32) [(.long v30), (.long v30), (.long (0 : Int64)), (.long (0 : Int64))] (.long (0 : Int64)) := Arv.set Ar51 q51 S51 M51 H51 G51 rfl W52 1 rfl (Nat.le_of_ble_eq_true rfl)
  obtain ⟨cl57, Ar57, q57, S57, M57, H57, G57⟩ := id f56
  have hin57 : ¬ ((2 : Int32) < 0 ∨ cl57.slots.size ≤ ((2 : Int32)).toNatClampNeg) := inb_of S57 ⟨by decide, by decide⟩
  obtain ⟨T58, h58, X58, e58, W58, st58⟩ := stJ X52 hx hZ e52 Ar57 (j := (2 : Int32)) hin57 (g := (mkF m 123 #[.val (.int p0), .val (.int p1), .val (.long q2), .second, .val (.int p3), .val (.long q4), .second, .val (.int v26), .val (.long v27), .second, .val (.long v30), .second, .val (.int v32), .val (.long v38), .second, .val (.long v39), .second, .val (.ref b41), .unset, .unset, .unset] [(.long v30), (.int (2 : Int32)), (.ref b41)])) rfl rfl (hb hby at_123)
  have K59 : Keep h0 h58 [] := K53.wr W58 (Or.inr sz_b41)
  have z60 : n0 ≤ h58.size := Nat.le_trans z54 (Keep.of_wr W58).1
  have N61 := Fr.snoc X58 N55 g_b41
  have f62 : Arv Z h58 b41 k41 .long (4 : Int32) [(.long v30), (.long v30), (.long v30), (.long (0 : Int64))] (.long (0 : Int64)) := Arv.set Ar57 q57 S57 M57 H57 G57 rfl W58 2 rfl (Nat.le_of_ble_eq_true rfl)
  obtain ⟨cl63, Ar63, q63, S63, M63, H63, G63⟩ := id f62
  have hin63 : ¬ ((3 : Int32) < 0 ∨ cl63.slots.size ≤ ((3 : Int32)).toNatClampNeg) := inb_of S63 ⟨by decide, by decide⟩
  obtain ⟨T64, h64, X64, e64, W64, st64⟩ := stJ X58 hx hZ e58 Ar63 (j := (3 : Int32)) hin63 (g := (mkF m 129 #[.val (.int p0), .val (.int p1), .val (.long q2), .second, .val (.int p3), .val (.long q4), .second, .val (.int v26), .val (.long v27), .second, .val (.long v30), .second, .val (.int v32), .val (.long v38), .second, .val (.long v39), .second, .val (.ref b41), .unset, .unset, .unset] [(.long v30), (.int (3 : Int32)), (.ref b41)])) rfl rfl (hb hby at_129)
  have K65 : Keep h0 h64 [] := K59.wr W64 (Or.inr sz_b41)
  have z66 : n0 ≤ h64.size := Nat.le_trans z60 (Keep.of_wr W64).1
  have N67 := Fr.snoc X64 N61 g_b41
  have f68 : Arv Z h64 b41 k41 .long (4 : Int32) [(.long v30), (.long v30), (.long v30), (.long v30)] (.long (0 : Int64)) := Arv.set Ar63 q63 S63 M63 H63 G63 rfl W64 3 rfl (Nat.le_of_ble_eq_true rfl)
  have pre70 : ∀ t, Steps p.tables e below (T64.setTop (mkF m 130 #[.val (.int p0), .val (.int p1), .val (.long q2), .second, .val (.int p3), .val (.long q4), .second, .val (.int v26), .val (.long v27), .second, .val (.long v30), .second, .val (.int v32), .val (.long v38), .second, .val (.long v39), .second, .val (.ref b41), .unset, .unset, .unset] [])) t → Steps p.tables e below (s₁.setTop (entryFrame m #[(.int p0), (.int p1), (.long q2), (.int p3), (.long q4)] maxLocals)) t := fun t kk => pre40 t (by
    show Steps p.tables e below (s₁.setTop (mkF m 101 #[.val (.int p0), .val (.int p1), .val (.long q2), .second, .val (.int p3), .val (.long q4), .second, .val (.int v26), .val (.long v27), .second, .val (.long v30), .second, .val (.int v32), .val (.long v38), .second, .val (.long v39), .second, .unset, .unset, .unset, .unset] [])) _
    refine XS.iconst X0.here hx rfl (hb hby at_101) ?_
    show Steps p.tables e below (s₁.setTop (mkF m 102 #[.val (.int p0), .val (.int p1), .val (.long q2), .second, .val (.int p3), .val (.long q4), .second, .val (.int v26), .val (.long v27), .second, .val (.long v30), .second, .val (.int v32), .val (.long v38), .second, .val (.long v39), .second, .unset, .unset, .unset, .unset] [(.int (4 : Int32))])) _
    refine st41 _ ?_
    show Steps p.tables e below (T41.setTop (mkF m 104 #[.val (.int p0), .val (.int p1), .val (.long q2), .second, .val (.int p3), .val (.long q4), .second, .val (.int v26), .val (.long v27), .second, .val (.long v30), .second, .val (.int v32), .val (.long v38), .second, .val (.long v39), .second, .unset, .unset, .unset, .unset] [(.ref b41)])) _
    refine XS.astore X41.here hx rfl (hb hby at_104) rfl rfl (l' := #[.val (.int p0), .val (.int p1), .val (.long q2), .second, .val (.int p3), .val (.long q4), .second, .val (.int v26), .val (.long v27), .second, .val (.long v30), .second, .val (.int v32), .val (.long v38), .second, .val (.long v39), .second, .val (.ref b41), .unset, .unset, .unset]) rfl ?_
    show Steps p.tables e below (T41.setTop (mkF m 106 #[.val (.int p0), .val (.int p1), .val (.long q2), .second, .val (.int p3), .val (.long q4), .second, .val (.int v26), .val (.long v27), .second, .val (.long v30), .second, .val (.int v32), .val (.long v38), .second, .val (.long v39), .second, .val (.ref b41), .unset, .unset, .unset] [])) _
    refine XS.aload X41.here hx rfl (hb hby at_106) rfl rfl ?_
    show Steps p.tables e below (T41.setTop (mkF m 108 #[.val (.int p0), .val (.int p1), .val (.long q2), .second, .val (.int p3), .val (.long q4), .second, .val (.int v26), .val (.long v27), .second, .val (.long v30), .second, .val (.int v32), .val (.long v38), .second, .val (.long v39), .second, .val (.ref b41), .unset, .unset, .unset] [(.ref b41)])) _
    refine XS.iconst X41.here hx rfl (hb hby at_108) ?_
    show Steps p.tables e below (T41.setTop (mkF m 109 #[.val (.int p0), .val (.int p1), .val (.long q2), .second, .val (.int p3), .val (.long q4), .second, .val (.int v26), .val (.long v27), .second, .val (.long v30), .second, .val (.int v32), .val (.long v38), .second, .val (.long v39), .second, .val (.ref b41), .unset, .unset, .unset] [(.int (0 : Int32)), (.ref b41)])) _
    refine XS.lload X41.here hx rfl (hb hby at_109) rfl ?_
    show Steps p.tables e below (T41.setTop (mkF m 111 #[.val (.int p0), .val (.int p1), .val (.long q2), .second, .val (.int p3), .val (.long q4), .second, .val (.int v26), .val (.long v27), .second, .val (.long v30), .second, .val (.int v32), .val (.long v38), .second, .val (.long v39), .second, .val (.ref b41), .unset, .unset, .unset] [(.long v30), (.int (0 : Int32)), (.ref b41)])) _
    refine st46 _ ?_
    show Steps p.tables e below (T46.setTop (mkF m 112 #[.val (.int p0), .val (.int p1), .val (.long q2), .second, .val (.int p3), .val (.long q4), .second, .val (.int v26), .val (.long v27), .second, .val (.long v30), .second, .val (.int v32), .val (.long v38), .second, .val (.long v39), .second, .val (.ref b41), .unset, .unset, .unset] [])) _
    refine XS.aload X46.here hx rfl (hb hby at_112) rfl rfl ?_
    show Steps p.tables e below (T46.setTop (mkF m 114 #[.val (.int p0), .val (.int p1), .val (.long q2), .second, .val (.int p3), .val (.long q4), .second, .val (.int v26), .val (.long v27), .second, .val (.long v30), .second, .val (.int v32), .val (.long v38), .second, .val (.long v39), .second, .val (.ref b41), .unset, .unset, .unset] [(.ref b41)])) _
    refine XS.iconst X46.here hx rfl (hb hby at_114) ?_
    show Steps p.tables e below (T46.setTop (mkF m 115 #[.val (.int p0), .val (.int p1), .val (.long q2), .second, .val (.int p3), .val (.long q4), .second, .val (.int v26), .val (.long v27), .second, .val (.long v30), .second, .val (.int v32), .val (.long v38), .second, .val (.long v39), .second, .val (.ref b41), .unset, .unset, .unset] [(.int (1 : Int32)), (.ref b41)])) _
    refine XS.lload X46.here hx rfl (hb hby at_115) rfl ?_
    show Steps p.tables e below (T46.setTop (mkF m 117 #[.val (.int p0), .val (.int p1), .val (.long q2), .second, .val (.int p3), .val (.long q4), .second, .val (.int v26), .val (.long v27), .second, .val (.long v30), .second, .val (.int v32), .val (.long v38), .second, .val (.long v39), .second, .val (.ref b41), .unset, .unset, .unset] [(.long v30), (.int (1 : Int32)), (.ref b41)])) _
    refine st52 _ ?_
    show Steps p.tables e below (T52.setTop (mkF m 118 #[.val (.int p0), .val (.int p1), .val (.long q2), .second, .val (.int p3), .val (.long q4), .second, .val (.int v26), .val (.long v27), .second, .val (.long v30), .second, .val (.int v32), .val (.long v38), .second, .val (.long v39), .second, .val (.ref b41), .unset, .unset, .unset] [])) _
    refine XS.aload X52.here hx rfl (hb hby at_118) rfl rfl ?_
    show Steps p.tables e below (T52.setTop (mkF m 120 #[.val (.int p0), .val (.int p1), .val (.long q2), .second, .val (.int p3), .val (.long q4), .second, .val (.int v26), .val (.long v27), .second, .val (.long v30), .second, .val (.int v32), .val (.long v38), .second, .val (.long v39), .second, .val (.ref b41), .unset, .unset, .unset] [(.ref b41)])) _
    refine XS.iconst X52.here hx rfl (hb hby at_120) ?_
    show Steps p.tables e below (T52.setTop (mkF m 121 #[.val (.int p0), .val (.int p1), .val (.long q2), .second, .val (.int p3), .val (.long q4), .second, .val (.int v26), .val (.long v27), .second, .val (.long v30), .second, .val (.int v32), .val (.long v38), .second, .val (.long v39), .second, .val (.ref b41), .unset, .unset, .unset] [(.int (2 : Int32)), (.ref b41)])) _
    refine XS.lload X52.here hx rfl (hb hby at_121) rfl ?_
    show Steps p.tables e below (T52.setTop (mkF m 123 #[.val (.int p0), .val (.int p1), .val (.long q2), .second, .val (.int p3), .val (.long q4), .second, .val (.int v26), .val (.long v27), .second, .val (.long v30), .second, .val (.int v32), .val (.long v38), .second, .val (.long v39), .second, .val (.ref b41), .unset, .unset, .unset] [(.long v30), (.int (2 : Int32)), (.ref b41)])) _
    refine st58 _ ?_
    show Steps p.tables e below (T58.setTop (mkF m 124 #[.val (.int p0), .val (.int p1), .val (.long q2), .second, .val (.int p3), .val (.long q4), .second, .val (.int v26), .val (.long v27), .second, .val (.long v30), .second, .val (.int v32), .val (.long v38), .second, .val (.long v39), .second, .val (.ref b41), .unset, .unset, .unset] [])) _
    refine XS.aload X58.here hx rfl (hb hby at_124) rfl rfl ?_
    show Steps p.tables e below (T58.setTop (mkF m 126 #[.val (.int p0), .val (.int p1), .val (.long q2), .second, .val (.int p3), .val (.long q4), .second, .val (.int v26), .val (.long v27), .second, .val (.long v30), .second, .val (.int v32), .val (.long v38), .second, .val (.long v39), .second, .val (.ref b41), .unset, .unset, .unset] [(.ref b41)])) _
    refine XS.iconst X58.here hx rfl (hb hby at_126) ?_
    show Steps p.tables e below (T58.setTop (mkF m 127 #[.val (.int p0), .val (.int p1), .val (.long q2), .second, .val (.int p3), .val (.long q4), .second, .val (.int v26), .val (.long v27), .second, .val (.long v30), .second, .val (.int v32), .val (.long v38), .second, .val (.long v39), .second, .val (.ref b41), .unset, .unset, .unset] [(.int (3 : Int32)), (.ref b41)])) _
    refine XS.lload X58.here hx rfl (hb hby at_127) rfl ?_
    show Steps p.tables e below (T58.setTop (mkF m 129 #[.val (.int p0), .val (.int p1), .val (.long q2), .second, .val (.int p3), .val (.long q4), .second, .val (.int v26), .val (.long v27), .second, .val (.long v30), .second, .val (.int v32), .val (.long v38), .second, .val (.long v39), .second, .val (.ref b41), .unset, .unset, .unset] [(.long v30), (.int (3 : Int32)), (.ref b41)])) _
    refine st64 _ ?_
    exact kk)
  rcases (own_side69 p0 v26 hv26) with hs71 | hs71 | hs71 | hs71
  · subst hs71
    obtain ⟨cl72, Ar72, q72, S72, M72, H72, G72⟩ := id f68
    have hin72 : ¬ ((0 : Int32) < 0 ∨ cl72.slots.size ≤ ((0 : Int32)).toNatClampNeg) := inb_of S72 ⟨by decide, by decide⟩
    obtain ⟨T73, h73, X73, e73, W73, st73⟩ := stJ X64 hx hZ e64 Ar72 (j := (0 : Int32)) hin72 (g := (mkF m 136 #[.val (.int p0), .val (.int p1), .val (.long q2), .second, .val (.int p3), .val (.long q4), .second, .val (.int (0 : Int32)), .val (.long v27), .second, .val (.long v30), .second, .val (.int v32), .val (.long v38), .second, .val (.long v39), .second, .val (.ref b41), .unset, .unset, .unset] [(.long v38), (.int (0 : Int32)), (.ref b41)])) rfl rfl (hb hby at_136)
    have K74 : Keep h0 h73 [] := K65.wr W73 (Or.inr sz_b41)
    have z75 : n0 ≤ h73.size := Nat.le_trans z66 (Keep.of_wr W73).1
    have N76 := Fr.snoc X73 N67 g_b41
    have f77 : Arv Z h73 b41 k41 .long (4 : Int32) [(.long v38), (.long v30), (.long v30), (.long v30)] (.long (0 : Int64)) := Arv.set Ar72 q72 S72 M72 H72 G72 rfl W73 0 rfl (Nat.le_of_ble_eq_true rfl)
    obtain ⟨T78, h78, X78, e78, E78, A78, D78, -, st78⟩ := newO X73 hx hZ hown (hw _ (List.mem_of_getElem? (i := 1) rfl)) (hw _ (List.mem_of_getElem? (i := 2) rfl)) (hw _ (List.mem_of_getElem? (i := 3) rfl)) e73 (g := (mkF m 137 #[.val (.int p0), .val (.int p1), .val (.long q2), .second, .val (.int p3), .val (.long q4), .second, .val (.int (0 : Int32)), .val (.long v27), .second, .val (.long v30), .second, .val (.int v32), .val (.long v38), .second, .val (.long v39), .second, .val (.ref b41), .unset, .unset, .unset] [])) rfl (hb hby at_137) (by decide) (by decide)
    obtain ⟨b78, g78⟩ : ∃ z, z = h73.size := ⟨_, rfl⟩
    have ne_b41_b78 : b41 ≠ b78 := Nat.ne_of_lt (Nat.lt_of_lt_of_le f77.lt (Nat.le_of_eq g78.symm))
    have g_b78 : n0 ≤ b78 := Nat.le_trans z75 (Nat.le_of_eq g78.symm)
    have sz_b78 : h0.size ≤ b78 := Nat.le_trans K74.1 (Nat.le_of_eq g78.symm)
    rw [← g78] at A78 D78 st78
    have f79 := f77.ext E78
    have z80 : n0 ≤ h78.size := Nat.le_trans z75 E78.1
    have K81 : Keep h0 h78 [] := K74.ext E78
    have f82 : Fld Z h78 b78 "com/example/thyme/thyme/lang/Expression$InLocation" "slot" "I" (.int (0 : Int32)) := D78 (Or.inr (hw _ (List.mem_of_getElem? (i := 16) rfl))) (ty := .int) (by decide)
    have f83 : Fld Z h78 b78 "com/example/thyme/thyme/lang/Expression$InLocation" "location" "I" (.int (0 : Int32)) := D78 (Or.inr (hw _ (List.mem_of_getElem? (i := 18) rfl))) (ty := .int) (by decide)
    obtain ⟨_, _, ⟨T84, L84, k84, n84⟩, -, X84, ⟨Lc84, hQ84, l84, y84, z84⟩, st84⟩ := X78.specialBack hx (y := (⟨"com/example/thyme/thyme/lang/Expression$InLocation", "<init>", "(II)V"⟩ : MethodName)) rfl hown (mvT hZ (hw _ (List.mem_of_getElem? (i := 4) rfl))) (mvT hZ (hw _ (List.mem_of_getElem? (i := 5) rfl))) (mvT hZ (hw _ (List.mem_of_getElem? (i := 6) rfl))) (by decide) (backOf (W := 1) (own_rm1 l Z av hw [] b78 (0 : Int32) p1 h78 n0 z80 A78 f82 f83 g_b78) hZ (hw _ (List.mem_of_getElem? (i := 6) rfl)) (hw _ (List.mem_of_getElem? (i := 3) rfl)) (by decide) (by decide)) (g := (mkF m 144 #[.val (.int p0), .val (.int p1), .val (.long q2), .second, .val (.int p3), .val (.long q4), .second, .val (.int (0 : Int32)), .val (.long v27), .second, .val (.long v30), .second, .val (.int v32), .val (.long v38), .second, .val (.long v39), .second, .val (.ref b41), .unset, .unset, .unset] [(.int p1), (.int (0 : Int32)), (.ref b78), (.ref b78)])) rfl (by rw [hml]; rfl) (Steps.refl _) (a := b78) (argsL := [(.int (0 : Int32)), (.int p1)]) (rest := [(.ref b78)]) (lenOf own_pd1 rfl) rfl (by show 2 * 0 + _ ≤ _; exact Nat.le_of_eq rfl) (hb hby at_144) (fun _ _ => ⟨rfl, e78, (by decide : 2 + 0 ≤ _), (by decide : 6 + 0 ≤ _)⟩)
    dsimp only [Pt.U, Pt.locs, Pt.cells, Pt.slots] at X84 l84 y84 z84 st84 hQ84
    subst l84 y84 z84
    obtain ⟨rfl, N84q, K84, f86, f87, f88⟩ := hQ84
    have f89 := f79.keep K84 (ninS ne_b41_b78 nin0)
    have K90 : Keep h0 T84.heap [] := K81.trans K84 (allS (Or.inr sz_b78) all0)
    have z91 : n0 ≤ T84.heap.size := Nat.le_trans z80 K84.1
    have N85 := Fr.app N76 N84q
    obtain ⟨cq92, kq92, q92a, q92b, q92c⟩ := isOf hZ rfl f86
    obtain ⟨_, _, ⟨T92, L92, k92, n92⟩, -, X92, ⟨Lc92, hQ92, l92, y92, z92⟩, st92⟩ := X84.virtualBack hx (y := (⟨"com/example/thyme/thyme/lang/Expression$InLocation", "evaluate", "([J)J"⟩ : MethodName)) (z := (⟨"com/example/thyme/thyme/lang/Expression$InLocation", "evaluate", "([J)J"⟩ : MethodName)) hown (mvT hZ (hw _ (List.mem_of_getElem? (i := 19) rfl))) (mvT hZ (hw _ (List.mem_of_getElem? (i := 20) rfl))) (notFace_of_selects (args := #[]) (mvT hZ (hw _ (List.mem_of_getElem? (i := 22) rfl)))) (mvT hZ (hw _ (List.mem_of_getElem? (i := 22) rfl))) (mvT hZ (hw _ (List.mem_of_getElem? (i := 21) rfl))) (by decide) (backOf (W := 0) (own_rm4 l Z av hw [] b78 b41 ((0 : Int32)) (p1) (k41) ((4 : Int32)) ([(.long v38), (.long v30), (.long v30), (.long v30)]) ((.long (0 : Int64))) (v38) T84.heap n0 z91 f87 f88 f89 (⟨by decide, by decide⟩) (rfl)) hZ (hw _ (List.mem_of_getElem? (i := 23) rfl)) (hw _ (List.mem_of_getElem? (i := 3) rfl)) (by decide) (by decide)) q92a q92c (g := (mkF m 153 #[.val (.int p0), .val (.int p1), .val (.long q2), .second, .val (.int p3), .val (.long q4), .second, .val (.int (0 : Int32)), .val (.long v27), .second, .val (.long v30), .second, .val (.int v32), .val (.long v38), .second, .val (.long v39), .second, .val (.ref b41), .val (.ref b78), .unset, .unset] [(.ref b41), (.ref b78)])) rfl (by rw [hml]; rfl) (Steps.refl _) (argsL := [(.ref b41)]) (rest := []) (lenOf own_pd2 rfl) rfl (by show 2 * 0 + _ ≤ _; exact Nat.le_of_eq rfl) (hb hby at_153) (fun _ _ => ⟨rfl, rfl, (by decide : 2 + 0 ≤ _), (by decide : 6 + 0 ≤ _)⟩)
    dsimp only [Pt.U, Pt.locs, Pt.cells, Pt.slots] at X92 l92 y92 z92 st92 hQ92
    subst l92 y92 z92
    obtain ⟨rfl, N92q, e94⟩ := hQ92
    have N93 := Fr.app N85 N92q
    obtain ⟨v95, hv95⟩ : ∃ z : Int64, z = (own_f4 v38 p1) := ⟨_, rfl⟩
    have pre96 : ∀ t, Steps p.tables e below (T92.setTop (mkF m 163 #[.val (.int p0), .val (.int p1), .val (.long q2), .second, .val (.int p3), .val (.long q4), .second, .val (.int (0 : Int32)), .val (.long v27), .second, .val (.long v30), .second, .val (.int v32), .val (.long v38), .second, .val (.long v39), .second, .val (.ref b41), .val (.ref b78), .val (.long v95), .second] [(.int (lcmpW v95 v39))])) t → Steps p.tables e below (s₁.setTop (entryFrame m #[(.int p0), (.int p1), (.long q2), (.int p3), (.long q4)] maxLocals)) t := fun t kk => pre70 t (by
      show Steps p.tables e below (T64.setTop (mkF m 130 #[.val (.int p0), .val (.int p1), .val (.long q2), .second, .val (.int p3), .val (.long q4), .second, .val (.int (0 : Int32)), .val (.long v27), .second, .val (.long v30), .second, .val (.int v32), .val (.long v38), .second, .val (.long v39), .second, .val (.ref b41), .unset, .unset, .unset] [])) _
      refine XS.aload X64.here hx rfl (hb hby at_130) rfl rfl ?_
      show Steps p.tables e below (T64.setTop (mkF m 132 #[.val (.int p0), .val (.int p1), .val (.long q2), .second, .val (.int p3), .val (.long q4), .second, .val (.int (0 : Int32)), .val (.long v27), .second, .val (.long v30), .second, .val (.int v32), .val (.long v38), .second, .val (.long v39), .second, .val (.ref b41), .unset, .unset, .unset] [(.ref b41)])) _
      refine XS.iload X64.here hx rfl (hb hby at_132) rfl ?_
      show Steps p.tables e below (T64.setTop (mkF m 134 #[.val (.int p0), .val (.int p1), .val (.long q2), .second, .val (.int p3), .val (.long q4), .second, .val (.int (0 : Int32)), .val (.long v27), .second, .val (.long v30), .second, .val (.int v32), .val (.long v38), .second, .val (.long v39), .second, .val (.ref b41), .unset, .unset, .unset] [(.int (0 : Int32)), (.ref b41)])) _
      refine XS.lload X64.here hx rfl (hb hby at_134) rfl ?_
      show Steps p.tables e below (T64.setTop (mkF m 136 #[.val (.int p0), .val (.int p1), .val (.long q2), .second, .val (.int p3), .val (.long q4), .second, .val (.int (0 : Int32)), .val (.long v27), .second, .val (.long v30), .second, .val (.int v32), .val (.long v38), .second, .val (.long v39), .second, .val (.ref b41), .unset, .unset, .unset] [(.long v38), (.int (0 : Int32)), (.ref b41)])) _
      refine st73 _ ?_
      show Steps p.tables e below (T73.setTop (mkF m 137 #[.val (.int p0), .val (.int p1), .val (.long q2), .second, .val (.int p3), .val (.long q4), .second, .val (.int (0 : Int32)), .val (.long v27), .second, .val (.long v30), .second, .val (.int v32), .val (.long v38), .second, .val (.long v39), .second, .val (.ref b41), .unset, .unset, .unset] [])) _
      refine st78 _ ?_
      show Steps p.tables e below (T78.setTop (mkF m 140 #[.val (.int p0), .val (.int p1), .val (.long q2), .second, .val (.int p3), .val (.long q4), .second, .val (.int (0 : Int32)), .val (.long v27), .second, .val (.long v30), .second, .val (.int v32), .val (.long v38), .second, .val (.long v39), .second, .val (.ref b41), .unset, .unset, .unset] [(.ref b78)])) _
      refine XS.dup X78.here hx rfl (hb hby at_140) rfl rfl ?_
      show Steps p.tables e below (T78.setTop (mkF m 141 #[.val (.int p0), .val (.int p1), .val (.long q2), .second, .val (.int p3), .val (.long q4), .second, .val (.int (0 : Int32)), .val (.long v27), .second, .val (.long v30), .second, .val (.int v32), .val (.long v38), .second, .val (.long v39), .second, .val (.ref b41), .unset, .unset, .unset] [(.ref b78), (.ref b78)])) _
      refine XS.iload X78.here hx rfl (hb hby at_141) rfl ?_
      show Steps p.tables e below (T78.setTop (mkF m 143 #[.val (.int p0), .val (.int p1), .val (.long q2), .second, .val (.int p3), .val (.long q4), .second, .val (.int (0 : Int32)), .val (.long v27), .second, .val (.long v30), .second, .val (.int v32), .val (.long v38), .second, .val (.long v39), .second, .val (.ref b41), .unset, .unset, .unset] [(.int (0 : Int32)), (.ref b78), (.ref b78)])) _
      refine XS.iloadN X78.here hx rfl (hb hby at_143) rfl ?_
      show Steps p.tables e below (T78.setTop (mkF m 144 #[.val (.int p0), .val (.int p1), .val (.long q2), .second, .val (.int p3), .val (.long q4), .second, .val (.int (0 : Int32)), .val (.long v27), .second, .val (.long v30), .second, .val (.int v32), .val (.long v38), .second, .val (.long v39), .second, .val (.ref b41), .unset, .unset, .unset] [(.int p1), (.int (0 : Int32)), (.ref b78), (.ref b78)])) _
      refine st84.trans ?_
      show Steps p.tables e below (T84.setTop (mkF m 147 #[.val (.int p0), .val (.int p1), .val (.long q2), .second, .val (.int p3), .val (.long q4), .second, .val (.int (0 : Int32)), .val (.long v27), .second, .val (.long v30), .second, .val (.int v32), .val (.long v38), .second, .val (.long v39), .second, .val (.ref b41), .unset, .unset, .unset] [(.ref b78)])) _
      refine XS.astore X84.here hx rfl (hb hby at_147) rfl rfl (l' := #[.val (.int p0), .val (.int p1), .val (.long q2), .second, .val (.int p3), .val (.long q4), .second, .val (.int (0 : Int32)), .val (.long v27), .second, .val (.long v30), .second, .val (.int v32), .val (.long v38), .second, .val (.long v39), .second, .val (.ref b41), .val (.ref b78), .unset, .unset]) rfl ?_
      show Steps p.tables e below (T84.setTop (mkF m 149 #[.val (.int p0), .val (.int p1), .val (.long q2), .second, .val (.int p3), .val (.long q4), .second, .val (.int (0 : Int32)), .val (.long v27), .second, .val (.long v30), .second, .val (.int v32), .val (.long v38), .second, .val (.long v39), .second, .val (.ref b41), .val (.ref b78), .unset, .unset] [])) _
      refine XS.aload X84.here hx rfl (hb hby at_149) rfl rfl ?_
      show Steps p.tables e below (T84.setTop (mkF m 151 #[.val (.int p0), .val (.int p1), .val (.long q2), .second, .val (.int p3), .val (.long q4), .second, .val (.int (0 : Int32)), .val (.long v27), .second, .val (.long v30), .second, .val (.int v32), .val (.long v38), .second, .val (.long v39), .second, .val (.ref b41), .val (.ref b78), .unset, .unset] [(.ref b78)])) _
      refine XS.aload X84.here hx rfl (hb hby at_151) rfl rfl ?_
      show Steps p.tables e below (T84.setTop (mkF m 153 #[.val (.int p0), .val (.int p1), .val (.long q2), .second, .val (.int p3), .val (.long q4), .second, .val (.int (0 : Int32)), .val (.long v27), .second, .val (.long v30), .second, .val (.int v32), .val (.long v38), .second, .val (.long v39), .second, .val (.ref b41), .val (.ref b78), .unset, .unset] [(.ref b41), (.ref b78)])) _
      refine st92.trans ?_
      show Steps p.tables e below (T92.setTop (mkF m 156 #[.val (.int p0), .val (.int p1), .val (.long q2), .second, .val (.int p3), .val (.long q4), .second, .val (.int (0 : Int32)), .val (.long v27), .second, .val (.long v30), .second, .val (.int v32), .val (.long v38), .second, .val (.long v39), .second, .val (.ref b41), .val (.ref b78), .unset, .unset] [(.long (own_f4 v38 p1))])) _
      refine castTop (congrArg (fun z : Int64 => mkF m 156 #[.val (.int p0), .val (.int p1), .val (.long q2), .second, .val (.int p3), .val (.long q4), .second, .val (.int (0 : Int32)), .val (.long v27), .second, .val (.long v30), .second, .val (.int v32), .val (.long v38), .second, .val (.long v39), .second, .val (.ref b41), .val (.ref b78), .unset, .unset] [(.long z)]) hv95.symm) ?_
      show Steps p.tables e below (T92.setTop (mkF m 156 #[.val (.int p0), .val (.int p1), .val (.long q2), .second, .val (.int p3), .val (.long q4), .second, .val (.int (0 : Int32)), .val (.long v27), .second, .val (.long v30), .second, .val (.int v32), .val (.long v38), .second, .val (.long v39), .second, .val (.ref b41), .val (.ref b78), .unset, .unset] [(.long v95)])) _
      refine XS.lstore X92.here hx rfl (hb hby at_156) rfl (l' := #[.val (.int p0), .val (.int p1), .val (.long q2), .second, .val (.int p3), .val (.long q4), .second, .val (.int (0 : Int32)), .val (.long v27), .second, .val (.long v30), .second, .val (.int v32), .val (.long v38), .second, .val (.long v39), .second, .val (.ref b41), .val (.ref b78), .val (.long v95), .second]) rfl ?_
      show Steps p.tables e below (T92.setTop (mkF m 158 #[.val (.int p0), .val (.int p1), .val (.long q2), .second, .val (.int p3), .val (.long q4), .second, .val (.int (0 : Int32)), .val (.long v27), .second, .val (.long v30), .second, .val (.int v32), .val (.long v38), .second, .val (.long v39), .second, .val (.ref b41), .val (.ref b78), .val (.long v95), .second] [])) _
      refine XS.lload X92.here hx rfl (hb hby at_158) rfl ?_
      show Steps p.tables e below (T92.setTop (mkF m 160 #[.val (.int p0), .val (.int p1), .val (.long q2), .second, .val (.int p3), .val (.long q4), .second, .val (.int (0 : Int32)), .val (.long v27), .second, .val (.long v30), .second, .val (.int v32), .val (.long v38), .second, .val (.long v39), .second, .val (.ref b41), .val (.ref b78), .val (.long v95), .second] [(.long v95)])) _
      refine XS.lload X92.here hx rfl (hb hby at_160) rfl ?_
      show Steps p.tables e below (T92.setTop (mkF m 162 #[.val (.int p0), .val (.int p1), .val (.long q2), .second, .val (.int p3), .val (.long q4), .second, .val (.int (0 : Int32)), .val (.long v27), .second, .val (.long v30), .second, .val (.int v32), .val (.long v38), .second, .val (.long v39), .second, .val (.ref b41), .val (.ref b78), .val (.long v95), .second] [(.long v39), (.long v95)])) _
      refine XS.lcmp X92.here hx rfl (hb hby at_162) rfl ?_
      show Steps p.tables e below (T92.setTop (mkF m 163 #[.val (.int p0), .val (.int p1), .val (.long q2), .second, .val (.int p3), .val (.long q4), .second, .val (.int (0 : Int32)), .val (.long v27), .second, .val (.long v30), .second, .val (.int v32), .val (.long v38), .second, .val (.long v39), .second, .val (.ref b41), .val (.ref b78), .val (.long v95), .second] [(.int (lcmpW v95 v39))])) _
      exact kk)
    by_cases hc97 : v95 = v39
    · obtain ⟨cl98, Ar98, q98, S98, M98, H98, G98⟩ := id f89
      have hin98 : ¬ ((0 : Int32) < 0 ∨ cl98.slots.size ≤ ((0 : Int32)).toNatClampNeg) := inb_of S98 ⟨by decide, by decide⟩
      have hat98 : cl98.slots[((0 : Int32)).toNatClampNeg]? = some (.long v38) := H98.at hin98 rfl
      obtain ⟨_, _, ⟨T99, L99, k99, n99⟩, -, X99, ⟨Lc99, hQ99, l99, y99, z99⟩, st99⟩ := Jvm.LawKit.callS X92 hx (y := (⟨"com/example/thyme/thyme/lang/InLocationEvaluatePinLaw", "at", "(IIJJ)J"⟩ : MethodName)) hown (mvT hZ (hw _ (List.mem_of_getElem? (i := 24) rfl))) (mvT hZ (hw _ (List.mem_of_getElem? (i := 25) rfl))) (mvT hZ (hw _ (List.mem_of_getElem? (i := 26) rfl))) (mvT hZ (hw _ (List.mem_of_getElem? (i := 27) rfl))) (by decide) (backOf (W := 2) (own_rm5 l Z av hw [] (0 : Int32) (0 : Int32) v38 v30 T84.heap n0 z91 ) hZ (hw _ (List.mem_of_getElem? (i := 27) rfl)) (hw _ (List.mem_of_getElem? (i := 26) rfl)) (by decide) (by decide)) (g := (mkF m 177 #[.val (.int p0), .val (.int p1), .val (.long q2), .second, .val (.int p3), .val (.long q4), .second, .val (.int (0 : Int32)), .val (.long v27), .second, .val (.long v30), .second, .val (.int v32), .val (.long v38), .second, .val (.long v39), .second, .val (.ref b41), .val (.ref b78), .val (.long v95), .second] [(.long v30), (.long v38), (.int (0 : Int32)), (.int (0 : Int32)), (.long v38)])) rfl (by rw [hml]; rfl) (argsL := [(.int (0 : Int32)), (.int (0 : Int32)), (.long v38), (.long v30)]) (rest := [(.long v38)]) (lenOf own_pd3 rfl) rfl (by show 2 * 0 + _ ≤ _; exact Nat.le_of_eq rfl) (hb hby at_177) (fun _ _ => ⟨rfl, e94, (by decide : 2 + 0 ≤ _), (by decide : 6 + 0 ≤ _)⟩)
      dsimp only [Pt.U, Pt.locs, Pt.cells, Pt.slots] at X99 l99 y99 z99 st99 hQ99
      subst l99 y99 z99
      obtain ⟨rfl, N99q, e101⟩ := hQ99
      have N100 := Fr.app N93 N99q
      have pre102 : ∀ t, Steps p.tables e below (T99.setTop (mkF m 181 #[.val (.int p0), .val (.int p1), .val (.long q2), .second, .val (.int p3), .val (.long q4), .second, .val (.int (0 : Int32)), .val (.long v27), .second, .val (.long v30), .second, .val (.int v32), .val (.long v38), .second, .val (.long v39), .second, .val (.ref b41), .val (.ref b78), .val (.long v95), .second] [(.int (lcmpW v38 (own_f5 (0 : Int32) (0 : Int32) v38 v30)))])) t → Steps p.tables e below (s₁.setTop (entryFrame m #[(.int p0), (.int p1), (.long q2), (.int p3), (.long q4)] maxLocals)) t := fun t kk => pre96 t (by
        show Steps p.tables e below (T92.setTop (mkF m 163 #[.val (.int p0), .val (.int p1), .val (.long q2), .second, .val (.int p3), .val (.long q4), .second, .val (.int (0 : Int32)), .val (.long v27), .second, .val (.long v30), .second, .val (.int v32), .val (.long v38), .second, .val (.long v39), .second, .val (.ref b41), .val (.ref b78), .val (.long v95), .second] [(.int (lcmpW v95 v39))])) _
        refine XS.ifNo X92.here hx rfl (hb hby at_163) rfl ((if0 _ _).trans (teq ((lw_eq v95 v39).mpr hc97)).2) ?_
        show Steps p.tables e below (T92.setTop (mkF m 166 #[.val (.int p0), .val (.int p1), .val (.long q2), .second, .val (.int p3), .val (.long q4), .second, .val (.int (0 : Int32)), .val (.long v27), .second, .val (.long v30), .second, .val (.int v32), .val (.long v38), .second, .val (.long v39), .second, .val (.ref b41), .val (.ref b78), .val (.long v95), .second] [])) _
        refine XS.aload X92.here hx rfl (hb hby at_166) rfl rfl ?_
        show Steps p.tables e below (T92.setTop (mkF m 168 #[.val (.int p0), .val (.int p1), .val (.long q2), .second, .val (.int p3), .val (.long q4), .second, .val (.int (0 : Int32)), .val (.long v27), .second, .val (.long v30), .second, .val (.int v32), .val (.long v38), .second, .val (.long v39), .second, .val (.ref b41), .val (.ref b78), .val (.long v95), .second] [(.ref b41)])) _
        refine XS.iconst X92.here hx rfl (hb hby at_168) ?_
        show Steps p.tables e below (T92.setTop (mkF m 169 #[.val (.int p0), .val (.int p1), .val (.long q2), .second, .val (.int p3), .val (.long q4), .second, .val (.int (0 : Int32)), .val (.long v27), .second, .val (.long v30), .second, .val (.int v32), .val (.long v38), .second, .val (.long v39), .second, .val (.ref b41), .val (.ref b78), .val (.long v95), .second] [(.int (0 : Int32)), (.ref b41)])) _
        refine X92.laload hx (j := (0 : Int32)) (v := (.long v38)) (by rw [e94]; exact Ar98.1) (State.isArrayOf_alike hZ.alike Ar98.2.1) Ar98.2.2 hin98 hat98 (g := (mkF m 169 #[.val (.int p0), .val (.int p1), .val (.long q2), .second, .val (.int p3), .val (.long q4), .second, .val (.int (0 : Int32)), .val (.long v27), .second, .val (.long v30), .second, .val (.int v32), .val (.long v38), .second, .val (.long v39), .second, .val (.ref b41), .val (.ref b78), .val (.long v95), .second] [(.int (0 : Int32)), (.ref b41)])) rfl rfl (hb hby at_169) _ ?_
        show Steps p.tables e below (T92.setTop (mkF m 170 #[.val (.int p0), .val (.int p1), .val (.long q2), .second, .val (.int p3), .val (.long q4), .second, .val (.int (0 : Int32)), .val (.long v27), .second, .val (.long v30), .second, .val (.int v32), .val (.long v38), .second, .val (.long v39), .second, .val (.ref b41), .val (.ref b78), .val (.long v95), .second] [(.long v38)])) _
        refine XS.iconst X92.here hx rfl (hb hby at_170) ?_
        show Steps p.tables e below (T92.setTop (mkF m 171 #[.val (.int p0), .val (.int p1), .val (.long q2), .second, .val (.int p3), .val (.long q4), .second, .val (.int (0 : Int32)), .val (.long v27), .second, .val (.long v30), .second, .val (.int v32), .val (.long v38), .second, .val (.long v39), .second, .val (.ref b41), .val (.ref b78), .val (.long v95), .second] [(.int (0 : Int32)), (.long v38)])) _
        refine XS.iload X92.here hx rfl (hb hby at_171) rfl ?_
        show Steps p.tables e below (T92.setTop (mkF m 173 #[.val (.int p0), .val (.int p1), .val (.long q2), .second, .val (.int p3), .val (.long q4), .second, .val (.int (0 : Int32)), .val (.long v27), .second, .val (.long v30), .second, .val (.int v32), .val (.long v38), .second, .val (.long v39), .second, .val (.ref b41), .val (.ref b78), .val (.long v95), .second] [(.int (0 : Int32)), (.int (0 : Int32)), (.long v38)])) _
        refine XS.lload X92.here hx rfl (hb hby at_173) rfl ?_
        show Steps p.tables e below (T92.setTop (mkF m 175 #[.val (.int p0), .val (.int p1), .val (.long q2), .second, .val (.int p3), .val (.long q4), .second, .val (.int (0 : Int32)), .val (.long v27), .second, .val (.long v30), .second, .val (.int v32), .val (.long v38), .second, .val (.long v39), .second, .val (.ref b41), .val (.ref b78), .val (.long v95), .second] [(.long v38), (.int (0 : Int32)), (.int (0 : Int32)), (.long v38)])) _
        refine XS.lload X92.here hx rfl (hb hby at_175) rfl ?_
        show Steps p.tables e below (T92.setTop (mkF m 177 #[.val (.int p0), .val (.int p1), .val (.long q2), .second, .val (.int p3), .val (.long q4), .second, .val (.int (0 : Int32)), .val (.long v27), .second, .val (.long v30), .second, .val (.int v32), .val (.long v38), .second, .val (.long v39), .second, .val (.ref b41), .val (.ref b78), .val (.long v95), .second] [(.long v30), (.long v38), (.int (0 : Int32)), (.int (0 : Int32)), (.long v38)])) _
        refine st99 _ ?_
        show Steps p.tables e below (T99.setTop (mkF m 180 #[.val (.int p0), .val (.int p1), .val (.long q2), .second, .val (.int p3), .val (.long q4), .second, .val (.int (0 : Int32)), .val (.long v27), .second, .val (.long v30), .second, .val (.int v32), .val (.long v38), .second, .val (.long v39), .second, .val (.ref b41), .val (.ref b78), .val (.long v95), .second] [(.long (own_f5 (0 : Int32) (0 : Int32) v38 v30)), (.long v38)])) _
        refine XS.lcmp X99.here hx rfl (hb hby at_180) rfl ?_
        show Steps p.tables e below (T99.setTop (mkF m 181 #[.val (.int p0), .val (.int p1), .val (.long q2), .second, .val (.int p3), .val (.long q4), .second, .val (.int (0 : Int32)), .val (.long v27), .second, .val (.long v30), .second, .val (.int v32), .val (.long v38), .second, .val (.long v39), .second, .val (.ref b41), .val (.ref b78), .val (.long v95), .second] [(.int (lcmpW v38 (own_f5 (0 : Int32) (0 : Int32) v38 v30)))])) _
        exact kk)
      by_cases hc103 : v38 = (own_f5 (0 : Int32) (0 : Int32) v38 v30)
      · obtain ⟨cl104, Ar104, q104, S104, M104, H104, G104⟩ := id f89
        have hin104 : ¬ ((1 : Int32) < 0 ∨ cl104.slots.size ≤ ((1 : Int32)).toNatClampNeg) := inb_of S104 ⟨by decide, by decide⟩
        have hat104 : cl104.slots[((1 : Int32)).toNatClampNeg]? = some (.long v30) := H104.at hin104 rfl
        obtain ⟨_, _, ⟨T105, L105, k105, n105⟩, -, X105, ⟨Lc105, hQ105, l105, y105, z105⟩, st105⟩ := Jvm.LawKit.callS X99 hx (y := (⟨"com/example/thyme/thyme/lang/InLocationEvaluatePinLaw", "at", "(IIJJ)J"⟩ : MethodName)) hown (mvT hZ (hw _ (List.mem_of_getElem? (i := 24) rfl))) (mvT hZ (hw _ (List.mem_of_getElem? (i := 25) rfl))) (mvT hZ (hw _ (List.mem_of_getElem? (i := 26) rfl))) (mvT hZ (hw _ (List.mem_of_getElem? (i := 27) rfl))) (by decide) (backOf (W := 2) (own_rm5 l Z av hw [] (1 : Int32) (0 : Int32) v38 v30 T84.heap n0 z91 ) hZ (hw _ (List.mem_of_getElem? (i := 27) rfl)) (hw _ (List.mem_of_getElem? (i := 26) rfl)) (by decide) (by decide)) (g := (mkF m 195 #[.val (.int p0), .val (.int p1), .val (.long q2), .second, .val (.int p3), .val (.long q4), .second, .val (.int (0 : Int32)), .val (.long v27), .second, .val (.long v30), .second, .val (.int v32), .val (.long v38), .second, .val (.long v39), .second, .val (.ref b41), .val (.ref b78), .val (.long v95), .second] [(.long v30), (.long v38), (.int (0 : Int32)), (.int (1 : Int32)), (.long v30)])) rfl (by rw [hml]; rfl) (argsL := [(.int (1 : Int32)), (.int (0 : Int32)), (.long v38), (.long v30)]) (rest := [(.long v30)]) (lenOf own_pd3 rfl) rfl (by show 2 * 0 + _ ≤ _; exact Nat.le_of_eq rfl) (hb hby at_195) (fun _ _ => ⟨rfl, e101, (by decide : 2 + 0 ≤ _), (by decide : 6 + 0 ≤ _)⟩)
        dsimp only [Pt.U, Pt.locs, Pt.cells, Pt.slots] at X105 l105 y105 z105 st105 hQ105
        subst l105 y105 z105
        obtain ⟨rfl, N105q, e107⟩ := hQ105
        have N106 := Fr.app N100 N105q
        have pre108 : ∀ t, Steps p.tables e below (T105.setTop (mkF m 199 #[.val (.int p0), .val (.int p1), .val (.long q2), .second, .val (.int p3), .val (.long q4), .second, .val (.int (0 : Int32)), .val (.long v27), .second, .val (.long v30), .second, .val (.int v32), .val (.long v38), .second, .val (.long v39), .second, .val (.ref b41), .val (.ref b78), .val (.long v95), .second] [(.int (lcmpW v30 (own_f5 (1 : Int32) (0 : Int32) v38 v30)))])) t → Steps p.tables e below (s₁.setTop (entryFrame m #[(.int p0), (.int p1), (.long q2), (.int p3), (.long q4)] maxLocals)) t := fun t kk => pre102 t (by
          show Steps p.tables e below (T99.setTop (mkF m 181 #[.val (.int p0), .val (.int p1), .val (.long q2), .second, .val (.int p3), .val (.long q4), .second, .val (.int (0 : Int32)), .val (.long v27), .second, .val (.long v30), .second, .val (.int v32), .val (.long v38), .second, .val (.long v39), .second, .val (.ref b41), .val (.ref b78), .val (.long v95), .second] [(.int (lcmpW v38 (own_f5 (0 : Int32) (0 : Int32) v38 v30)))])) _
          refine XS.ifNo X99.here hx rfl (hb hby at_181) rfl ((if0 _ _).trans (teq ((lw_eq v38 (own_f5 (0 : Int32) (0 : Int32) v38 v30)).mpr hc103)).2) ?_
          show Steps p.tables e below (T99.setTop (mkF m 184 #[.val (.int p0), .val (.int p1), .val (.long q2), .second, .val (.int p3), .val (.long q4), .second, .val (.int (0 : Int32)), .val (.long v27), .second, .val (.long v30), .second, .val (.int v32), .val (.long v38), .second, .val (.long v39), .second, .val (.ref b41), .val (.ref b78), .val (.long v95), .second] [])) _
          refine XS.aload X99.here hx rfl (hb hby at_184) rfl rfl ?_
          show Steps p.tables e below (T99.setTop (mkF m 186 #[.val (.int p0), .val (.int p1), .val (.long q2), .second, .val (.int p3), .val (.long q4), .second, .val (.int (0 : Int32)), .val (.long v27), .second, .val (.long v30), .second, .val (.int v32), .val (.long v38), .second, .val (.long v39), .second, .val (.ref b41), .val (.ref b78), .val (.long v95), .second] [(.ref b41)])) _
          refine XS.iconst X99.here hx rfl (hb hby at_186) ?_
          show Steps p.tables e below (T99.setTop (mkF m 187 #[.val (.int p0), .val (.int p1), .val (.long q2), .second, .val (.int p3), .val (.long q4), .second, .val (.int (0 : Int32)), .val (.long v27), .second, .val (.long v30), .second, .val (.int v32), .val (.long v38), .second, .val (.long v39), .second, .val (.ref b41), .val (.ref b78), .val (.long v95), .second] [(.int (1 : Int32)), (.ref b41)])) _
          refine X99.laload hx (j := (1 : Int32)) (v := (.long v30)) (by rw [e101]; exact Ar104.1) (State.isArrayOf_alike hZ.alike Ar104.2.1) Ar104.2.2 hin104 hat104 (g := (mkF m 187 #[.val (.int p0), .val (.int p1), .val (.long q2), .second, .val (.int p3), .val (.long q4), .second, .val (.int (0 : Int32)), .val (.long v27), .second, .val (.long v30), .second, .val (.int v32), .val (.long v38), .second, .val (.long v39), .second, .val (.ref b41), .val (.ref b78), .val (.long v95), .second] [(.int (1 : Int32)), (.ref b41)])) rfl rfl (hb hby at_187) _ ?_
          show Steps p.tables e below (T99.setTop (mkF m 188 #[.val (.int p0), .val (.int p1), .val (.long q2), .second, .val (.int p3), .val (.long q4), .second, .val (.int (0 : Int32)), .val (.long v27), .second, .val (.long v30), .second, .val (.int v32), .val (.long v38), .second, .val (.long v39), .second, .val (.ref b41), .val (.ref b78), .val (.long v95), .second] [(.long v30)])) _
          refine XS.iconst X99.here hx rfl (hb hby at_188) ?_
          show Steps p.tables e below (T99.setTop (mkF m 189 #[.val (.int p0), .val (.int p1), .val (.long q2), .second, .val (.int p3), .val (.long q4), .second, .val (.int (0 : Int32)), .val (.long v27), .second, .val (.long v30), .second, .val (.int v32), .val (.long v38), .second, .val (.long v39), .second, .val (.ref b41), .val (.ref b78), .val (.long v95), .second] [(.int (1 : Int32)), (.long v30)])) _
          refine XS.iload X99.here hx rfl (hb hby at_189) rfl ?_
          show Steps p.tables e below (T99.setTop (mkF m 191 #[.val (.int p0), .val (.int p1), .val (.long q2), .second, .val (.int p3), .val (.long q4), .second, .val (.int (0 : Int32)), .val (.long v27), .second, .val (.long v30), .second, .val (.int v32), .val (.long v38), .second, .val (.long v39), .second, .val (.ref b41), .val (.ref b78), .val (.long v95), .second] [(.int (0 : Int32)), (.int (1 : Int32)), (.long v30)])) _
          refine XS.lload X99.here hx rfl (hb hby at_191) rfl ?_
          show Steps p.tables e below (T99.setTop (mkF m 193 #[.val (.int p0), .val (.int p1), .val (.long q2), .second, .val (.int p3), .val (.long q4), .second, .val (.int (0 : Int32)), .val (.long v27), .second, .val (.long v30), .second, .val (.int v32), .val (.long v38), .second, .val (.long v39), .second, .val (.ref b41), .val (.ref b78), .val (.long v95), .second] [(.long v38), (.int (0 : Int32)), (.int (1 : Int32)), (.long v30)])) _
          refine XS.lload X99.here hx rfl (hb hby at_193) rfl ?_
          show Steps p.tables e below (T99.setTop (mkF m 195 #[.val (.int p0), .val (.int p1), .val (.long q2), .second, .val (.int p3), .val (.long q4), .second, .val (.int (0 : Int32)), .val (.long v27), .second, .val (.long v30), .second, .val (.int v32), .val (.long v38), .second, .val (.long v39), .second, .val (.ref b41), .val (.ref b78), .val (.long v95), .second] [(.long v30), (.long v38), (.int (0 : Int32)), (.int (1 : Int32)), (.long v30)])) _
          refine st105 _ ?_
          show Steps p.tables e below (T105.setTop (mkF m 198 #[.val (.int p0), .val (.int p1), .val (.long q2), .second, .val (.int p3), .val (.long q4), .second, .val (.int (0 : Int32)), .val (.long v27), .second, .val (.long v30), .second, .val (.int v32), .val (.long v38), .second, .val (.long v39), .second, .val (.ref b41), .val (.ref b78), .val (.long v95), .second] [(.long (own_f5 (1 : Int32) (0 : Int32) v38 v30)), (.long v30)])) _
          refine XS.lcmp X105.here hx rfl (hb hby at_198) rfl ?_
          show Steps p.tables e below (T105.setTop (mkF m 199 #[.val (.int p0), .val (.int p1), .val (.long q2), .second, .val (.int p3), .val (.long q4), .second, .val (.int (0 : Int32)), .val (.long v27), .second, .val (.long v30), .second, .val (.int v32), .val (.long v38), .second, .val (.long v39), .second, .val (.ref b41), .val (.ref b78), .val (.long v95), .second] [(.int (lcmpW v30 (own_f5 (1 : Int32) (0 : Int32) v38 v30)))])) _
          exact kk)
        by_cases hc109 : v30 = (own_f5 (1 : Int32) (0 : Int32) v38 v30)
        · obtain ⟨cl110, Ar110, q110, S110, M110, H110, G110⟩ := id f89
          have hin110 : ¬ ((2 : Int32) < 0 ∨ cl110.slots.size ≤ ((2 : Int32)).toNatClampNeg) := inb_of S110 ⟨by decide, by decide⟩
          have hat110 : cl110.slots[((2 : Int32)).toNatClampNeg]? = some (.long v30) := H110.at hin110 rfl
          obtain ⟨_, _, ⟨T111, L111, k111, n111⟩, -, X111, ⟨Lc111, hQ111, l111, y111, z111⟩, st111⟩ := Jvm.LawKit.callS X105 hx (y := (⟨"com/example/thyme/thyme/lang/InLocationEvaluatePinLaw", "at", "(IIJJ)J"⟩ : MethodName)) hown (mvT hZ (hw _ (List.mem_of_getElem? (i := 24) rfl))) (mvT hZ (hw _ (List.mem_of_getElem? (i := 25) rfl))) (mvT hZ (hw _ (List.mem_of_getElem? (i := 26) rfl))) (mvT hZ (hw _ (List.mem_of_getElem? (i := 27) rfl))) (by decide) (backOf (W := 2) (own_rm5 l Z av hw [] (2 : Int32) (0 : Int32) v38 v30 T84.heap n0 z91 ) hZ (hw _ (List.mem_of_getElem? (i := 27) rfl)) (hw _ (List.mem_of_getElem? (i := 26) rfl)) (by decide) (by decide)) (g := (mkF m 213 #[.val (.int p0), .val (.int p1), .val (.long q2), .second, .val (.int p3), .val (.long q4), .second, .val (.int (0 : Int32)), .val (.long v27), .second, .val (.long v30), .second, .val (.int v32), .val (.long v38), .second, .val (.long v39), .second, .val (.ref b41), .val (.ref b78), .val (.long v95), .second] [(.long v30), (.long v38), (.int (0 : Int32)), (.int (2 : Int32)), (.long v30)])) rfl (by rw [hml]; rfl) (argsL := [(.int (2 : Int32)), (.int (0 : Int32)), (.long v38), (.long v30)]) (rest := [(.long v30)]) (lenOf own_pd3 rfl) rfl (by show 2 * 0 + _ ≤ _; exact Nat.le_of_eq rfl) (hb hby at_213) (fun _ _ => ⟨rfl, e107, (by decide : 2 + 0 ≤ _), (by decide : 6 + 0 ≤ _)⟩)
          dsimp only [Pt.U, Pt.locs, Pt.cells, Pt.slots] at X111 l111 y111 z111 st111 hQ111
          subst l111 y111 z111
          obtain ⟨rfl, N111q, e113⟩ := hQ111
          have N112 := Fr.app N106 N111q
          have pre114 : ∀ t, Steps p.tables e below (T111.setTop (mkF m 217 #[.val (.int p0), .val (.int p1), .val (.long q2), .second, .val (.int p3), .val (.long q4), .second, .val (.int (0 : Int32)), .val (.long v27), .second, .val (.long v30), .second, .val (.int v32), .val (.long v38), .second, .val (.long v39), .second, .val (.ref b41), .val (.ref b78), .val (.long v95), .second] [(.int (lcmpW v30 (own_f5 (2 : Int32) (0 : Int32) v38 v30)))])) t → Steps p.tables e below (s₁.setTop (entryFrame m #[(.int p0), (.int p1), (.long q2), (.int p3), (.long q4)] maxLocals)) t := fun t kk => pre108 t (by
            show Steps p.tables e below (T105.setTop (mkF m 199 #[.val (.int p0), .val (.int p1), .val (.long q2), .second, .val (.int p3), .val (.long q4), .second, .val (.int (0 : Int32)), .val (.long v27), .second, .val (.long v30), .second, .val (.int v32), .val (.long v38), .second, .val (.long v39), .second, .val (.ref b41), .val (.ref b78), .val (.long v95), .second] [(.int (lcmpW v30 (own_f5 (1 : Int32) (0 : Int32) v38 v30)))])) _
            refine XS.ifNo X105.here hx rfl (hb hby at_199) rfl ((if0 _ _).trans (teq ((lw_eq v30 (own_f5 (1 : Int32) (0 : Int32) v38 v30)).mpr hc109)).2) ?_
            show Steps p.tables e below (T105.setTop (mkF m 202 #[.val (.int p0), .val (.int p1), .val (.long q2), .second, .val (.int p3), .val (.long q4), .second, .val (.int (0 : Int32)), .val (.long v27), .second, .val (.long v30), .second, .val (.int v32), .val (.long v38), .second, .val (.long v39), .second, .val (.ref b41), .val (.ref b78), .val (.long v95), .second] [])) _
            refine XS.aload X105.here hx rfl (hb hby at_202) rfl rfl ?_
            show Steps p.tables e below (T105.setTop (mkF m 204 #[.val (.int p0), .val (.int p1), .val (.long q2), .second, .val (.int p3), .val (.long q4), .second, .val (.int (0 : Int32)), .val (.long v27), .second, .val (.long v30), .second, .val (.int v32), .val (.long v38), .second, .val (.long v39), .second, .val (.ref b41), .val (.ref b78), .val (.long v95), .second] [(.ref b41)])) _
            refine XS.iconst X105.here hx rfl (hb hby at_204) ?_
            show Steps p.tables e below (T105.setTop (mkF m 205 #[.val (.int p0), .val (.int p1), .val (.long q2), .second, .val (.int p3), .val (.long q4), .second, .val (.int (0 : Int32)), .val (.long v27), .second, .val (.long v30), .second, .val (.int v32), .val (.long v38), .second, .val (.long v39), .second, .val (.ref b41), .val (.ref b78), .val (.long v95), .second] [(.int (2 : Int32)), (.ref b41)])) _
            refine X105.laload hx (j := (2 : Int32)) (v := (.long v30)) (by rw [e107]; exact Ar110.1) (State.isArrayOf_alike hZ.alike Ar110.2.1) Ar110.2.2 hin110 hat110 (g := (mkF m 205 #[.val (.int p0), .val (.int p1), .val (.long q2), .second, .val (.int p3), .val (.long q4), .second, .val (.int (0 : Int32)), .val (.long v27), .second, .val (.long v30), .second, .val (.int v32), .val (.long v38), .second, .val (.long v39), .second, .val (.ref b41), .val (.ref b78), .val (.long v95), .second] [(.int (2 : Int32)), (.ref b41)])) rfl rfl (hb hby at_205) _ ?_
            show Steps p.tables e below (T105.setTop (mkF m 206 #[.val (.int p0), .val (.int p1), .val (.long q2), .second, .val (.int p3), .val (.long q4), .second, .val (.int (0 : Int32)), .val (.long v27), .second, .val (.long v30), .second, .val (.int v32), .val (.long v38), .second, .val (.long v39), .second, .val (.ref b41), .val (.ref b78), .val (.long v95), .second] [(.long v30)])) _
            refine XS.iconst X105.here hx rfl (hb hby at_206) ?_
            show Steps p.tables e below (T105.setTop (mkF m 207 #[.val (.int p0), .val (.int p1), .val (.long q2), .second, .val (.int p3), .val (.long q4), .second, .val (.int (0 : Int32)), .val (.long v27), .second, .val (.long v30), .second, .val (.int v32), .val (.long v38), .second, .val (.long v39), .second, .val (.ref b41), .val (.ref b78), .val (.long v95), .second] [(.int (2 : Int32)), (.long v30)])) _
            refine XS.iload X105.here hx rfl (hb hby at_207) rfl ?_
            show Steps p.tables e below (T105.setTop (mkF m 209 #[.val (.int p0), .val (.int p1), .val (.long q2), .second, .val (.int p3), .val (.long q4), .second, .val (.int (0 : Int32)), .val (.long v27), .second, .val (.long v30), .second, .val (.int v32), .val (.long v38), .second, .val (.long v39), .second, .val (.ref b41), .val (.ref b78), .val (.long v95), .second] [(.int (0 : Int32)), (.int (2 : Int32)), (.long v30)])) _
            refine XS.lload X105.here hx rfl (hb hby at_209) rfl ?_
            show Steps p.tables e below (T105.setTop (mkF m 211 #[.val (.int p0), .val (.int p1), .val (.long q2), .second, .val (.int p3), .val (.long q4), .second, .val (.int (0 : Int32)), .val (.long v27), .second, .val (.long v30), .second, .val (.int v32), .val (.long v38), .second, .val (.long v39), .second, .val (.ref b41), .val (.ref b78), .val (.long v95), .second] [(.long v38), (.int (0 : Int32)), (.int (2 : Int32)), (.long v30)])) _
            refine XS.lload X105.here hx rfl (hb hby at_211) rfl ?_
            show Steps p.tables e below (T105.setTop (mkF m 213 #[.val (.int p0), .val (.int p1), .val (.long q2), .second, .val (.int p3), .val (.long q4), .second, .val (.int (0 : Int32)), .val (.long v27), .second, .val (.long v30), .second, .val (.int v32), .val (.long v38), .second, .val (.long v39), .second, .val (.ref b41), .val (.ref b78), .val (.long v95), .second] [(.long v30), (.long v38), (.int (0 : Int32)), (.int (2 : Int32)), (.long v30)])) _
            refine st111 _ ?_
            show Steps p.tables e below (T111.setTop (mkF m 216 #[.val (.int p0), .val (.int p1), .val (.long q2), .second, .val (.int p3), .val (.long q4), .second, .val (.int (0 : Int32)), .val (.long v27), .second, .val (.long v30), .second, .val (.int v32), .val (.long v38), .second, .val (.long v39), .second, .val (.ref b41), .val (.ref b78), .val (.long v95), .second] [(.long (own_f5 (2 : Int32) (0 : Int32) v38 v30)), (.long v30)])) _
            refine XS.lcmp X111.here hx rfl (hb hby at_216) rfl ?_
            show Steps p.tables e below (T111.setTop (mkF m 217 #[.val (.int p0), .val (.int p1), .val (.long q2), .second, .val (.int p3), .val (.long q4), .second, .val (.int (0 : Int32)), .val (.long v27), .second, .val (.long v30), .second, .val (.int v32), .val (.long v38), .second, .val (.long v39), .second, .val (.ref b41), .val (.ref b78), .val (.long v95), .second] [(.int (lcmpW v30 (own_f5 (2 : Int32) (0 : Int32) v38 v30)))])) _
            exact kk)
          by_cases hc115 : v30 = (own_f5 (2 : Int32) (0 : Int32) v38 v30)
          · obtain ⟨cl116, Ar116, q116, S116, M116, H116, G116⟩ := id f89
            have hin116 : ¬ ((3 : Int32) < 0 ∨ cl116.slots.size ≤ ((3 : Int32)).toNatClampNeg) := inb_of S116 ⟨by decide, by decide⟩
            have hat116 : cl116.slots[((3 : Int32)).toNatClampNeg]? = some (.long v30) := H116.at hin116 rfl
            obtain ⟨_, _, ⟨T117, L117, k117, n117⟩, -, X117, ⟨Lc117, hQ117, l117, y117, z117⟩, st117⟩ := Jvm.LawKit.callS X111 hx (y := (⟨"com/example/thyme/thyme/lang/InLocationEvaluatePinLaw", "at", "(IIJJ)J"⟩ : MethodName)) hown (mvT hZ (hw _ (List.mem_of_getElem? (i := 24) rfl))) (mvT hZ (hw _ (List.mem_of_getElem? (i := 25) rfl))) (mvT hZ (hw _ (List.mem_of_getElem? (i := 26) rfl))) (mvT hZ (hw _ (List.mem_of_getElem? (i := 27) rfl))) (by decide) (backOf (W := 2) (own_rm5 l Z av hw [] (3 : Int32) (0 : Int32) v38 v30 T84.heap n0 z91 ) hZ (hw _ (List.mem_of_getElem? (i := 27) rfl)) (hw _ (List.mem_of_getElem? (i := 26) rfl)) (by decide) (by decide)) (g := (mkF m 231 #[.val (.int p0), .val (.int p1), .val (.long q2), .second, .val (.int p3), .val (.long q4), .second, .val (.int (0 : Int32)), .val (.long v27), .second, .val (.long v30), .second, .val (.int v32), .val (.long v38), .second, .val (.long v39), .second, .val (.ref b41), .val (.ref b78), .val (.long v95), .second] [(.long v30), (.long v38), (.int (0 : Int32)), (.int (3 : Int32)), (.long v30)])) rfl (by rw [hml]; rfl) (argsL := [(.int (3 : Int32)), (.int (0 : Int32)), (.long v38), (.long v30)]) (rest := [(.long v30)]) (lenOf own_pd3 rfl) rfl (by show 2 * 0 + _ ≤ _; exact Nat.le_of_eq rfl) (hb hby at_231) (fun _ _ => ⟨rfl, e113, (by decide : 2 + 0 ≤ _), (by decide : 6 + 0 ≤ _)⟩)
            dsimp only [Pt.U, Pt.locs, Pt.cells, Pt.slots] at X117 l117 y117 z117 st117 hQ117
            subst l117 y117 z117
            obtain ⟨rfl, N117q, e119⟩ := hQ117
            have N118 := Fr.app N112 N117q
            have pre120 : ∀ t, Steps p.tables e below (T117.setTop (mkF m 235 #[.val (.int p0), .val (.int p1), .val (.long q2), .second, .val (.int p3), .val (.long q4), .second, .val (.int (0 : Int32)), .val (.long v27), .second, .val (.long v30), .second, .val (.int v32), .val (.long v38), .second, .val (.long v39), .second, .val (.ref b41), .val (.ref b78), .val (.long v95), .second] [(.int (lcmpW v30 (own_f5 (3 : Int32) (0 : Int32) v38 v30)))])) t → Steps p.tables e below (s₁.setTop (entryFrame m #[(.int p0), (.int p1), (.long q2), (.int p3), (.long q4)] maxLocals)) t := fun t kk => pre114 t (by
              show Steps p.tables e below (T111.setTop (mkF m 217 #[.val (.int p0), .val (.int p1), .val (.long q2), .second, .val (.int p3), .val (.long q4), .second, .val (.int (0 : Int32)), .val (.long v27), .second, .val (.long v30), .second, .val (.int v32), .val (.long v38), .second, .val (.long v39), .second, .val (.ref b41), .val (.ref b78), .val (.long v95), .second] [(.int (lcmpW v30 (own_f5 (2 : Int32) (0 : Int32) v38 v30)))])) _
              refine XS.ifNo X111.here hx rfl (hb hby at_217) rfl ((if0 _ _).trans (teq ((lw_eq v30 (own_f5 (2 : Int32) (0 : Int32) v38 v30)).mpr hc115)).2) ?_
              show Steps p.tables e below (T111.setTop (mkF m 220 #[.val (.int p0), .val (.int p1), .val (.long q2), .second, .val (.int p3), .val (.long q4), .second, .val (.int (0 : Int32)), .val (.long v27), .second, .val (.long v30), .second, .val (.int v32), .val (.long v38), .second, .val (.long v39), .second, .val (.ref b41), .val (.ref b78), .val (.long v95), .second] [])) _
              refine XS.aload X111.here hx rfl (hb hby at_220) rfl rfl ?_
              show Steps p.tables e below (T111.setTop (mkF m 222 #[.val (.int p0), .val (.int p1), .val (.long q2), .second, .val (.int p3), .val (.long q4), .second, .val (.int (0 : Int32)), .val (.long v27), .second, .val (.long v30), .second, .val (.int v32), .val (.long v38), .second, .val (.long v39), .second, .val (.ref b41), .val (.ref b78), .val (.long v95), .second] [(.ref b41)])) _
              refine XS.iconst X111.here hx rfl (hb hby at_222) ?_
              show Steps p.tables e below (T111.setTop (mkF m 223 #[.val (.int p0), .val (.int p1), .val (.long q2), .second, .val (.int p3), .val (.long q4), .second, .val (.int (0 : Int32)), .val (.long v27), .second, .val (.long v30), .second, .val (.int v32), .val (.long v38), .second, .val (.long v39), .second, .val (.ref b41), .val (.ref b78), .val (.long v95), .second] [(.int (3 : Int32)), (.ref b41)])) _
              refine X111.laload hx (j := (3 : Int32)) (v := (.long v30)) (by rw [e113]; exact Ar116.1) (State.isArrayOf_alike hZ.alike Ar116.2.1) Ar116.2.2 hin116 hat116 (g := (mkF m 223 #[.val (.int p0), .val (.int p1), .val (.long q2), .second, .val (.int p3), .val (.long q4), .second, .val (.int (0 : Int32)), .val (.long v27), .second, .val (.long v30), .second, .val (.int v32), .val (.long v38), .second, .val (.long v39), .second, .val (.ref b41), .val (.ref b78), .val (.long v95), .second] [(.int (3 : Int32)), (.ref b41)])) rfl rfl (hb hby at_223) _ ?_
              show Steps p.tables e below (T111.setTop (mkF m 224 #[.val (.int p0), .val (.int p1), .val (.long q2), .second, .val (.int p3), .val (.long q4), .second, .val (.int (0 : Int32)), .val (.long v27), .second, .val (.long v30), .second, .val (.int v32), .val (.long v38), .second, .val (.long v39), .second, .val (.ref b41), .val (.ref b78), .val (.long v95), .second] [(.long v30)])) _
              refine XS.iconst X111.here hx rfl (hb hby at_224) ?_
              show Steps p.tables e below (T111.setTop (mkF m 225 #[.val (.int p0), .val (.int p1), .val (.long q2), .second, .val (.int p3), .val (.long q4), .second, .val (.int (0 : Int32)), .val (.long v27), .second, .val (.long v30), .second, .val (.int v32), .val (.long v38), .second, .val (.long v39), .second, .val (.ref b41), .val (.ref b78), .val (.long v95), .second] [(.int (3 : Int32)), (.long v30)])) _
              refine XS.iload X111.here hx rfl (hb hby at_225) rfl ?_
              show Steps p.tables e below (T111.setTop (mkF m 227 #[.val (.int p0), .val (.int p1), .val (.long q2), .second, .val (.int p3), .val (.long q4), .second, .val (.int (0 : Int32)), .val (.long v27), .second, .val (.long v30), .second, .val (.int v32), .val (.long v38), .second, .val (.long v39), .second, .val (.ref b41), .val (.ref b78), .val (.long v95), .second] [(.int (0 : Int32)), (.int (3 : Int32)), (.long v30)])) _
              refine XS.lload X111.here hx rfl (hb hby at_227) rfl ?_
              show Steps p.tables e below (T111.setTop (mkF m 229 #[.val (.int p0), .val (.int p1), .val (.long q2), .second, .val (.int p3), .val (.long q4), .second, .val (.int (0 : Int32)), .val (.long v27), .second, .val (.long v30), .second, .val (.int v32), .val (.long v38), .second, .val (.long v39), .second, .val (.ref b41), .val (.ref b78), .val (.long v95), .second] [(.long v38), (.int (0 : Int32)), (.int (3 : Int32)), (.long v30)])) _
              refine XS.lload X111.here hx rfl (hb hby at_229) rfl ?_
              show Steps p.tables e below (T111.setTop (mkF m 231 #[.val (.int p0), .val (.int p1), .val (.long q2), .second, .val (.int p3), .val (.long q4), .second, .val (.int (0 : Int32)), .val (.long v27), .second, .val (.long v30), .second, .val (.int v32), .val (.long v38), .second, .val (.long v39), .second, .val (.ref b41), .val (.ref b78), .val (.long v95), .second] [(.long v30), (.long v38), (.int (0 : Int32)), (.int (3 : Int32)), (.long v30)])) _
              refine st117 _ ?_
              show Steps p.tables e below (T117.setTop (mkF m 234 #[.val (.int p0), .val (.int p1), .val (.long q2), .second, .val (.int p3), .val (.long q4), .second, .val (.int (0 : Int32)), .val (.long v27), .second, .val (.long v30), .second, .val (.int v32), .val (.long v38), .second, .val (.long v39), .second, .val (.ref b41), .val (.ref b78), .val (.long v95), .second] [(.long (own_f5 (3 : Int32) (0 : Int32) v38 v30)), (.long v30)])) _
              refine XS.lcmp X117.here hx rfl (hb hby at_234) rfl ?_
              show Steps p.tables e below (T117.setTop (mkF m 235 #[.val (.int p0), .val (.int p1), .val (.long q2), .second, .val (.int p3), .val (.long q4), .second, .val (.int (0 : Int32)), .val (.long v27), .second, .val (.long v30), .second, .val (.int v32), .val (.long v38), .second, .val (.long v39), .second, .val (.ref b41), .val (.ref b78), .val (.long v95), .second] [(.int (lcmpW v30 (own_f5 (3 : Int32) (0 : Int32) v38 v30)))])) _
              exact kk)
            by_cases hc121 : v30 = (own_f5 (3 : Int32) (0 : Int32) v38 v30)
            · obtain ⟨fs, hr, hrun, hended, hW, hsame⟩ := X117.leave (v := some (.int (1 : Int32))) (fun h => by rw [Bd.returns] at h; cases h)
              refine ⟨_, _, pre120 _ ?_, hrun, hended, _, _, rfl, ?_, ⟨_, rfl⟩, hW, hsame.mono (by decide) (by decide)⟩
              · show Steps p.tables e below (T117.setTop (mkF m 235 #[.val (.int p0), .val (.int p1), .val (.long q2), .second, .val (.int p3), .val (.long q4), .second, .val (.int (0 : Int32)), .val (.long v27), .second, .val (.long v30), .second, .val (.int v32), .val (.long v38), .second, .val (.long v39), .second, .val (.ref b41), .val (.ref b78), .val (.long v95), .second] [(.int (lcmpW v30 (own_f5 (3 : Int32) (0 : Int32) v38 v30)))])) _
                refine XS.ifNo X117.here hx rfl (hb hby at_235) rfl ((if0 _ _).trans (teq ((lw_eq v30 (own_f5 (3 : Int32) (0 : Int32) v38 v30)).mpr hc121)).2) ?_
                show Steps p.tables e below (T117.setTop (mkF m 238 #[.val (.int p0), .val (.int p1), .val (.long q2), .second, .val (.int p3), .val (.long q4), .second, .val (.int (0 : Int32)), .val (.long v27), .second, .val (.long v30), .second, .val (.int v32), .val (.long v38), .second, .val (.long v39), .second, .val (.ref b41), .val (.ref b78), .val (.long v95), .second] [])) _
                refine XS.iconst X117.here hx rfl (hb hby at_238) ?_
                show Steps p.tables e below (T117.setTop (mkF m 239 #[.val (.int p0), .val (.int p1), .val (.long q2), .second, .val (.int p3), .val (.long q4), .second, .val (.int (0 : Int32)), .val (.long v27), .second, .val (.long v30), .second, .val (.int v32), .val (.long v38), .second, .val (.long v39), .second, .val (.ref b41), .val (.ref b78), .val (.long v95), .second] [(.int (1 : Int32))])) _
                refine XS.goto X117.here hx rfl (pc0 := 239) (pc' := 243) rfl (hb hby at_239) (by decide) (by decide) ?_
                show Steps p.tables e below (T117.setTop (mkF m 243 #[.val (.int p0), .val (.int p1), .val (.long q2), .second, .val (.int p3), .val (.long q4), .second, .val (.int (0 : Int32)), .val (.long v27), .second, .val (.long v30), .second, .val (.int v32), .val (.long v38), .second, .val (.long v39), .second, .val (.ref b41), .val (.ref b78), .val (.long v95), .second] [(.int (1 : Int32))])) _
                exact retN X117 hx (t := .boolean) Bd.returns (by simp) (hb hby at_243) hr
              · show own_Q0 Z p0 p1 q2 p3 q4 h0 n0 _ T117.heap _
                rw [e119]
                exact ⟨rfl, N118⟩
            · exact (own_leaf0_2 p0 p1 q2 p3 q4 hv26 v27 hv27 v30 hv30 v32 hv32 v38 hv38 v39 hv39 v95 hv95 hc97 hc103 hc109 hc115 hc121).elim
          · exact (own_leaf0_3 p0 p1 q2 p3 q4 hv26 v27 hv27 v30 hv30 v32 hv32 v38 hv38 v39 hv39 v95 hv95 hc97 hc103 hc109 hc115).elim
        · exact (own_leaf0_4 p0 p1 q2 p3 q4 hv26 v27 hv27 v30 hv30 v32 hv32 v38 hv38 v39 hv39 v95 hv95 hc97 hc103 hc109).elim
      · exact (own_leaf0_5 p0 p1 q2 p3 q4 hv26 v27 hv27 v30 hv30 v32 hv32 v38 hv38 v39 hv39 v95 hv95 hc97 hc103).elim
    · exact (own_leaf0_6 p0 p1 q2 p3 q4 hv26 v27 hv27 v30 hv30 v32 hv32 v38 hv38 v39 hv39 v95 hv95 hc97).elim
  · subst hs71
    obtain ⟨cl122, Ar122, q122, S122, M122, H122, G122⟩ := id f68
    have hin122 : ¬ ((1 : Int32) < 0 ∨ cl122.slots.size ≤ ((1 : Int32)).toNatClampNeg) := inb_of S122 ⟨by decide, by decide⟩
    obtain ⟨T123, h123, X123, e123, W123, st123⟩ := stJ X64 hx hZ e64 Ar122 (j := (1 : Int32)) hin122 (g := (mkF m 136 #[.val (.int p0), .val (.int p1), .val (.long q2), .second, .val (.int p3), .val (.long q4), .second, .val (.int (1 : Int32)), .val (.long v27), .second, .val (.long v30), .second, .val (.int v32), .val (.long v38), .second, .val (.long v39), .second, .val (.ref b41), .unset, .unset, .unset] [(.long v38), (.int (1 : Int32)), (.ref b41)])) rfl rfl (hb hby at_136)
    have K124 : Keep h0 h123 [] := K65.wr W123 (Or.inr sz_b41)
    have z125 : n0 ≤ h123.size := Nat.le_trans z66 (Keep.of_wr W123).1
    have N126 := Fr.snoc X123 N67 g_b41
    have f127 : Arv Z h123 b41 k41 .long (4 : Int32) [(.long v30), (.long v38), (.long v30), (.long v30)] (.long (0 : Int64)) := Arv.set Ar122 q122 S122 M122 H122 G122 rfl W123 1 rfl (Nat.le_of_ble_eq_true rfl)
    obtain ⟨T128, h128, X128, e128, E128, A128, D128, -, st128⟩ := newO X123 hx hZ hown (hw _ (List.mem_of_getElem? (i := 1) rfl)) (hw _ (List.mem_of_getElem? (i := 2) rfl)) (hw _ (List.mem_of_getElem? (i := 3) rfl)) e123 (g := (mkF m 137 #[.val (.int p0), .val (.int p1), .val (.long q2), .second, .val (.int p3), .val (.long q4), .second, .val (.int (1 : Int32)), .val (.long v27), .second, .val (.long v30), .second, .val (.int v32), .val (.long v38), .second, .val (.long v39), .second, .val (.ref b41), .unset, .unset, .unset] [])) rfl (hb hby at_137) (by decide) (by decide)
    obtain ⟨b128, g128⟩ : ∃ z, z = h123.size := ⟨_, rfl⟩
    have ne_b41_b128 : b41 ≠ b128 := Nat.ne_of_lt (Nat.lt_of_lt_of_le f127.lt (Nat.le_of_eq g128.symm))
    have g_b128 : n0 ≤ b128 := Nat.le_trans z125 (Nat.le_of_eq g128.symm)
    have sz_b128 : h0.size ≤ b128 := Nat.le_trans K124.1 (Nat.le_of_eq g128.symm)
    rw [← g128] at A128 D128 st128
    have f129 := f127.ext E128
    have z130 : n0 ≤ h128.size := Nat.le_trans z125 E128.1
    have K131 : Keep h0 h128 [] := K124.ext E128
    have f132 : Fld Z h128 b128 "com/example/thyme/thyme/lang/Expression$InLocation" "slot" "I" (.int (0 : Int32)) := D128 (Or.inr (hw _ (List.mem_of_getElem? (i := 16) rfl))) (ty := .int) (by decide)
    have f133 : Fld Z h128 b128 "com/example/thyme/thyme/lang/Expression$InLocation" "location" "I" (.int (0 : Int32)) := D128 (Or.inr (hw _ (List.mem_of_getElem? (i := 18) rfl))) (ty := .int) (by decide)
    obtain ⟨_, _, ⟨T134, L134, k134, n134⟩, -, X134, ⟨Lc134, hQ134, l134, y134, z134⟩, st134⟩ := X128.specialBack hx (y := (⟨"com/example/thyme/thyme/lang/Expression$InLocation", "<init>", "(II)V"⟩ : MethodName)) rfl hown (mvT hZ (hw _ (List.mem_of_getElem? (i := 4) rfl))) (mvT hZ (hw _ (List.mem_of_getElem? (i := 5) rfl))) (mvT hZ (hw _ (List.mem_of_getElem? (i := 6) rfl))) (by decide) (backOf (W := 1) (own_rm1 l Z av hw [] b128 (1 : Int32) p1 h128 n0 z130 A128 f132 f133 g_b128) hZ (hw _ (List.mem_of_getElem? (i := 6) rfl)) (hw _ (List.mem_of_getElem? (i := 3) rfl)) (by decide) (by decide)) (g := (mkF m 144 #[.val (.int p0), .val (.int p1), .val (.long q2), .second, .val (.int p3), .val (.long q4), .second, .val (.int (1 : Int32)), .val (.long v27), .second, .val (.long v30), .second, .val (.int v32), .val (.long v38), .second, .val (.long v39), .second, .val (.ref b41), .unset, .unset, .unset] [(.int p1), (.int (1 : Int32)), (.ref b128), (.ref b128)])) rfl (by rw [hml]; rfl) (Steps.refl _) (a := b128) (argsL := [(.int (1 : Int32)), (.int p1)]) (rest := [(.ref b128)]) (lenOf own_pd1 rfl) rfl (by show 2 * 0 + _ ≤ _; exact Nat.le_of_eq rfl) (hb hby at_144) (fun _ _ => ⟨rfl, e128, (by decide : 2 + 0 ≤ _), (by decide : 6 + 0 ≤ _)⟩)
    dsimp only [Pt.U, Pt.locs, Pt.cells, Pt.slots] at X134 l134 y134 z134 st134 hQ134
    subst l134 y134 z134
    obtain ⟨rfl, N134q, K134, f136, f137, f138⟩ := hQ134
    have f139 := f129.keep K134 (ninS ne_b41_b128 nin0)
    have K140 : Keep h0 T134.heap [] := K131.trans K134 (allS (Or.inr sz_b128) all0)
    have z141 : n0 ≤ T134.heap.size := Nat.le_trans z130 K134.1
    have N135 := Fr.app N126 N134q
    obtain ⟨cq142, kq142, q142a, q142b, q142c⟩ := isOf hZ rfl f136
    obtain ⟨_, _, ⟨T142, L142, k142, n142⟩, -, X142, ⟨Lc142, hQ142, l142, y142, z142⟩, st142⟩ := X134.virtualBack hx (y := (⟨"com/example/thyme/thyme/lang/Expression$InLocation", "evaluate", "([J)J"⟩ : MethodName)) (z := (⟨"com/example/thyme/thyme/lang/Expression$InLocation", "evaluate", "([J)J"⟩ : MethodName)) hown (mvT hZ (hw _ (List.mem_of_getElem? (i := 19) rfl))) (mvT hZ (hw _ (List.mem_of_getElem? (i := 20) rfl))) (notFace_of_selects (args := #[]) (mvT hZ (hw _ (List.mem_of_getElem? (i := 22) rfl)))) (mvT hZ (hw _ (List.mem_of_getElem? (i := 22) rfl))) (mvT hZ (hw _ (List.mem_of_getElem? (i := 21) rfl))) (by decide) (backOf (W := 0) (own_rm4 l Z av hw [] b128 b41 ((1 : Int32)) (p1) (k41) ((4 : Int32)) ([(.long v30), (.long v38), (.long v30), (.long v30)]) ((.long (0 : Int64))) (v38) T134.heap n0 z141 f137 f138 f139 (⟨by decide, by decide⟩) (rfl)) hZ (hw _ (List.mem_of_getElem? (i := 23) rfl)) (hw _ (List.mem_of_getElem? (i := 3) rfl)) (by decide) (by decide)) q142a q142c (g := (mkF m 153 #[.val (.int p0), .val (.int p1), .val (.long q2), .second, .val (.int p3), .val (.long q4), .second, .val (.int (1 : Int32)), .val (.long v27), .second, .val (.long v30), .second, .val (.int v32), .val (.long v38), .second, .val (.long v39), .second, .val (.ref b41), .val (.ref b128), .unset, .unset] [(.ref b41), (.ref b128)])) rfl (by rw [hml]; rfl) (Steps.refl _) (argsL := [(.ref b41)]) (rest := []) (lenOf own_pd2 rfl) rfl (by show 2 * 0 + _ ≤ _; exact Nat.le_of_eq rfl) (hb hby at_153) (fun _ _ => ⟨rfl, rfl, (by decide : 2 + 0 ≤ _), (by decide : 6 + 0 ≤ _)⟩)
    dsimp only [Pt.U, Pt.locs, Pt.cells, Pt.slots] at X142 l142 y142 z142 st142 hQ142
    subst l142 y142 z142
    obtain ⟨rfl, N142q, e144⟩ := hQ142
    have N143 := Fr.app N135 N142q
    obtain ⟨v145, hv145⟩ : ∃ z : Int64, z = (own_f4 v38 p1) := ⟨_, rfl⟩
    have pre146 : ∀ t, Steps p.tables e below (T142.setTop (mkF m 163 #[.val (.int p0), .val (.int p1), .val (.long q2), .second, .val (.int p3), .val (.long q4), .second, .val (.int (1 : Int32)), .val (.long v27), .second, .val (.long v30), .second, .val (.int v32), .val (.long v38), .second, .val (.long v39), .second, .val (.ref b41), .val (.ref b128), .val (.long v145), .second] [(.int (lcmpW v145 v39))])) t → Steps p.tables e below (s₁.setTop (entryFrame m #[(.int p0), (.int p1), (.long q2), (.int p3), (.long q4)] maxLocals)) t := fun t kk => pre70 t (by
      show Steps p.tables e below (T64.setTop (mkF m 130 #[.val (.int p0), .val (.int p1), .val (.long q2), .second, .val (.int p3), .val (.long q4), .second, .val (.int (1 : Int32)), .val (.long v27), .second, .val (.long v30), .second, .val (.int v32), .val (.long v38), .second, .val (.long v39), .second, .val (.ref b41), .unset, .unset, .unset] [])) _
      refine XS.aload X64.here hx rfl (hb hby at_130) rfl rfl ?_
      show Steps p.tables e below (T64.setTop (mkF m 132 #[.val (.int p0), .val (.int p1), .val (.long q2), .second, .val (.int p3), .val (.long q4), .second, .val (.int (1 : Int32)), .val (.long v27), .second, .val (.long v30), .second, .val (.int v32), .val (.long v38), .second, .val (.long v39), .second, .val (.ref b41), .unset, .unset, .unset] [(.ref b41)])) _
      refine XS.iload X64.here hx rfl (hb hby at_132) rfl ?_
      show Steps p.tables e below (T64.setTop (mkF m 134 #[.val (.int p0), .val (.int p1), .val (.long q2), .second, .val (.int p3), .val (.long q4), .second, .val (.int (1 : Int32)), .val (.long v27), .second, .val (.long v30), .second, .val (.int v32), .val (.long v38), .second, .val (.long v39), .second, .val (.ref b41), .unset, .unset, .unset] [(.int (1 : Int32)), (.ref b41)])) _
      refine XS.lload X64.here hx rfl (hb hby at_134) rfl ?_
      show Steps p.tables e below (T64.setTop (mkF m 136 #[.val (.int p0), .val (.int p1), .val (.long q2), .second, .val (.int p3), .val (.long q4), .second, .val (.int (1 : Int32)), .val (.long v27), .second, .val (.long v30), .second, .val (.int v32), .val (.long v38), .second, .val (.long v39), .second, .val (.ref b41), .unset, .unset, .unset] [(.long v38), (.int (1 : Int32)), (.ref b41)])) _
      refine st123 _ ?_
      show Steps p.tables e below (T123.setTop (mkF m 137 #[.val (.int p0), .val (.int p1), .val (.long q2), .second, .val (.int p3), .val (.long q4), .second, .val (.int (1 : Int32)), .val (.long v27), .second, .val (.long v30), .second, .val (.int v32), .val (.long v38), .second, .val (.long v39), .second, .val (.ref b41), .unset, .unset, .unset] [])) _
      refine st128 _ ?_
      show Steps p.tables e below (T128.setTop (mkF m 140 #[.val (.int p0), .val (.int p1), .val (.long q2), .second, .val (.int p3), .val (.long q4), .second, .val (.int (1 : Int32)), .val (.long v27), .second, .val (.long v30), .second, .val (.int v32), .val (.long v38), .second, .val (.long v39), .second, .val (.ref b41), .unset, .unset, .unset] [(.ref b128)])) _
      refine XS.dup X128.here hx rfl (hb hby at_140) rfl rfl ?_
      show Steps p.tables e below (T128.setTop (mkF m 141 #[.val (.int p0), .val (.int p1), .val (.long q2), .second, .val (.int p3), .val (.long q4), .second, .val (.int (1 : Int32)), .val (.long v27), .second, .val (.long v30), .second, .val (.int v32), .val (.long v38), .second, .val (.long v39), .second, .val (.ref b41), .unset, .unset, .unset] [(.ref b128), (.ref b128)])) _
      refine XS.iload X128.here hx rfl (hb hby at_141) rfl ?_
      show Steps p.tables e below (T128.setTop (mkF m 143 #[.val (.int p0), .val (.int p1), .val (.long q2), .second, .val (.int p3), .val (.long q4), .second, .val (.int (1 : Int32)), .val (.long v27), .second, .val (.long v30), .second, .val (.int v32), .val (.long v38), .second, .val (.long v39), .second, .val (.ref b41), .unset, .unset, .unset] [(.int (1 : Int32)), (.ref b128), (.ref b128)])) _
      refine XS.iloadN X128.here hx rfl (hb hby at_143) rfl ?_
      show Steps p.tables e below (T128.setTop (mkF m 144 #[.val (.int p0), .val (.int p1), .val (.long q2), .second, .val (.int p3), .val (.long q4), .second, .val (.int (1 : Int32)), .val (.long v27), .second, .val (.long v30), .second, .val (.int v32), .val (.long v38), .second, .val (.long v39), .second, .val (.ref b41), .unset, .unset, .unset] [(.int p1), (.int (1 : Int32)), (.ref b128), (.ref b128)])) _
      refine st134.trans ?_
      show Steps p.tables e below (T134.setTop (mkF m 147 #[.val (.int p0), .val (.int p1), .val (.long q2), .second, .val (.int p3), .val (.long q4), .second, .val (.int (1 : Int32)), .val (.long v27), .second, .val (.long v30), .second, .val (.int v32), .val (.long v38), .second, .val (.long v39), .second, .val (.ref b41), .unset, .unset, .unset] [(.ref b128)])) _
      refine XS.astore X134.here hx rfl (hb hby at_147) rfl rfl (l' := #[.val (.int p0), .val (.int p1), .val (.long q2), .second, .val (.int p3), .val (.long q4), .second, .val (.int (1 : Int32)), .val (.long v27), .second, .val (.long v30), .second, .val (.int v32), .val (.long v38), .second, .val (.long v39), .second, .val (.ref b41), .val (.ref b128), .unset, .unset]) rfl ?_
      show Steps p.tables e below (T134.setTop (mkF m 149 #[.val (.int p0), .val (.int p1), .val (.long q2), .second, .val (.int p3), .val (.long q4), .second, .val (.int (1 : Int32)), .val (.long v27), .second, .val (.long v30), .second, .val (.int v32), .val (.long v38), .second, .val (.long v39), .second, .val (.ref b41), .val (.ref b128), .unset, .unset] [])) _
      refine XS.aload X134.here hx rfl (hb hby at_149) rfl rfl ?_
      show Steps p.tables e below (T134.setTop (mkF m 151 #[.val (.int p0), .val (.int p1), .val (.long q2), .second, .val (.int p3), .val (.long q4), .second, .val (.int (1 : Int32)), .val (.long v27), .second, .val (.long v30), .second, .val (.int v32), .val (.long v38), .second, .val (.long v39), .second, .val (.ref b41), .val (.ref b128), .unset, .unset] [(.ref b128)])) _
      refine XS.aload X134.here hx rfl (hb hby at_151) rfl rfl ?_
      show Steps p.tables e below (T134.setTop (mkF m 153 #[.val (.int p0), .val (.int p1), .val (.long q2), .second, .val (.int p3), .val (.long q4), .second, .val (.int (1 : Int32)), .val (.long v27), .second, .val (.long v30), .second, .val (.int v32), .val (.long v38), .second, .val (.long v39), .second, .val (.ref b41), .val (.ref b128), .unset, .unset] [(.ref b41), (.ref b128)])) _
      refine st142.trans ?_
      show Steps p.tables e below (T142.setTop (mkF m 156 #[.val (.int p0), .val (.int p1), .val (.long q2), .second, .val (.int p3), .val (.long q4), .second, .val (.int (1 : Int32)), .val (.long v27), .second, .val (.long v30), .second, .val (.int v32), .val (.long v38), .second, .val (.long v39), .second, .val (.ref b41), .val (.ref b128), .unset, .unset] [(.long (own_f4 v38 p1))])) _
      refine castTop (congrArg (fun z : Int64 => mkF m 156 #[.val (.int p0), .val (.int p1), .val (.long q2), .second, .val (.int p3), .val (.long q4), .second, .val (.int (1 : Int32)), .val (.long v27), .second, .val (.long v30), .second, .val (.int v32), .val (.long v38), .second, .val (.long v39), .second, .val (.ref b41), .val (.ref b128), .unset, .unset] [(.long z)]) hv145.symm) ?_
      show Steps p.tables e below (T142.setTop (mkF m 156 #[.val (.int p0), .val (.int p1), .val (.long q2), .second, .val (.int p3), .val (.long q4), .second, .val (.int (1 : Int32)), .val (.long v27), .second, .val (.long v30), .second, .val (.int v32), .val (.long v38), .second, .val (.long v39), .second, .val (.ref b41), .val (.ref b128), .unset, .unset] [(.long v145)])) _
      refine XS.lstore X142.here hx rfl (hb hby at_156) rfl (l' := #[.val (.int p0), .val (.int p1), .val (.long q2), .second, .val (.int p3), .val (.long q4), .second, .val (.int (1 : Int32)), .val (.long v27), .second, .val (.long v30), .second, .val (.int v32), .val (.long v38), .second, .val (.long v39), .second, .val (.ref b41), .val (.ref b128), .val (.long v145), .second]) rfl ?_
      show Steps p.tables e below (T142.setTop (mkF m 158 #[.val (.int p0), .val (.int p1), .val (.long q2), .second, .val (.int p3), .val (.long q4), .second, .val (.int (1 : Int32)), .val (.long v27), .second, .val (.long v30), .second, .val (.int v32), .val (.long v38), .second, .val (.long v39), .second, .val (.ref b41), .val (.ref b128), .val (.long v145), .second] [])) _
      refine XS.lload X142.here hx rfl (hb hby at_158) rfl ?_
      show Steps p.tables e below (T142.setTop (mkF m 160 #[.val (.int p0), .val (.int p1), .val (.long q2), .second, .val (.int p3), .val (.long q4), .second, .val (.int (1 : Int32)), .val (.long v27), .second, .val (.long v30), .second, .val (.int v32), .val (.long v38), .second, .val (.long v39), .second, .val (.ref b41), .val (.ref b128), .val (.long v145), .second] [(.long v145)])) _
      refine XS.lload X142.here hx rfl (hb hby at_160) rfl ?_
      show Steps p.tables e below (T142.setTop (mkF m 162 #[.val (.int p0), .val (.int p1), .val (.long q2), .second, .val (.int p3), .val (.long q4), .second, .val (.int (1 : Int32)), .val (.long v27), .second, .val (.long v30), .second, .val (.int v32), .val (.long v38), .second, .val (.long v39), .second, .val (.ref b41), .val (.ref b128), .val (.long v145), .second] [(.long v39), (.long v145)])) _
      refine XS.lcmp X142.here hx rfl (hb hby at_162) rfl ?_
      show Steps p.tables e below (T142.setTop (mkF m 163 #[.val (.int p0), .val (.int p1), .val (.long q2), .second, .val (.int p3), .val (.long q4), .second, .val (.int (1 : Int32)), .val (.long v27), .second, .val (.long v30), .second, .val (.int v32), .val (.long v38), .second, .val (.long v39), .second, .val (.ref b41), .val (.ref b128), .val (.long v145), .second] [(.int (lcmpW v145 v39))])) _
      exact kk)
    by_cases hc147 : v145 = v39
    · obtain ⟨cl148, Ar148, q148, S148, M148, H148, G148⟩ := id f139
      have hin148 : ¬ ((0 : Int32) < 0 ∨ cl148.slots.size ≤ ((0 : Int32)).toNatClampNeg) := inb_of S148 ⟨by decide, by decide⟩
      have hat148 : cl148.slots[((0 : Int32)).toNatClampNeg]? = some (.long v30) := H148.at hin148 rfl
      obtain ⟨_, _, ⟨T149, L149, k149, n149⟩, -, X149, ⟨Lc149, hQ149, l149, y149, z149⟩, st149⟩ := Jvm.LawKit.callS X142 hx (y := (⟨"com/example/thyme/thyme/lang/InLocationEvaluatePinLaw", "at", "(IIJJ)J"⟩ : MethodName)) hown (mvT hZ (hw _ (List.mem_of_getElem? (i := 24) rfl))) (mvT hZ (hw _ (List.mem_of_getElem? (i := 25) rfl))) (mvT hZ (hw _ (List.mem_of_getElem? (i := 26) rfl))) (mvT hZ (hw _ (List.mem_of_getElem? (i := 27) rfl))) (by decide) (backOf (W := 2) (own_rm5 l Z av hw [] (0 : Int32) (1 : Int32) v38 v30 T134.heap n0 z141 ) hZ (hw _ (List.mem_of_getElem? (i := 27) rfl)) (hw _ (List.mem_of_getElem? (i := 26) rfl)) (by decide) (by decide)) (g := (mkF m 177 #[.val (.int p0), .val (.int p1), .val (.long q2), .second, .val (.int p3), .val (.long q4), .second, .val (.int (1 : Int32)), .val (.long v27), .second, .val (.long v30), .second, .val (.int v32), .val (.long v38), .second, .val (.long v39), .second, .val (.ref b41), .val (.ref b128), .val (.long v145), .second] [(.long v30), (.long v38), (.int (1 : Int32)), (.int (0 : Int32)), (.long v30)])) rfl (by rw [hml]; rfl) (argsL := [(.int (0 : Int32)), (.int (1 : Int32)), (.long v38), (.long v30)]) (rest := [(.long v30)]) (lenOf own_pd3 rfl) rfl (by show 2 * 0 + _ ≤ _; exact Nat.le_of_eq rfl) (hb hby at_177) (fun _ _ => ⟨rfl, e144, (by decide : 2 + 0 ≤ _), (by decide : 6 + 0 ≤ _)⟩)
      dsimp only [Pt.U, Pt.locs, Pt.cells, Pt.slots] at X149 l149 y149 z149 st149 hQ149
      subst l149 y149 z149
      obtain ⟨rfl, N149q, e151⟩ := hQ149
      have N150 := Fr.app N143 N149q
      have pre152 : ∀ t, Steps p.tables e below (T149.setTop (mkF m 181 #[.val (.int p0), .val (.int p1), .val (.long q2), .second, .val (.int p3), .val (.long q4), .second, .val (.int (1 : Int32)), .val (.long v27), .second, .val (.long v30), .second, .val (.int v32), .val (.long v38), .second, .val (.long v39), .second, .val (.ref b41), .val (.ref b128), .val (.long v145), .second] [(.int (lcmpW v30 (own_f5 (0 : Int32) (1 : Int32) v38 v30)))])) t → Steps p.tables e below (s₁.setTop (entryFrame m #[(.int p0), (.int p1), (.long q2), (.int p3), (.long q4)] maxLocals)) t := fun t kk => pre146 t (by
        show Steps p.tables e below (T142.setTop (mkF m 163 #[.val (.int p0), .val (.int p1), .val (.long q2), .second, .val (.int p3), .val (.long q4), .second, .val (.int (1 : Int32)), .val (.long v27), .second, .val (.long v30), .second, .val (.int v32), .val (.long v38), .second, .val (.long v39), .second, .val (.ref b41), .val (.ref b128), .val (.long v145), .second] [(.int (lcmpW v145 v39))])) _
        refine XS.ifNo X142.here hx rfl (hb hby at_163) rfl ((if0 _ _).trans (teq ((lw_eq v145 v39).mpr hc147)).2) ?_
        show Steps p.tables e below (T142.setTop (mkF m 166 #[.val (.int p0), .val (.int p1), .val (.long q2), .second, .val (.int p3), .val (.long q4), .second, .val (.int (1 : Int32)), .val (.long v27), .second, .val (.long v30), .second, .val (.int v32), .val (.long v38), .second, .val (.long v39), .second, .val (.ref b41), .val (.ref b128), .val (.long v145), .second] [])) _
        refine XS.aload X142.here hx rfl (hb hby at_166) rfl rfl ?_
        show Steps p.tables e below (T142.setTop (mkF m 168 #[.val (.int p0), .val (.int p1), .val (.long q2), .second, .val (.int p3), .val (.long q4), .second, .val (.int (1 : Int32)), .val (.long v27), .second, .val (.long v30), .second, .val (.int v32), .val (.long v38), .second, .val (.long v39), .second, .val (.ref b41), .val (.ref b128), .val (.long v145), .second] [(.ref b41)])) _
        refine XS.iconst X142.here hx rfl (hb hby at_168) ?_
        show Steps p.tables e below (T142.setTop (mkF m 169 #[.val (.int p0), .val (.int p1), .val (.long q2), .second, .val (.int p3), .val (.long q4), .second, .val (.int (1 : Int32)), .val (.long v27), .second, .val (.long v30), .second, .val (.int v32), .val (.long v38), .second, .val (.long v39), .second, .val (.ref b41), .val (.ref b128), .val (.long v145), .second] [(.int (0 : Int32)), (.ref b41)])) _
        refine X142.laload hx (j := (0 : Int32)) (v := (.long v30)) (by rw [e144]; exact Ar148.1) (State.isArrayOf_alike hZ.alike Ar148.2.1) Ar148.2.2 hin148 hat148 (g := (mkF m 169 #[.val (.int p0), .val (.int p1), .val (.long q2), .second, .val (.int p3), .val (.long q4), .second, .val (.int (1 : Int32)), .val (.long v27), .second, .val (.long v30), .second, .val (.int v32), .val (.long v38), .second, .val (.long v39), .second, .val (.ref b41), .val (.ref b128), .val (.long v145), .second] [(.int (0 : Int32)), (.ref b41)])) rfl rfl (hb hby at_169) _ ?_
        show Steps p.tables e below (T142.setTop (mkF m 170 #[.val (.int p0), .val (.int p1), .val (.long q2), .second, .val (.int p3), .val (.long q4), .second, .val (.int (1 : Int32)), .val (.long v27), .second, .val (.long v30), .second, .val (.int v32), .val (.long v38), .second, .val (.long v39), .second, .val (.ref b41), .val (.ref b128), .val (.long v145), .second] [(.long v30)])) _
        refine XS.iconst X142.here hx rfl (hb hby at_170) ?_
        show Steps p.tables e below (T142.setTop (mkF m 171 #[.val (.int p0), .val (.int p1), .val (.long q2), .second, .val (.int p3), .val (.long q4), .second, .val (.int (1 : Int32)), .val (.long v27), .second, .val (.long v30), .second, .val (.int v32), .val (.long v38), .second, .val (.long v39), .second, .val (.ref b41), .val (.ref b128), .val (.long v145), .second] [(.int (0 : Int32)), (.long v30)])) _
        refine XS.iload X142.here hx rfl (hb hby at_171) rfl ?_
        show Steps p.tables e below (T142.setTop (mkF m 173 #[.val (.int p0), .val (.int p1), .val (.long q2), .second, .val (.int p3), .val (.long q4), .second, .val (.int (1 : Int32)), .val (.long v27), .second, .val (.long v30), .second, .val (.int v32), .val (.long v38), .second, .val (.long v39), .second, .val (.ref b41), .val (.ref b128), .val (.long v145), .second] [(.int (1 : Int32)), (.int (0 : Int32)), (.long v30)])) _
        refine XS.lload X142.here hx rfl (hb hby at_173) rfl ?_
        show Steps p.tables e below (T142.setTop (mkF m 175 #[.val (.int p0), .val (.int p1), .val (.long q2), .second, .val (.int p3), .val (.long q4), .second, .val (.int (1 : Int32)), .val (.long v27), .second, .val (.long v30), .second, .val (.int v32), .val (.long v38), .second, .val (.long v39), .second, .val (.ref b41), .val (.ref b128), .val (.long v145), .second] [(.long v38), (.int (1 : Int32)), (.int (0 : Int32)), (.long v30)])) _
        refine XS.lload X142.here hx rfl (hb hby at_175) rfl ?_
        show Steps p.tables e below (T142.setTop (mkF m 177 #[.val (.int p0), .val (.int p1), .val (.long q2), .second, .val (.int p3), .val (.long q4), .second, .val (.int (1 : Int32)), .val (.long v27), .second, .val (.long v30), .second, .val (.int v32), .val (.long v38), .second, .val (.long v39), .second, .val (.ref b41), .val (.ref b128), .val (.long v145), .second] [(.long v30), (.long v38), (.int (1 : Int32)), (.int (0 : Int32)), (.long v30)])) _
        refine st149 _ ?_
        show Steps p.tables e below (T149.setTop (mkF m 180 #[.val (.int p0), .val (.int p1), .val (.long q2), .second, .val (.int p3), .val (.long q4), .second, .val (.int (1 : Int32)), .val (.long v27), .second, .val (.long v30), .second, .val (.int v32), .val (.long v38), .second, .val (.long v39), .second, .val (.ref b41), .val (.ref b128), .val (.long v145), .second] [(.long (own_f5 (0 : Int32) (1 : Int32) v38 v30)), (.long v30)])) _
        refine XS.lcmp X149.here hx rfl (hb hby at_180) rfl ?_
        show Steps p.tables e below (T149.setTop (mkF m 181 #[.val (.int p0), .val (.int p1), .val (.long q2), .second, .val (.int p3), .val (.long q4), .second, .val (.int (1 : Int32)), .val (.long v27), .second, .val (.long v30), .second, .val (.int v32), .val (.long v38), .second, .val (.long v39), .second, .val (.ref b41), .val (.ref b128), .val (.long v145), .second] [(.int (lcmpW v30 (own_f5 (0 : Int32) (1 : Int32) v38 v30)))])) _
        exact kk)
      by_cases hc153 : v30 = (own_f5 (0 : Int32) (1 : Int32) v38 v30)
      · obtain ⟨cl154, Ar154, q154, S154, M154, H154, G154⟩ := id f139
        have hin154 : ¬ ((1 : Int32) < 0 ∨ cl154.slots.size ≤ ((1 : Int32)).toNatClampNeg) := inb_of S154 ⟨by decide, by decide⟩
        have hat154 : cl154.slots[((1 : Int32)).toNatClampNeg]? = some (.long v38) := H154.at hin154 rfl
        obtain ⟨_, _, ⟨T155, L155, k155, n155⟩, -, X155, ⟨Lc155, hQ155, l155, y155, z155⟩, st155⟩ := Jvm.LawKit.callS X149 hx (y := (⟨"com/example/thyme/thyme/lang/InLocationEvaluatePinLaw", "at", "(IIJJ)J"⟩ : MethodName)) hown (mvT hZ (hw _ (List.mem_of_getElem? (i := 24) rfl))) (mvT hZ (hw _ (List.mem_of_getElem? (i := 25) rfl))) (mvT hZ (hw _ (List.mem_of_getElem? (i := 26) rfl))) (mvT hZ (hw _ (List.mem_of_getElem? (i := 27) rfl))) (by decide) (backOf (W := 2) (own_rm5 l Z av hw [] (1 : Int32) (1 : Int32) v38 v30 T134.heap n0 z141 ) hZ (hw _ (List.mem_of_getElem? (i := 27) rfl)) (hw _ (List.mem_of_getElem? (i := 26) rfl)) (by decide) (by decide)) (g := (mkF m 195 #[.val (.int p0), .val (.int p1), .val (.long q2), .second, .val (.int p3), .val (.long q4), .second, .val (.int (1 : Int32)), .val (.long v27), .second, .val (.long v30), .second, .val (.int v32), .val (.long v38), .second, .val (.long v39), .second, .val (.ref b41), .val (.ref b128), .val (.long v145), .second] [(.long v30), (.long v38), (.int (1 : Int32)), (.int (1 : Int32)), (.long v38)])) rfl (by rw [hml]; rfl) (argsL := [(.int (1 : Int32)), (.int (1 : Int32)), (.long v38), (.long v30)]) (rest := [(.long v38)]) (lenOf own_pd3 rfl) rfl (by show 2 * 0 + _ ≤ _; exact Nat.le_of_eq rfl) (hb hby at_195) (fun _ _ => ⟨rfl, e151, (by decide : 2 + 0 ≤ _), (by decide : 6 + 0 ≤ _)⟩)
        dsimp only [Pt.U, Pt.locs, Pt.cells, Pt.slots] at X155 l155 y155 z155 st155 hQ155
        subst l155 y155 z155
        obtain ⟨rfl, N155q, e157⟩ := hQ155
        have N156 := Fr.app N150 N155q
        have pre158 : ∀ t, Steps p.tables e below (T155.setTop (mkF m 199 #[.val (.int p0), .val (.int p1), .val (.long q2), .second, .val (.int p3), .val (.long q4), .second, .val (.int (1 : Int32)), .val (.long v27), .second, .val (.long v30), .second, .val (.int v32), .val (.long v38), .second, .val (.long v39), .second, .val (.ref b41), .val (.ref b128), .val (.long v145), .second] [(.int (lcmpW v38 (own_f5 (1 : Int32) (1 : Int32) v38 v30)))])) t → Steps p.tables e below (s₁.setTop (entryFrame m #[(.int p0), (.int p1), (.long q2), (.int p3), (.long q4)] maxLocals)) t := fun t kk => pre152 t (by
          show Steps p.tables e below (T149.setTop (mkF m 181 #[.val (.int p0), .val (.int p1), .val (.long q2), .second, .val (.int p3), .val (.long q4), .second, .val (.int (1 : Int32)), .val (.long v27), .second, .val (.long v30), .second, .val (.int v32), .val (.long v38), .second, .val (.long v39), .second, .val (.ref b41), .val (.ref b128), .val (.long v145), .second] [(.int (lcmpW v30 (own_f5 (0 : Int32) (1 : Int32) v38 v30)))])) _
          refine XS.ifNo X149.here hx rfl (hb hby at_181) rfl ((if0 _ _).trans (teq ((lw_eq v30 (own_f5 (0 : Int32) (1 : Int32) v38 v30)).mpr hc153)).2) ?_
          show Steps p.tables e below (T149.setTop (mkF m 184 #[.val (.int p0), .val (.int p1), .val (.long q2), .second, .val (.int p3), .val (.long q4), .second, .val (.int (1 : Int32)), .val (.long v27), .second, .val (.long v30), .second, .val (.int v32), .val (.long v38), .second, .val (.long v39), .second, .val (.ref b41), .val (.ref b128), .val (.long v145), .second] [])) _
          refine XS.aload X149.here hx rfl (hb hby at_184) rfl rfl ?_
          show Steps p.tables e below (T149.setTop (mkF m 186 #[.val (.int p0), .val (.int p1), .val (.long q2), .second, .val (.int p3), .val (.long q4), .second, .val (.int (1 : Int32)), .val (.long v27), .second, .val (.long v30), .second, .val (.int v32), .val (.long v38), .second, .val (.long v39), .second, .val (.ref b41), .val (.ref b128), .val (.long v145), .second] [(.ref b41)])) _
          refine XS.iconst X149.here hx rfl (hb hby at_186) ?_
          show Steps p.tables e below (T149.setTop (mkF m 187 #[.val (.int p0), .val (.int p1), .val (.long q2), .second, .val (.int p3), .val (.long q4), .second, .val (.int (1 : Int32)), .val (.long v27), .second, .val (.long v30), .second, .val (.int v32), .val (.long v38), .second, .val (.long v39), .second, .val (.ref b41), .val (.ref b128), .val (.long v145), .second] [(.int (1 : Int32)), (.ref b41)])) _
          refine X149.laload hx (j := (1 : Int32)) (v := (.long v38)) (by rw [e151]; exact Ar154.1) (State.isArrayOf_alike hZ.alike Ar154.2.1) Ar154.2.2 hin154 hat154 (g := (mkF m 187 #[.val (.int p0), .val (.int p1), .val (.long q2), .second, .val (.int p3), .val (.long q4), .second, .val (.int (1 : Int32)), .val (.long v27), .second, .val (.long v30), .second, .val (.int v32), .val (.long v38), .second, .val (.long v39), .second, .val (.ref b41), .val (.ref b128), .val (.long v145), .second] [(.int (1 : Int32)), (.ref b41)])) rfl rfl (hb hby at_187) _ ?_
          show Steps p.tables e below (T149.setTop (mkF m 188 #[.val (.int p0), .val (.int p1), .val (.long q2), .second, .val (.int p3), .val (.long q4), .second, .val (.int (1 : Int32)), .val (.long v27), .second, .val (.long v30), .second, .val (.int v32), .val (.long v38), .second, .val (.long v39), .second, .val (.ref b41), .val (.ref b128), .val (.long v145), .second] [(.long v38)])) _
          refine XS.iconst X149.here hx rfl (hb hby at_188) ?_
          show Steps p.tables e below (T149.setTop (mkF m 189 #[.val (.int p0), .val (.int p1), .val (.long q2), .second, .val (.int p3), .val (.long q4), .second, .val (.int (1 : Int32)), .val (.long v27), .second, .val (.long v30), .second, .val (.int v32), .val (.long v38), .second, .val (.long v39), .second, .val (.ref b41), .val (.ref b128), .val (.long v145), .second] [(.int (1 : Int32)), (.long v38)])) _
          refine XS.iload X149.here hx rfl (hb hby at_189) rfl ?_
          show Steps p.tables e below (T149.setTop (mkF m 191 #[.val (.int p0), .val (.int p1), .val (.long q2), .second, .val (.int p3), .val (.long q4), .second, .val (.int (1 : Int32)), .val (.long v27), .second, .val (.long v30), .second, .val (.int v32), .val (.long v38), .second, .val (.long v39), .second, .val (.ref b41), .val (.ref b128), .val (.long v145), .second] [(.int (1 : Int32)), (.int (1 : Int32)), (.long v38)])) _
          refine XS.lload X149.here hx rfl (hb hby at_191) rfl ?_
          show Steps p.tables e below (T149.setTop (mkF m 193 #[.val (.int p0), .val (.int p1), .val (.long q2), .second, .val (.int p3), .val (.long q4), .second, .val (.int (1 : Int32)), .val (.long v27), .second, .val (.long v30), .second, .val (.int v32), .val (.long v38), .second, .val (.long v39), .second, .val (.ref b41), .val (.ref b128), .val (.long v145), .second] [(.long v38), (.int (1 : Int32)), (.int (1 : Int32)), (.long v38)])) _
          refine XS.lload X149.here hx rfl (hb hby at_193) rfl ?_
          show Steps p.tables e below (T149.setTop (mkF m 195 #[.val (.int p0), .val (.int p1), .val (.long q2), .second, .val (.int p3), .val (.long q4), .second, .val (.int (1 : Int32)), .val (.long v27), .second, .val (.long v30), .second, .val (.int v32), .val (.long v38), .second, .val (.long v39), .second, .val (.ref b41), .val (.ref b128), .val (.long v145), .second] [(.long v30), (.long v38), (.int (1 : Int32)), (.int (1 : Int32)), (.long v38)])) _
          refine st155 _ ?_
          show Steps p.tables e below (T155.setTop (mkF m 198 #[.val (.int p0), .val (.int p1), .val (.long q2), .second, .val (.int p3), .val (.long q4), .second, .val (.int (1 : Int32)), .val (.long v27), .second, .val (.long v30), .second, .val (.int v32), .val (.long v38), .second, .val (.long v39), .second, .val (.ref b41), .val (.ref b128), .val (.long v145), .second] [(.long (own_f5 (1 : Int32) (1 : Int32) v38 v30)), (.long v38)])) _
          refine XS.lcmp X155.here hx rfl (hb hby at_198) rfl ?_
          show Steps p.tables e below (T155.setTop (mkF m 199 #[.val (.int p0), .val (.int p1), .val (.long q2), .second, .val (.int p3), .val (.long q4), .second, .val (.int (1 : Int32)), .val (.long v27), .second, .val (.long v30), .second, .val (.int v32), .val (.long v38), .second, .val (.long v39), .second, .val (.ref b41), .val (.ref b128), .val (.long v145), .second] [(.int (lcmpW v38 (own_f5 (1 : Int32) (1 : Int32) v38 v30)))])) _
          exact kk)
        by_cases hc159 : v38 = (own_f5 (1 : Int32) (1 : Int32) v38 v30)
        · obtain ⟨cl160, Ar160, q160, S160, M160, H160, G160⟩ := id f139
          have hin160 : ¬ ((2 : Int32) < 0 ∨ cl160.slots.size ≤ ((2 : Int32)).toNatClampNeg) := inb_of S160 ⟨by decide, by decide⟩
          have hat160 : cl160.slots[((2 : Int32)).toNatClampNeg]? = some (.long v30) := H160.at hin160 rfl
          obtain ⟨_, _, ⟨T161, L161, k161, n161⟩, -, X161, ⟨Lc161, hQ161, l161, y161, z161⟩, st161⟩ := Jvm.LawKit.callS X155 hx (y := (⟨"com/example/thyme/thyme/lang/InLocationEvaluatePinLaw", "at", "(IIJJ)J"⟩ : MethodName)) hown (mvT hZ (hw _ (List.mem_of_getElem? (i := 24) rfl))) (mvT hZ (hw _ (List.mem_of_getElem? (i := 25) rfl))) (mvT hZ (hw _ (List.mem_of_getElem? (i := 26) rfl))) (mvT hZ (hw _ (List.mem_of_getElem? (i := 27) rfl))) (by decide) (backOf (W := 2) (own_rm5 l Z av hw [] (2 : Int32) (1 : Int32) v38 v30 T134.heap n0 z141 ) hZ (hw _ (List.mem_of_getElem? (i := 27) rfl)) (hw _ (List.mem_of_getElem? (i := 26) rfl)) (by decide) (by decide)) (g := (mkF m 213 #[.val (.int p0), .val (.int p1), .val (.long q2), .second, .val (.int p3), .val (.long q4), .second, .val (.int (1 : Int32)), .val (.long v27), .second, .val (.long v30), .second, .val (.int v32), .val (.long v38), .second, .val (.long v39), .second, .val (.ref b41), .val (.ref b128), .val (.long v145), .second] [(.long v30), (.long v38), (.int (1 : Int32)), (.int (2 : Int32)), (.long v30)])) rfl (by rw [hml]; rfl) (argsL := [(.int (2 : Int32)), (.int (1 : Int32)), (.long v38), (.long v30)]) (rest := [(.long v30)]) (lenOf own_pd3 rfl) rfl (by show 2 * 0 + _ ≤ _; exact Nat.le_of_eq rfl) (hb hby at_213) (fun _ _ => ⟨rfl, e157, (by decide : 2 + 0 ≤ _), (by decide : 6 + 0 ≤ _)⟩)
          dsimp only [Pt.U, Pt.locs, Pt.cells, Pt.slots] at X161 l161 y161 z161 st161 hQ161
          subst l161 y161 z161
          obtain ⟨rfl, N161q, e163⟩ := hQ161
          have N162 := Fr.app N156 N161q
          have pre164 : ∀ t, Steps p.tables e below (T161.setTop (mkF m 217 #[.val (.int p0), .val (.int p1), .val (.long q2), .second, .val (.int p3), .val (.long q4), .second, .val (.int (1 : Int32)), .val (.long v27), .second, .val (.long v30), .second, .val (.int v32), .val (.long v38), .second, .val (.long v39), .second, .val (.ref b41), .val (.ref b128), .val (.long v145), .second] [(.int (lcmpW v30 (own_f5 (2 : Int32) (1 : Int32) v38 v30)))])) t → Steps p.tables e below (s₁.setTop (entryFrame m #[(.int p0), (.int p1), (.long q2), (.int p3), (.long q4)] maxLocals)) t := fun t kk => pre158 t (by
            show Steps p.tables e below (T155.setTop (mkF m 199 #[.val (.int p0), .val (.int p1), .val (.long q2), .second, .val (.int p3), .val (.long q4), .second, .val (.int (1 : Int32)), .val (.long v27), .second, .val (.long v30), .second, .val (.int v32), .val (.long v38), .second, .val (.long v39), .second, .val (.ref b41), .val (.ref b128), .val (.long v145), .second] [(.int (lcmpW v38 (own_f5 (1 : Int32) (1 : Int32) v38 v30)))])) _
            refine XS.ifNo X155.here hx rfl (hb hby at_199) rfl ((if0 _ _).trans (teq ((lw_eq v38 (own_f5 (1 : Int32) (1 : Int32) v38 v30)).mpr hc159)).2) ?_
            show Steps p.tables e below (T155.setTop (mkF m 202 #[.val (.int p0), .val (.int p1), .val (.long q2), .second, .val (.int p3), .val (.long q4), .second, .val (.int (1 : Int32)), .val (.long v27), .second, .val (.long v30), .second, .val (.int v32), .val (.long v38), .second, .val (.long v39), .second, .val (.ref b41), .val (.ref b128), .val (.long v145), .second] [])) _
            refine XS.aload X155.here hx rfl (hb hby at_202) rfl rfl ?_
            show Steps p.tables e below (T155.setTop (mkF m 204 #[.val (.int p0), .val (.int p1), .val (.long q2), .second, .val (.int p3), .val (.long q4), .second, .val (.int (1 : Int32)), .val (.long v27), .second, .val (.long v30), .second, .val (.int v32), .val (.long v38), .second, .val (.long v39), .second, .val (.ref b41), .val (.ref b128), .val (.long v145), .second] [(.ref b41)])) _
            refine XS.iconst X155.here hx rfl (hb hby at_204) ?_
            show Steps p.tables e below (T155.setTop (mkF m 205 #[.val (.int p0), .val (.int p1), .val (.long q2), .second, .val (.int p3), .val (.long q4), .second, .val (.int (1 : Int32)), .val (.long v27), .second, .val (.long v30), .second, .val (.int v32), .val (.long v38), .second, .val (.long v39), .second, .val (.ref b41), .val (.ref b128), .val (.long v145), .second] [(.int (2 : Int32)), (.ref b41)])) _
            refine X155.laload hx (j := (2 : Int32)) (v := (.long v30)) (by rw [e157]; exact Ar160.1) (State.isArrayOf_alike hZ.alike Ar160.2.1) Ar160.2.2 hin160 hat160 (g := (mkF m 205 #[.val (.int p0), .val (.int p1), .val (.long q2), .second, .val (.int p3), .val (.long q4), .second, .val (.int (1 : Int32)), .val (.long v27), .second, .val (.long v30), .second, .val (.int v32), .val (.long v38), .second, .val (.long v39), .second, .val (.ref b41), .val (.ref b128), .val (.long v145), .second] [(.int (2 : Int32)), (.ref b41)])) rfl rfl (hb hby at_205) _ ?_
            show Steps p.tables e below (T155.setTop (mkF m 206 #[.val (.int p0), .val (.int p1), .val (.long q2), .second, .val (.int p3), .val (.long q4), .second, .val (.int (1 : Int32)), .val (.long v27), .second, .val (.long v30), .second, .val (.int v32), .val (.long v38), .second, .val (.long v39), .second, .val (.ref b41), .val (.ref b128), .val (.long v145), .second] [(.long v30)])) _
            refine XS.iconst X155.here hx rfl (hb hby at_206) ?_
            show Steps p.tables e below (T155.setTop (mkF m 207 #[.val (.int p0), .val (.int p1), .val (.long q2), .second, .val (.int p3), .val (.long q4), .second, .val (.int (1 : Int32)), .val (.long v27), .second, .val (.long v30), .second, .val (.int v32), .val (.long v38), .second, .val (.long v39), .second, .val (.ref b41), .val (.ref b128), .val (.long v145), .second] [(.int (2 : Int32)), (.long v30)])) _
            refine XS.iload X155.here hx rfl (hb hby at_207) rfl ?_
            show Steps p.tables e below (T155.setTop (mkF m 209 #[.val (.int p0), .val (.int p1), .val (.long q2), .second, .val (.int p3), .val (.long q4), .second, .val (.int (1 : Int32)), .val (.long v27), .second, .val (.long v30), .second, .val (.int v32), .val (.long v38), .second, .val (.long v39), .second, .val (.ref b41), .val (.ref b128), .val (.long v145), .second] [(.int (1 : Int32)), (.int (2 : Int32)), (.long v30)])) _
            refine XS.lload X155.here hx rfl (hb hby at_209) rfl ?_
            show Steps p.tables e below (T155.setTop (mkF m 211 #[.val (.int p0), .val (.int p1), .val (.long q2), .second, .val (.int p3), .val (.long q4), .second, .val (.int (1 : Int32)), .val (.long v27), .second, .val (.long v30), .second, .val (.int v32), .val (.long v38), .second, .val (.long v39), .second, .val (.ref b41), .val (.ref b128), .val (.long v145), .second] [(.long v38), (.int (1 : Int32)), (.int (2 : Int32)), (.long v30)])) _
            refine XS.lload X155.here hx rfl (hb hby at_211) rfl ?_
            show Steps p.tables e below (T155.setTop (mkF m 213 #[.val (.int p0), .val (.int p1), .val (.long q2), .second, .val (.int p3), .val (.long q4), .second, .val (.int (1 : Int32)), .val (.long v27), .second, .val (.long v30), .second, .val (.int v32), .val (.long v38), .second, .val (.long v39), .second, .val (.ref b41), .val (.ref b128), .val (.long v145), .second] [(.long v30), (.long v38), (.int (1 : Int32)), (.int (2 : Int32)), (.long v30)])) _
            refine st161 _ ?_
            show Steps p.tables e below (T161.setTop (mkF m 216 #[.val (.int p0), .val (.int p1), .val (.long q2), .second, .val (.int p3), .val (.long q4), .second, .val (.int (1 : Int32)), .val (.long v27), .second, .val (.long v30), .second, .val (.int v32), .val (.long v38), .second, .val (.long v39), .second, .val (.ref b41), .val (.ref b128), .val (.long v145), .second] [(.long (own_f5 (2 : Int32) (1 : Int32) v38 v30)), (.long v30)])) _
            refine XS.lcmp X161.here hx rfl (hb hby at_216) rfl ?_
            show Steps p.tables e below (T161.setTop (mkF m 217 #[.val (.int p0), .val (.int p1), .val (.long q2), .second, .val (.int p3), .val (.long q4), .second, .val (.int (1 : Int32)), .val (.long v27), .second, .val (.long v30), .second, .val (.int v32), .val (.long v38), .second, .val (.long v39), .second, .val (.ref b41), .val (.ref b128), .val (.long v145), .second] [(.int (lcmpW v30 (own_f5 (2 : Int32) (1 : Int32) v38 v30)))])) _
            exact kk)
          by_cases hc165 : v30 = (own_f5 (2 : Int32) (1 : Int32) v38 v30)
          · obtain ⟨cl166, Ar166, q166, S166, M166, H166, G166⟩ := id f139
            have hin166 : ¬ ((3 : Int32) < 0 ∨ cl166.slots.size ≤ ((3 : Int32)).toNatClampNeg) := inb_of S166 ⟨by decide, by decide⟩
            have hat166 : cl166.slots[((3 : Int32)).toNatClampNeg]? = some (.long v30) := H166.at hin166 rfl
            obtain ⟨_, _, ⟨T167, L167, k167, n167⟩, -, X167, ⟨Lc167, hQ167, l167, y167, z167⟩, st167⟩ := Jvm.LawKit.callS X161 hx (y := (⟨"com/example/thyme/thyme/lang/InLocationEvaluatePinLaw", "at", "(IIJJ)J"⟩ : MethodName)) hown (mvT hZ (hw _ (List.mem_of_getElem? (i := 24) rfl))) (mvT hZ (hw _ (List.mem_of_getElem? (i := 25) rfl))) (mvT hZ (hw _ (List.mem_of_getElem? (i := 26) rfl))) (mvT hZ (hw _ (List.mem_of_getElem? (i := 27) rfl))) (by decide) (backOf (W := 2) (own_rm5 l Z av hw [] (3 : Int32) (1 : Int32) v38 v30 T134.heap n0 z141 ) hZ (hw _ (List.mem_of_getElem? (i := 27) rfl)) (hw _ (List.mem_of_getElem? (i := 26) rfl)) (by decide) (by decide)) (g := (mkF m 231 #[.val (.int p0), .val (.int p1), .val (.long q2), .second, .val (.int p3), .val (.long q4), .second, .val (.int (1 : Int32)), .val (.long v27), .second, .val (.long v30), .second, .val (.int v32), .val (.long v38), .second, .val (.long v39), .second, .val (.ref b41), .val (.ref b128), .val (.long v145), .second] [(.long v30), (.long v38), (.int (1 : Int32)), (.int (3 : Int32)), (.long v30)])) rfl (by rw [hml]; rfl) (argsL := [(.int (3 : Int32)), (.int (1 : Int32)), (.long v38), (.long v30)]) (rest := [(.long v30)]) (lenOf own_pd3 rfl) rfl (by show 2 * 0 + _ ≤ _; exact Nat.le_of_eq rfl) (hb hby at_231) (fun _ _ => ⟨rfl, e163, (by decide : 2 + 0 ≤ _), (by decide : 6 + 0 ≤ _)⟩)
            dsimp only [Pt.U, Pt.locs, Pt.cells, Pt.slots] at X167 l167 y167 z167 st167 hQ167
            subst l167 y167 z167
            obtain ⟨rfl, N167q, e169⟩ := hQ167
            have N168 := Fr.app N162 N167q
            have pre170 : ∀ t, Steps p.tables e below (T167.setTop (mkF m 235 #[.val (.int p0), .val (.int p1), .val (.long q2), .second, .val (.int p3), .val (.long q4), .second, .val (.int (1 : Int32)), .val (.long v27), .second, .val (.long v30), .second, .val (.int v32), .val (.long v38), .second, .val (.long v39), .second, .val (.ref b41), .val (.ref b128), .val (.long v145), .second] [(.int (lcmpW v30 (own_f5 (3 : Int32) (1 : Int32) v38 v30)))])) t → Steps p.tables e below (s₁.setTop (entryFrame m #[(.int p0), (.int p1), (.long q2), (.int p3), (.long q4)] maxLocals)) t := fun t kk => pre164 t (by
              show Steps p.tables e below (T161.setTop (mkF m 217 #[.val (.int p0), .val (.int p1), .val (.long q2), .second, .val (.int p3), .val (.long q4), .second, .val (.int (1 : Int32)), .val (.long v27), .second, .val (.long v30), .second, .val (.int v32), .val (.long v38), .second, .val (.long v39), .second, .val (.ref b41), .val (.ref b128), .val (.long v145), .second] [(.int (lcmpW v30 (own_f5 (2 : Int32) (1 : Int32) v38 v30)))])) _
              refine XS.ifNo X161.here hx rfl (hb hby at_217) rfl ((if0 _ _).trans (teq ((lw_eq v30 (own_f5 (2 : Int32) (1 : Int32) v38 v30)).mpr hc165)).2) ?_
              show Steps p.tables e below (T161.setTop (mkF m 220 #[.val (.int p0), .val (.int p1), .val (.long q2), .second, .val (.int p3), .val (.long q4), .second, .val (.int (1 : Int32)), .val (.long v27), .second, .val (.long v30), .second, .val (.int v32), .val (.long v38), .second, .val (.long v39), .second, .val (.ref b41), .val (.ref b128), .val (.long v145), .second] [])) _
              refine XS.aload X161.here hx rfl (hb hby at_220) rfl rfl ?_
              show Steps p.tables e below (T161.setTop (mkF m 222 #[.val (.int p0), .val (.int p1), .val (.long q2), .second, .val (.int p3), .val (.long q4), .second, .val (.int (1 : Int32)), .val (.long v27), .second, .val (.long v30), .second, .val (.int v32), .val (.long v38), .second, .val (.long v39), .second, .val (.ref b41), .val (.ref b128), .val (.long v145), .second] [(.ref b41)])) _
              refine XS.iconst X161.here hx rfl (hb hby at_222) ?_
              show Steps p.tables e below (T161.setTop (mkF m 223 #[.val (.int p0), .val (.int p1), .val (.long q2), .second, .val (.int p3), .val (.long q4), .second, .val (.int (1 : Int32)), .val (.long v27), .second, .val (.long v30), .second, .val (.int v32), .val (.long v38), .second, .val (.long v39), .second, .val (.ref b41), .val (.ref b128), .val (.long v145), .second] [(.int (3 : Int32)), (.ref b41)])) _
              refine X161.laload hx (j := (3 : Int32)) (v := (.long v30)) (by rw [e163]; exact Ar166.1) (State.isArrayOf_alike hZ.alike Ar166.2.1) Ar166.2.2 hin166 hat166 (g := (mkF m 223 #[.val (.int p0), .val (.int p1), .val (.long q2), .second, .val (.int p3), .val (.long q4), .second, .val (.int (1 : Int32)), .val (.long v27), .second, .val (.long v30), .second, .val (.int v32), .val (.long v38), .second, .val (.long v39), .second, .val (.ref b41), .val (.ref b128), .val (.long v145), .second] [(.int (3 : Int32)), (.ref b41)])) rfl rfl (hb hby at_223) _ ?_
              show Steps p.tables e below (T161.setTop (mkF m 224 #[.val (.int p0), .val (.int p1), .val (.long q2), .second, .val (.int p3), .val (.long q4), .second, .val (.int (1 : Int32)), .val (.long v27), .second, .val (.long v30), .second, .val (.int v32), .val (.long v38), .second, .val (.long v39), .second, .val (.ref b41), .val (.ref b128), .val (.long v145), .second] [(.long v30)])) _
              refine XS.iconst X161.here hx rfl (hb hby at_224) ?_
              show Steps p.tables e below (T161.setTop (mkF m 225 #[.val (.int p0), .val (.int p1), .val (.long q2), .second, .val (.int p3), .val (.long q4), .second, .val (.int (1 : Int32)), .val (.long v27), .second, .val (.long v30), .second, .val (.int v32), .val (.long v38), .second, .val (.long v39), .second, .val (.ref b41), .val (.ref b128), .val (.long v145), .second] [(.int (3 : Int32)), (.long v30)])) _
              refine XS.iload X161.here hx rfl (hb hby at_225) rfl ?_
              show Steps p.tables e below (T161.setTop (mkF m 227 #[.val (.int p0), .val (.int p1), .val (.long q2), .second, .val (.int p3), .val (.long q4), .second, .val (.int (1 : Int32)), .val (.long v27), .second, .val (.long v30), .second, .val (.int v32), .val (.long v38), .second, .val (.long v39), .second, .val (.ref b41), .val (.ref b128), .val (.long v145), .second] [(.int (1 : Int32)), (.int (3 : Int32)), (.long v30)])) _
              refine XS.lload X161.here hx rfl (hb hby at_227) rfl ?_
              show Steps p.tables e below (T161.setTop (mkF m 229 #[.val (.int p0), .val (.int p1), .val (.long q2), .second, .val (.int p3), .val (.long q4), .second, .val (.int (1 : Int32)), .val (.long v27), .second, .val (.long v30), .second, .val (.int v32), .val (.long v38), .second, .val (.long v39), .second, .val (.ref b41), .val (.ref b128), .val (.long v145), .second] [(.long v38), (.int (1 : Int32)), (.int (3 : Int32)), (.long v30)])) _
              refine XS.lload X161.here hx rfl (hb hby at_229) rfl ?_
              show Steps p.tables e below (T161.setTop (mkF m 231 #[.val (.int p0), .val (.int p1), .val (.long q2), .second, .val (.int p3), .val (.long q4), .second, .val (.int (1 : Int32)), .val (.long v27), .second, .val (.long v30), .second, .val (.int v32), .val (.long v38), .second, .val (.long v39), .second, .val (.ref b41), .val (.ref b128), .val (.long v145), .second] [(.long v30), (.long v38), (.int (1 : Int32)), (.int (3 : Int32)), (.long v30)])) _
              refine st167 _ ?_
              show Steps p.tables e below (T167.setTop (mkF m 234 #[.val (.int p0), .val (.int p1), .val (.long q2), .second, .val (.int p3), .val (.long q4), .second, .val (.int (1 : Int32)), .val (.long v27), .second, .val (.long v30), .second, .val (.int v32), .val (.long v38), .second, .val (.long v39), .second, .val (.ref b41), .val (.ref b128), .val (.long v145), .second] [(.long (own_f5 (3 : Int32) (1 : Int32) v38 v30)), (.long v30)])) _
              refine XS.lcmp X167.here hx rfl (hb hby at_234) rfl ?_
              show Steps p.tables e below (T167.setTop (mkF m 235 #[.val (.int p0), .val (.int p1), .val (.long q2), .second, .val (.int p3), .val (.long q4), .second, .val (.int (1 : Int32)), .val (.long v27), .second, .val (.long v30), .second, .val (.int v32), .val (.long v38), .second, .val (.long v39), .second, .val (.ref b41), .val (.ref b128), .val (.long v145), .second] [(.int (lcmpW v30 (own_f5 (3 : Int32) (1 : Int32) v38 v30)))])) _
              exact kk)
            by_cases hc171 : v30 = (own_f5 (3 : Int32) (1 : Int32) v38 v30)
            · obtain ⟨fs, hr, hrun, hended, hW, hsame⟩ := X167.leave (v := some (.int (1 : Int32))) (fun h => by rw [Bd.returns] at h; cases h)
              refine ⟨_, _, pre170 _ ?_, hrun, hended, _, _, rfl, ?_, ⟨_, rfl⟩, hW, hsame.mono (by decide) (by decide)⟩
              · show Steps p.tables e below (T167.setTop (mkF m 235 #[.val (.int p0), .val (.int p1), .val (.long q2), .second, .val (.int p3), .val (.long q4), .second, .val (.int (1 : Int32)), .val (.long v27), .second, .val (.long v30), .second, .val (.int v32), .val (.long v38), .second, .val (.long v39), .second, .val (.ref b41), .val (.ref b128), .val (.long v145), .second] [(.int (lcmpW v30 (own_f5 (3 : Int32) (1 : Int32) v38 v30)))])) _
                refine XS.ifNo X167.here hx rfl (hb hby at_235) rfl ((if0 _ _).trans (teq ((lw_eq v30 (own_f5 (3 : Int32) (1 : Int32) v38 v30)).mpr hc171)).2) ?_
                show Steps p.tables e below (T167.setTop (mkF m 238 #[.val (.int p0), .val (.int p1), .val (.long q2), .second, .val (.int p3), .val (.long q4), .second, .val (.int (1 : Int32)), .val (.long v27), .second, .val (.long v30), .second, .val (.int v32), .val (.long v38), .second, .val (.long v39), .second, .val (.ref b41), .val (.ref b128), .val (.long v145), .second] [])) _
                refine XS.iconst X167.here hx rfl (hb hby at_238) ?_
                show Steps p.tables e below (T167.setTop (mkF m 239 #[.val (.int p0), .val (.int p1), .val (.long q2), .second, .val (.int p3), .val (.long q4), .second, .val (.int (1 : Int32)), .val (.long v27), .second, .val (.long v30), .second, .val (.int v32), .val (.long v38), .second, .val (.long v39), .second, .val (.ref b41), .val (.ref b128), .val (.long v145), .second] [(.int (1 : Int32))])) _
                refine XS.goto X167.here hx rfl (pc0 := 239) (pc' := 243) rfl (hb hby at_239) (by decide) (by decide) ?_
                show Steps p.tables e below (T167.setTop (mkF m 243 #[.val (.int p0), .val (.int p1), .val (.long q2), .second, .val (.int p3), .val (.long q4), .second, .val (.int (1 : Int32)), .val (.long v27), .second, .val (.long v30), .second, .val (.int v32), .val (.long v38), .second, .val (.long v39), .second, .val (.ref b41), .val (.ref b128), .val (.long v145), .second] [(.int (1 : Int32))])) _
                exact retN X167 hx (t := .boolean) Bd.returns (by simp) (hb hby at_243) hr
              · show own_Q0 Z p0 p1 q2 p3 q4 h0 n0 _ T167.heap _
                rw [e169]
                exact ⟨rfl, N168⟩
            · exact (own_leaf0_8 p0 p1 q2 p3 q4 hv26 v27 hv27 v30 hv30 v32 hv32 v38 hv38 v39 hv39 v145 hv145 hc147 hc153 hc159 hc165 hc171).elim
          · exact (own_leaf0_9 p0 p1 q2 p3 q4 hv26 v27 hv27 v30 hv30 v32 hv32 v38 hv38 v39 hv39 v145 hv145 hc147 hc153 hc159 hc165).elim
        · exact (own_leaf0_10 p0 p1 q2 p3 q4 hv26 v27 hv27 v30 hv30 v32 hv32 v38 hv38 v39 hv39 v145 hv145 hc147 hc153 hc159).elim
      · exact (own_leaf0_11 p0 p1 q2 p3 q4 hv26 v27 hv27 v30 hv30 v32 hv32 v38 hv38 v39 hv39 v145 hv145 hc147 hc153).elim
    · exact (own_leaf0_12 p0 p1 q2 p3 q4 hv26 v27 hv27 v30 hv30 v32 hv32 v38 hv38 v39 hv39 v145 hv145 hc147).elim
  · subst hs71
    obtain ⟨cl172, Ar172, q172, S172, M172, H172, G172⟩ := id f68
    have hin172 : ¬ ((2 : Int32) < 0 ∨ cl172.slots.size ≤ ((2 : Int32)).toNatClampNeg) := inb_of S172 ⟨by decide, by decide⟩
    obtain ⟨T173, h173, X173, e173, W173, st173⟩ := stJ X64 hx hZ e64 Ar172 (j := (2 : Int32)) hin172 (g := (mkF m 136 #[.val (.int p0), .val (.int p1), .val (.long q2), .second, .val (.int p3), .val (.long q4), .second, .val (.int (2 : Int32)), .val (.long v27), .second, .val (.long v30), .second, .val (.int v32), .val (.long v38), .second, .val (.long v39), .second, .val (.ref b41), .unset, .unset, .unset] [(.long v38), (.int (2 : Int32)), (.ref b41)])) rfl rfl (hb hby at_136)
    have K174 : Keep h0 h173 [] := K65.wr W173 (Or.inr sz_b41)
    have z175 : n0 ≤ h173.size := Nat.le_trans z66 (Keep.of_wr W173).1
    have N176 := Fr.snoc X173 N67 g_b41
    have f177 : Arv Z h173 b41 k41 .long (4 : Int32) [(.long v30), (.long v30), (.long v38), (.long v30)] (.long (0 : Int64)) := Arv.set Ar172 q172 S172 M172 H172 G172 rfl W173 2 rfl (Nat.le_of_ble_eq_true rfl)
    obtain ⟨T178, h178, X178, e178, E178, A178, D178, -, st178⟩ := newO X173 hx hZ hown (hw _ (List.mem_of_getElem? (i := 1) rfl)) (hw _ (List.mem_of_getElem? (i := 2) rfl)) (hw _ (List.mem_of_getElem? (i := 3) rfl)) e173 (g := (mkF m 137 #[.val (.int p0), .val (.int p1), .val (.long q2), .second, .val (.int p3), .val (.long q4), .second, .val (.int (2 : Int32)), .val (.long v27), .second, .val (.long v30), .second, .val (.int v32), .val (.long v38), .second, .val (.long v39), .second, .val (.ref b41), .unset, .unset, .unset] [])) rfl (hb hby at_137) (by decide) (by decide)
    obtain ⟨b178, g178⟩ : ∃ z, z = h173.size := ⟨_, rfl⟩
    have ne_b41_b178 : b41 ≠ b178 := Nat.ne_of_lt (Nat.lt_of_lt_of_le f177.lt (Nat.le_of_eq g178.symm))
    have g_b178 : n0 ≤ b178 := Nat.le_trans z175 (Nat.le_of_eq g178.symm)
    have sz_b178 : h0.size ≤ b178 := Nat.le_trans K174.1 (Nat.le_of_eq g178.symm)
    rw [← g178] at A178 D178 st178
    have f179 := f177.ext E178
    have z180 : n0 ≤ h178.size := Nat.le_trans z175 E178.1
    have K181 : Keep h0 h178 [] := K174.ext E178
    have f182 : Fld Z h178 b178 "com/example/thyme/thyme/lang/Expression$InLocation" "slot" "I" (.int (0 : Int32)) := D178 (Or.inr (hw _ (List.mem_of_getElem? (i := 16) rfl))) (ty := .int) (by decide)
    have f183 : Fld Z h178 b178 "com/example/thyme/thyme/lang/Expression$InLocation" "location" "I" (.int (0 : Int32)) := D178 (Or.inr (hw _ (List.mem_of_getElem? (i := 18) rfl))) (ty := .int) (by decide)
    obtain ⟨_, _, ⟨T184, L184, k184, n184⟩, -, X184, ⟨Lc184, hQ184, l184, y184, z184⟩, st184⟩ := X178.specialBack hx (y := (⟨"com/example/thyme/thyme/lang/Expression$InLocation", "<init>", "(II)V"⟩ : MethodName)) rfl hown (mvT hZ (hw _ (List.mem_of_getElem? (i := 4) rfl))) (mvT hZ (hw _ (List.mem_of_getElem? (i := 5) rfl))) (mvT hZ (hw _ (List.mem_of_getElem? (i := 6) rfl))) (by decide) (backOf (W := 1) (own_rm1 l Z av hw [] b178 (2 : Int32) p1 h178 n0 z180 A178 f182 f183 g_b178) hZ (hw _ (List.mem_of_getElem? (i := 6) rfl)) (hw _ (List.mem_of_getElem? (i := 3) rfl)) (by decide) (by decide)) (g := (mkF m 144 #[.val (.int p0), .val (.int p1), .val (.long q2), .second, .val (.int p3), .val (.long q4), .second, .val (.int (2 : Int32)), .val (.long v27), .second, .val (.long v30), .second, .val (.int v32), .val (.long v38), .second, .val (.long v39), .second, .val (.ref b41), .unset, .unset, .unset] [(.int p1), (.int (2 : Int32)), (.ref b178), (.ref b178)])) rfl (by rw [hml]; rfl) (Steps.refl _) (a := b178) (argsL := [(.int (2 : Int32)), (.int p1)]) (rest := [(.ref b178)]) (lenOf own_pd1 rfl) rfl (by show 2 * 0 + _ ≤ _; exact Nat.le_of_eq rfl) (hb hby at_144) (fun _ _ => ⟨rfl, e178, (by decide : 2 + 0 ≤ _), (by decide : 6 + 0 ≤ _)⟩)
    dsimp only [Pt.U, Pt.locs, Pt.cells, Pt.slots] at X184 l184 y184 z184 st184 hQ184
    subst l184 y184 z184
    obtain ⟨rfl, N184q, K184, f186, f187, f188⟩ := hQ184
    have f189 := f179.keep K184 (ninS ne_b41_b178 nin0)
    have K190 : Keep h0 T184.heap [] := K181.trans K184 (allS (Or.inr sz_b178) all0)
    have z191 : n0 ≤ T184.heap.size := Nat.le_trans z180 K184.1
    have N185 := Fr.app N176 N184q
    obtain ⟨cq192, kq192, q192a, q192b, q192c⟩ := isOf hZ rfl f186
    obtain ⟨_, _, ⟨T192, L192, k192, n192⟩, -, X192, ⟨Lc192, hQ192, l192, y192, z192⟩, st192⟩ := X184.virtualBack hx (y := (⟨"com/example/thyme/thyme/lang/Expression$InLocation", "evaluate", "([J)J"⟩ : MethodName)) (z := (⟨"com/example/thyme/thyme/lang/Expression$InLocation", "evaluate", "([J)J"⟩ : MethodName)) hown (mvT hZ (hw _ (List.mem_of_getElem? (i := 19) rfl))) (mvT hZ (hw _ (List.mem_of_getElem? (i := 20) rfl))) (notFace_of_selects (args := #[]) (mvT hZ (hw _ (List.mem_of_getElem? (i := 22) rfl)))) (mvT hZ (hw _ (List.mem_of_getElem? (i := 22) rfl))) (mvT hZ (hw _ (List.mem_of_getElem? (i := 21) rfl))) (by decide) (backOf (W := 0) (own_rm4 l Z av hw [] b178 b41 ((2 : Int32)) (p1) (k41) ((4 : Int32)) ([(.long v30), (.long v30), (.long v38), (.long v30)]) ((.long (0 : Int64))) (v38) T184.heap n0 z191 f187 f188 f189 (⟨by decide, by decide⟩) (rfl)) hZ (hw _ (List.mem_of_getElem? (i := 23) rfl)) (hw _ (List.mem_of_getElem? (i := 3) rfl)) (by decide) (by decide)) q192a q192c (g := (mkF m 153 #[.val (.int p0), .val (.int p1), .val (.long q2), .second, .val (.int p3), .val (.long q4), .second, .val (.int (2 : Int32)), .val (.long v27), .second, .val (.long v30), .second, .val (.int v32), .val (.long v38), .second, .val (.long v39), .second, .val (.ref b41), .val (.ref b178), .unset, .unset] [(.ref b41), (.ref b178)])) rfl (by rw [hml]; rfl) (Steps.refl _) (argsL := [(.ref b41)]) (rest := []) (lenOf own_pd2 rfl) rfl (by show 2 * 0 + _ ≤ _; exact Nat.le_of_eq rfl) (hb hby at_153) (fun _ _ => ⟨rfl, rfl, (by decide : 2 + 0 ≤ _), (by decide : 6 + 0 ≤ _)⟩)
    dsimp only [Pt.U, Pt.locs, Pt.cells, Pt.slots] at X192 l192 y192 z192 st192 hQ192
    subst l192 y192 z192
    obtain ⟨rfl, N192q, e194⟩ := hQ192
    have N193 := Fr.app N185 N192q
    obtain ⟨v195, hv195⟩ : ∃ z : Int64, z = (own_f4 v38 p1) := ⟨_, rfl⟩
    have pre196 : ∀ t, Steps p.tables e below (T192.setTop (mkF m 163 #[.val (.int p0), .val (.int p1), .val (.long q2), .second, .val (.int p3), .val (.long q4), .second, .val (.int (2 : Int32)), .val (.long v27), .second, .val (.long v30), .second, .val (.int v32), .val (.long v38), .second, .val (.long v39), .second, .val (.ref b41), .val (.ref b178), .val (.long v195), .second] [(.int (lcmpW v195 v39))])) t → Steps p.tables e below (s₁.setTop (entryFrame m #[(.int p0), (.int p1), (.long q2), (.int p3), (.long q4)] maxLocals)) t := fun t kk => pre70 t (by
      show Steps p.tables e below (T64.setTop (mkF m 130 #[.val (.int p0), .val (.int p1), .val (.long q2), .second, .val (.int p3), .val (.long q4), .second, .val (.int (2 : Int32)), .val (.long v27), .second, .val (.long v30), .second, .val (.int v32), .val (.long v38), .second, .val (.long v39), .second, .val (.ref b41), .unset, .unset, .unset] [])) _
      refine XS.aload X64.here hx rfl (hb hby at_130) rfl rfl ?_
      show Steps p.tables e below (T64.setTop (mkF m 132 #[.val (.int p0), .val (.int p1), .val (.long q2), .second, .val (.int p3), .val (.long q4), .second, .val (.int (2 : Int32)), .val (.long v27), .second, .val (.long v30), .second, .val (.int v32), .val (.long v38), .second, .val (.long v39), .second, .val (.ref b41), .unset, .unset, .unset] [(.ref b41)])) _
      refine XS.iload X64.here hx rfl (hb hby at_132) rfl ?_
      show Steps p.tables e below (T64.setTop (mkF m 134 #[.val (.int p0), .val (.int p1), .val (.long q2), .second, .val (.int p3), .val (.long q4), .second, .val (.int (2 : Int32)), .val (.long v27), .second, .val (.long v30), .second, .val (.int v32), .val (.long v38), .second, .val (.long v39), .second, .val (.ref b41), .unset, .unset, .unset] [(.int (2 : Int32)), (.ref b41)])) _
      refine XS.lload X64.here hx rfl (hb hby at_134) rfl ?_
      show Steps p.tables e below (T64.setTop (mkF m 136 #[.val (.int p0), .val (.int p1), .val (.long q2), .second, .val (.int p3), .val (.long q4), .second, .val (.int (2 : Int32)), .val (.long v27), .second, .val (.long v30), .second, .val (.int v32), .val (.long v38), .second, .val (.long v39), .second, .val (.ref b41), .unset, .unset, .unset] [(.long v38), (.int (2 : Int32)), (.ref b41)])) _
      refine st173 _ ?_
      show Steps p.tables e below (T173.setTop (mkF m 137 #[.val (.int p0), .val (.int p1), .val (.long q2), .second, .val (.int p3), .val (.long q4), .second, .val (.int (2 : Int32)), .val (.long v27), .second, .val (.long v30), .second, .val (.int v32), .val (.long v38), .second, .val (.long v39), .second, .val (.ref b41), .unset, .unset, .unset] [])) _
      refine st178 _ ?_
      show Steps p.tables e below (T178.setTop (mkF m 140 #[.val (.int p0), .val (.int p1), .val (.long q2), .second, .val (.int p3), .val (.long q4), .second, .val (.int (2 : Int32)), .val (.long v27), .second, .val (.long v30), .second, .val (.int v32), .val (.long v38), .second, .val (.long v39), .second, .val (.ref b41), .unset, .unset, .unset] [(.ref b178)])) _
      refine XS.dup X178.here hx rfl (hb hby at_140) rfl rfl ?_
      show Steps p.tables e below (T178.setTop (mkF m 141 #[.val (.int p0), .val (.int p1), .val (.long q2), .second, .val (.int p3), .val (.long q4), .second, .val (.int (2 : Int32)), .val (.long v27), .second, .val (.long v30), .second, .val (.int v32), .val (.long v38), .second, .val (.long v39), .second, .val (.ref b41), .unset, .unset, .unset] [(.ref b178), (.ref b178)])) _
      refine XS.iload X178.here hx rfl (hb hby at_141) rfl ?_
      show Steps p.tables e below (T178.setTop (mkF m 143 #[.val (.int p0), .val (.int p1), .val (.long q2), .second, .val (.int p3), .val (.long q4), .second, .val (.int (2 : Int32)), .val (.long v27), .second, .val (.long v30), .second, .val (.int v32), .val (.long v38), .second, .val (.long v39), .second, .val (.ref b41), .unset, .unset, .unset] [(.int (2 : Int32)), (.ref b178), (.ref b178)])) _
      refine XS.iloadN X178.here hx rfl (hb hby at_143) rfl ?_
      show Steps p.tables e below (T178.setTop (mkF m 144 #[.val (.int p0), .val (.int p1), .val (.long q2), .second, .val (.int p3), .val (.long q4), .second, .val (.int (2 : Int32)), .val (.long v27), .second, .val (.long v30), .second, .val (.int v32), .val (.long v38), .second, .val (.long v39), .second, .val (.ref b41), .unset, .unset, .unset] [(.int p1), (.int (2 : Int32)), (.ref b178), (.ref b178)])) _
      refine st184.trans ?_
      show Steps p.tables e below (T184.setTop (mkF m 147 #[.val (.int p0), .val (.int p1), .val (.long q2), .second, .val (.int p3), .val (.long q4), .second, .val (.int (2 : Int32)), .val (.long v27), .second, .val (.long v30), .second, .val (.int v32), .val (.long v38), .second, .val (.long v39), .second, .val (.ref b41), .unset, .unset, .unset] [(.ref b178)])) _
      refine XS.astore X184.here hx rfl (hb hby at_147) rfl rfl (l' := #[.val (.int p0), .val (.int p1), .val (.long q2), .second, .val (.int p3), .val (.long q4), .second, .val (.int (2 : Int32)), .val (.long v27), .second, .val (.long v30), .second, .val (.int v32), .val (.long v38), .second, .val (.long v39), .second, .val (.ref b41), .val (.ref b178), .unset, .unset]) rfl ?_
      show Steps p.tables e below (T184.setTop (mkF m 149 #[.val (.int p0), .val (.int p1), .val (.long q2), .second, .val (.int p3), .val (.long q4), .second, .val (.int (2 : Int32)), .val (.long v27), .second, .val (.long v30), .second, .val (.int v32), .val (.long v38), .second, .val (.long v39), .second, .val (.ref b41), .val (.ref b178), .unset, .unset] [])) _
      refine XS.aload X184.here hx rfl (hb hby at_149) rfl rfl ?_
      show Steps p.tables e below (T184.setTop (mkF m 151 #[.val (.int p0), .val (.int p1), .val (.long q2), .second, .val (.int p3), .val (.long q4), .second, .val (.int (2 : Int32)), .val (.long v27), .second, .val (.long v30), .second, .val (.int v32), .val (.long v38), .second, .val (.long v39), .second, .val (.ref b41), .val (.ref b178), .unset, .unset] [(.ref b178)])) _
      refine XS.aload X184.here hx rfl (hb hby at_151) rfl rfl ?_
      show Steps p.tables e below (T184.setTop (mkF m 153 #[.val (.int p0), .val (.int p1), .val (.long q2), .second, .val (.int p3), .val (.long q4), .second, .val (.int (2 : Int32)), .val (.long v27), .second, .val (.long v30), .second, .val (.int v32), .val (.long v38), .second, .val (.long v39), .second, .val (.ref b41), .val (.ref b178), .unset, .unset] [(.ref b41), (.ref b178)])) _
      refine st192.trans ?_
      show Steps p.tables e below (T192.setTop (mkF m 156 #[.val (.int p0), .val (.int p1), .val (.long q2), .second, .val (.int p3), .val (.long q4), .second, .val (.int (2 : Int32)), .val (.long v27), .second, .val (.long v30), .second, .val (.int v32), .val (.long v38), .second, .val (.long v39), .second, .val (.ref b41), .val (.ref b178), .unset, .unset] [(.long (own_f4 v38 p1))])) _
      refine castTop (congrArg (fun z : Int64 => mkF m 156 #[.val (.int p0), .val (.int p1), .val (.long q2), .second, .val (.int p3), .val (.long q4), .second, .val (.int (2 : Int32)), .val (.long v27), .second, .val (.long v30), .second, .val (.int v32), .val (.long v38), .second, .val (.long v39), .second, .val (.ref b41), .val (.ref b178), .unset, .unset] [(.long z)]) hv195.symm) ?_
      show Steps p.tables e below (T192.setTop (mkF m 156 #[.val (.int p0), .val (.int p1), .val (.long q2), .second, .val (.int p3), .val (.long q4), .second, .val (.int (2 : Int32)), .val (.long v27), .second, .val (.long v30), .second, .val (.int v32), .val (.long v38), .second, .val (.long v39), .second, .val (.ref b41), .val (.ref b178), .unset, .unset] [(.long v195)])) _
      refine XS.lstore X192.here hx rfl (hb hby at_156) rfl (l' := #[.val (.int p0), .val (.int p1), .val (.long q2), .second, .val (.int p3), .val (.long q4), .second, .val (.int (2 : Int32)), .val (.long v27), .second, .val (.long v30), .second, .val (.int v32), .val (.long v38), .second, .val (.long v39), .second, .val (.ref b41), .val (.ref b178), .val (.long v195), .second]) rfl ?_
      show Steps p.tables e below (T192.setTop (mkF m 158 #[.val (.int p0), .val (.int p1), .val (.long q2), .second, .val (.int p3), .val (.long q4), .second, .val (.int (2 : Int32)), .val (.long v27), .second, .val (.long v30), .second, .val (.int v32), .val (.long v38), .second, .val (.long v39), .second, .val (.ref b41), .val (.ref b178), .val (.long v195), .second] [])) _
      refine XS.lload X192.here hx rfl (hb hby at_158) rfl ?_
      show Steps p.tables e below (T192.setTop (mkF m 160 #[.val (.int p0), .val (.int p1), .val (.long q2), .second, .val (.int p3), .val (.long q4), .second, .val (.int (2 : Int32)), .val (.long v27), .second, .val (.long v30), .second, .val (.int v32), .val (.long v38), .second, .val (.long v39), .second, .val (.ref b41), .val (.ref b178), .val (.long v195), .second] [(.long v195)])) _
      refine XS.lload X192.here hx rfl (hb hby at_160) rfl ?_
      show Steps p.tables e below (T192.setTop (mkF m 162 #[.val (.int p0), .val (.int p1), .val (.long q2), .second, .val (.int p3), .val (.long q4), .second, .val (.int (2 : Int32)), .val (.long v27), .second, .val (.long v30), .second, .val (.int v32), .val (.long v38), .second, .val (.long v39), .second, .val (.ref b41), .val (.ref b178), .val (.long v195), .second] [(.long v39), (.long v195)])) _
      refine XS.lcmp X192.here hx rfl (hb hby at_162) rfl ?_
      show Steps p.tables e below (T192.setTop (mkF m 163 #[.val (.int p0), .val (.int p1), .val (.long q2), .second, .val (.int p3), .val (.long q4), .second, .val (.int (2 : Int32)), .val (.long v27), .second, .val (.long v30), .second, .val (.int v32), .val (.long v38), .second, .val (.long v39), .second, .val (.ref b41), .val (.ref b178), .val (.long v195), .second] [(.int (lcmpW v195 v39))])) _
      exact kk)
    by_cases hc197 : v195 = v39
    · obtain ⟨cl198, Ar198, q198, S198, M198, H198, G198⟩ := id f189
      have hin198 : ¬ ((0 : Int32) < 0 ∨ cl198.slots.size ≤ ((0 : Int32)).toNatClampNeg) := inb_of S198 ⟨by decide, by decide⟩
      have hat198 : cl198.slots[((0 : Int32)).toNatClampNeg]? = some (.long v30) := H198.at hin198 rfl
      obtain ⟨_, _, ⟨T199, L199, k199, n199⟩, -, X199, ⟨Lc199, hQ199, l199, y199, z199⟩, st199⟩ := Jvm.LawKit.callS X192 hx (y := (⟨"com/example/thyme/thyme/lang/InLocationEvaluatePinLaw", "at", "(IIJJ)J"⟩ : MethodName)) hown (mvT hZ (hw _ (List.mem_of_getElem? (i := 24) rfl))) (mvT hZ (hw _ (List.mem_of_getElem? (i := 25) rfl))) (mvT hZ (hw _ (List.mem_of_getElem? (i := 26) rfl))) (mvT hZ (hw _ (List.mem_of_getElem? (i := 27) rfl))) (by decide) (backOf (W := 2) (own_rm5 l Z av hw [] (0 : Int32) (2 : Int32) v38 v30 T184.heap n0 z191 ) hZ (hw _ (List.mem_of_getElem? (i := 27) rfl)) (hw _ (List.mem_of_getElem? (i := 26) rfl)) (by decide) (by decide)) (g := (mkF m 177 #[.val (.int p0), .val (.int p1), .val (.long q2), .second, .val (.int p3), .val (.long q4), .second, .val (.int (2 : Int32)), .val (.long v27), .second, .val (.long v30), .second, .val (.int v32), .val (.long v38), .second, .val (.long v39), .second, .val (.ref b41), .val (.ref b178), .val (.long v195), .second] [(.long v30), (.long v38), (.int (2 : Int32)), (.int (0 : Int32)), (.long v30)])) rfl (by rw [hml]; rfl) (argsL := [(.int (0 : Int32)), (.int (2 : Int32)), (.long v38), (.long v30)]) (rest := [(.long v30)]) (lenOf own_pd3 rfl) rfl (by show 2 * 0 + _ ≤ _; exact Nat.le_of_eq rfl) (hb hby at_177) (fun _ _ => ⟨rfl, e194, (by decide : 2 + 0 ≤ _), (by decide : 6 + 0 ≤ _)⟩)
      dsimp only [Pt.U, Pt.locs, Pt.cells, Pt.slots] at X199 l199 y199 z199 st199 hQ199
      subst l199 y199 z199
      obtain ⟨rfl, N199q, e201⟩ := hQ199
      have N200 := Fr.app N193 N199q
      have pre202 : ∀ t, Steps p.tables e below (T199.setTop (mkF m 181 #[.val (.int p0), .val (.int p1), .val (.long q2), .second, .val (.int p3), .val (.long q4), .second, .val (.int (2 : Int32)), .val (.long v27), .second, .val (.long v30), .second, .val (.int v32), .val (.long v38), .second, .val (.long v39), .second, .val (.ref b41), .val (.ref b178), .val (.long v195), .second] [(.int (lcmpW v30 (own_f5 (0 : Int32) (2 : Int32) v38 v30)))])) t → Steps p.tables e below (s₁.setTop (entryFrame m #[(.int p0), (.int p1), (.long q2), (.int p3), (.long q4)] maxLocals)) t := fun t kk => pre196 t (by
        show Steps p.tables e below (T192.setTop (mkF m 163 #[.val (.int p0), .val (.int p1), .val (.long q2), .second, .val (.int p3), .val (.long q4), .second, .val (.int (2 : Int32)), .val (.long v27), .second, .val (.long v30), .second, .val (.int v32), .val (.long v38), .second, .val (.long v39), .second, .val (.ref b41), .val (.ref b178), .val (.long v195), .second] [(.int (lcmpW v195 v39))])) _
        refine XS.ifNo X192.here hx rfl (hb hby at_163) rfl ((if0 _ _).trans (teq ((lw_eq v195 v39).mpr hc197)).2) ?_
        show Steps p.tables e below (T192.setTop (mkF m 166 #[.val (.int p0), .val (.int p1), .val (.long q2), .second, .val (.int p3), .val (.long q4), .second, .val (.int (2 : Int32)), .val (.long v27), .second, .val (.long v30), .second, .val (.int v32), .val (.long v38), .second, .val (.long v39), .second, .val (.ref b41), .val (.ref b178), .val (.long v195), .second] [])) _
        refine XS.aload X192.here hx rfl (hb hby at_166) rfl rfl ?_
        show Steps p.tables e below (T192.setTop (mkF m 168 #[.val (.int p0), .val (.int p1), .val (.long q2), .second, .val (.int p3), .val (.long q4), .second, .val (.int (2 : Int32)), .val (.long v27), .second, .val (.long v30), .second, .val (.int v32), .val (.long v38), .second, .val (.long v39), .second, .val (.ref b41), .val (.ref b178), .val (.long v195), .second] [(.ref b41)])) _
        refine XS.iconst X192.here hx rfl (hb hby at_168) ?_
        show Steps p.tables e below (T192.setTop (mkF m 169 #[.val (.int p0), .val (.int p1), .val (.long q2), .second, .val (.int p3), .val (.long q4), .second, .val (.int (2 : Int32)), .val (.long v27), .second, .val (.long v30), .second, .val (.int v32), .val (.long v38), .second, .val (.long v39), .second, .val (.ref b41), .val (.ref b178), .val (.long v195), .second] [(.int (0 : Int32)), (.ref b41)])) _
        refine X192.laload hx (j := (0 : Int32)) (v := (.long v30)) (by rw [e194]; exact Ar198.1) (State.isArrayOf_alike hZ.alike Ar198.2.1) Ar198.2.2 hin198 hat198 (g := (mkF m 169 #[.val (.int p0), .val (.int p1), .val (.long q2), .second, .val (.int p3), .val (.long q4), .second, .val (.int (2 : Int32)), .val (.long v27), .second, .val (.long v30), .second, .val (.int v32), .val (.long v38), .second, .val (.long v39), .second, .val (.ref b41), .val (.ref b178), .val (.long v195), .second] [(.int (0 : Int32)), (.ref b41)])) rfl rfl (hb hby at_169) _ ?_
        show Steps p.tables e below (T192.setTop (mkF m 170 #[.val (.int p0), .val (.int p1), .val (.long q2), .second, .val (.int p3), .val (.long q4), .second, .val (.int (2 : Int32)), .val (.long v27), .second, .val (.long v30), .second, .val (.int v32), .val (.long v38), .second, .val (.long v39), .second, .val (.ref b41), .val (.ref b178), .val (.long v195), .second] [(.long v30)])) _
        refine XS.iconst X192.here hx rfl (hb hby at_170) ?_
        show Steps p.tables e below (T192.setTop (mkF m 171 #[.val (.int p0), .val (.int p1), .val (.long q2), .second, .val (.int p3), .val (.long q4), .second, .val (.int (2 : Int32)), .val (.long v27), .second, .val (.long v30), .second, .val (.int v32), .val (.long v38), .second, .val (.long v39), .second, .val (.ref b41), .val (.ref b178), .val (.long v195), .second] [(.int (0 : Int32)), (.long v30)])) _
        refine XS.iload X192.here hx rfl (hb hby at_171) rfl ?_
        show Steps p.tables e below (T192.setTop (mkF m 173 #[.val (.int p0), .val (.int p1), .val (.long q2), .second, .val (.int p3), .val (.long q4), .second, .val (.int (2 : Int32)), .val (.long v27), .second, .val (.long v30), .second, .val (.int v32), .val (.long v38), .second, .val (.long v39), .second, .val (.ref b41), .val (.ref b178), .val (.long v195), .second] [(.int (2 : Int32)), (.int (0 : Int32)), (.long v30)])) _
        refine XS.lload X192.here hx rfl (hb hby at_173) rfl ?_
        show Steps p.tables e below (T192.setTop (mkF m 175 #[.val (.int p0), .val (.int p1), .val (.long q2), .second, .val (.int p3), .val (.long q4), .second, .val (.int (2 : Int32)), .val (.long v27), .second, .val (.long v30), .second, .val (.int v32), .val (.long v38), .second, .val (.long v39), .second, .val (.ref b41), .val (.ref b178), .val (.long v195), .second] [(.long v38), (.int (2 : Int32)), (.int (0 : Int32)), (.long v30)])) _
        refine XS.lload X192.here hx rfl (hb hby at_175) rfl ?_
        show Steps p.tables e below (T192.setTop (mkF m 177 #[.val (.int p0), .val (.int p1), .val (.long q2), .second, .val (.int p3), .val (.long q4), .second, .val (.int (2 : Int32)), .val (.long v27), .second, .val (.long v30), .second, .val (.int v32), .val (.long v38), .second, .val (.long v39), .second, .val (.ref b41), .val (.ref b178), .val (.long v195), .second] [(.long v30), (.long v38), (.int (2 : Int32)), (.int (0 : Int32)), (.long v30)])) _
        refine st199 _ ?_
        show Steps p.tables e below (T199.setTop (mkF m 180 #[.val (.int p0), .val (.int p1), .val (.long q2), .second, .val (.int p3), .val (.long q4), .second, .val (.int (2 : Int32)), .val (.long v27), .second, .val (.long v30), .second, .val (.int v32), .val (.long v38), .second, .val (.long v39), .second, .val (.ref b41), .val (.ref b178), .val (.long v195), .second] [(.long (own_f5 (0 : Int32) (2 : Int32) v38 v30)), (.long v30)])) _
        refine XS.lcmp X199.here hx rfl (hb hby at_180) rfl ?_
        show Steps p.tables e below (T199.setTop (mkF m 181 #[.val (.int p0), .val (.int p1), .val (.long q2), .second, .val (.int p3), .val (.long q4), .second, .val (.int (2 : Int32)), .val (.long v27), .second, .val (.long v30), .second, .val (.int v32), .val (.long v38), .second, .val (.long v39), .second, .val (.ref b41), .val (.ref b178), .val (.long v195), .second] [(.int (lcmpW v30 (own_f5 (0 : Int32) (2 : Int32) v38 v30)))])) _
        exact kk)
      by_cases hc203 : v30 = (own_f5 (0 : Int32) (2 : Int32) v38 v30)
      · obtain ⟨cl204, Ar204, q204, S204, M204, H204, G204⟩ := id f189
        have hin204 : ¬ ((1 : Int32) < 0 ∨ cl204.slots.size ≤ ((1 : Int32)).toNatClampNeg) := inb_of S204 ⟨by decide, by decide⟩
        have hat204 : cl204.slots[((1 : Int32)).toNatClampNeg]? = some (.long v30) := H204.at hin204 rfl
        obtain ⟨_, _, ⟨T205, L205, k205, n205⟩, -, X205, ⟨Lc205, hQ205, l205, y205, z205⟩, st205⟩ := Jvm.LawKit.callS X199 hx (y := (⟨"com/example/thyme/thyme/lang/InLocationEvaluatePinLaw", "at", "(IIJJ)J"⟩ : MethodName)) hown (mvT hZ (hw _ (List.mem_of_getElem? (i := 24) rfl))) (mvT hZ (hw _ (List.mem_of_getElem? (i := 25) rfl))) (mvT hZ (hw _ (List.mem_of_getElem? (i := 26) rfl))) (mvT hZ (hw _ (List.mem_of_getElem? (i := 27) rfl))) (by decide) (backOf (W := 2) (own_rm5 l Z av hw [] (1 : Int32) (2 : Int32) v38 v30 T184.heap n0 z191 ) hZ (hw _ (List.mem_of_getElem? (i := 27) rfl)) (hw _ (List.mem_of_getElem? (i := 26) rfl)) (by decide) (by decide)) (g := (mkF m 195 #[.val (.int p0), .val (.int p1), .val (.long q2), .second, .val (.int p3), .val (.long q4), .second, .val (.int (2 : Int32)), .val (.long v27), .second, .val (.long v30), .second, .val (.int v32), .val (.long v38), .second, .val (.long v39), .second, .val (.ref b41), .val (.ref b178), .val (.long v195), .second] [(.long v30), (.long v38), (.int (2 : Int32)), (.int (1 : Int32)), (.long v30)])) rfl (by rw [hml]; rfl) (argsL := [(.int (1 : Int32)), (.int (2 : Int32)), (.long v38), (.long v30)]) (rest := [(.long v30)]) (lenOf own_pd3 rfl) rfl (by show 2 * 0 + _ ≤ _; exact Nat.le_of_eq rfl) (hb hby at_195) (fun _ _ => ⟨rfl, e201, (by decide : 2 + 0 ≤ _), (by decide : 6 + 0 ≤ _)⟩)
        dsimp only [Pt.U, Pt.locs, Pt.cells, Pt.slots] at X205 l205 y205 z205 st205 hQ205
        subst l205 y205 z205
        obtain ⟨rfl, N205q, e207⟩ := hQ205
        have N206 := Fr.app N200 N205q
        have pre208 : ∀ t, Steps p.tables e below (T205.setTop (mkF m 199 #[.val (.int p0), .val (.int p1), .val (.long q2), .second, .val (.int p3), .val (.long q4), .second, .val (.int (2 : Int32)), .val (.long v27), .second, .val (.long v30), .second, .val (.int v32), .val (.long v38), .second, .val (.long v39), .second, .val (.ref b41), .val (.ref b178), .val (.long v195), .second] [(.int (lcmpW v30 (own_f5 (1 : Int32) (2 : Int32) v38 v30)))])) t → Steps p.tables e below (s₁.setTop (entryFrame m #[(.int p0), (.int p1), (.long q2), (.int p3), (.long q4)] maxLocals)) t := fun t kk => pre202 t (by
          show Steps p.tables e below (T199.setTop (mkF m 181 #[.val (.int p0), .val (.int p1), .val (.long q2), .second, .val (.int p3), .val (.long q4), .second, .val (.int (2 : Int32)), .val (.long v27), .second, .val (.long v30), .second, .val (.int v32), .val (.long v38), .second, .val (.long v39), .second, .val (.ref b41), .val (.ref b178), .val (.long v195), .second] [(.int (lcmpW v30 (own_f5 (0 : Int32) (2 : Int32) v38 v30)))])) _
          refine XS.ifNo X199.here hx rfl (hb hby at_181) rfl ((if0 _ _).trans (teq ((lw_eq v30 (own_f5 (0 : Int32) (2 : Int32) v38 v30)).mpr hc203)).2) ?_
          show Steps p.tables e below (T199.setTop (mkF m 184 #[.val (.int p0), .val (.int p1), .val (.long q2), .second, .val (.int p3), .val (.long q4), .second, .val (.int (2 : Int32)), .val (.long v27), .second, .val (.long v30), .second, .val (.int v32), .val (.long v38), .second, .val (.long v39), .second, .val (.ref b41), .val (.ref b178), .val (.long v195), .second] [])) _
          refine XS.aload X199.here hx rfl (hb hby at_184) rfl rfl ?_
          show Steps p.tables e below (T199.setTop (mkF m 186 #[.val (.int p0), .val (.int p1), .val (.long q2), .second, .val (.int p3), .val (.long q4), .second, .val (.int (2 : Int32)), .val (.long v27), .second, .val (.long v30), .second, .val (.int v32), .val (.long v38), .second, .val (.long v39), .second, .val (.ref b41), .val (.ref b178), .val (.long v195), .second] [(.ref b41)])) _
          refine XS.iconst X199.here hx rfl (hb hby at_186) ?_
          show Steps p.tables e below (T199.setTop (mkF m 187 #[.val (.int p0), .val (.int p1), .val (.long q2), .second, .val (.int p3), .val (.long q4), .second, .val (.int (2 : Int32)), .val (.long v27), .second, .val (.long v30), .second, .val (.int v32), .val (.long v38), .second, .val (.long v39), .second, .val (.ref b41), .val (.ref b178), .val (.long v195), .second] [(.int (1 : Int32)), (.ref b41)])) _
          refine X199.laload hx (j := (1 : Int32)) (v := (.long v30)) (by rw [e201]; exact Ar204.1) (State.isArrayOf_alike hZ.alike Ar204.2.1) Ar204.2.2 hin204 hat204 (g := (mkF m 187 #[.val (.int p0), .val (.int p1), .val (.long q2), .second, .val (.int p3), .val (.long q4), .second, .val (.int (2 : Int32)), .val (.long v27), .second, .val (.long v30), .second, .val (.int v32), .val (.long v38), .second, .val (.long v39), .second, .val (.ref b41), .val (.ref b178), .val (.long v195), .second] [(.int (1 : Int32)), (.ref b41)])) rfl rfl (hb hby at_187) _ ?_
          show Steps p.tables e below (T199.setTop (mkF m 188 #[.val (.int p0), .val (.int p1), .val (.long q2), .second, .val (.int p3), .val (.long q4), .second, .val (.int (2 : Int32)), .val (.long v27), .second, .val (.long v30), .second, .val (.int v32), .val (.long v38), .second, .val (.long v39), .second, .val (.ref b41), .val (.ref b178), .val (.long v195), .second] [(.long v30)])) _
          refine XS.iconst X199.here hx rfl (hb hby at_188) ?_
          show Steps p.tables e below (T199.setTop (mkF m 189 #[.val (.int p0), .val (.int p1), .val (.long q2), .second, .val (.int p3), .val (.long q4), .second, .val (.int (2 : Int32)), .val (.long v27), .second, .val (.long v30), .second, .val (.int v32), .val (.long v38), .second, .val (.long v39), .second, .val (.ref b41), .val (.ref b178), .val (.long v195), .second] [(.int (1 : Int32)), (.long v30)])) _
          refine XS.iload X199.here hx rfl (hb hby at_189) rfl ?_
          show Steps p.tables e below (T199.setTop (mkF m 191 #[.val (.int p0), .val (.int p1), .val (.long q2), .second, .val (.int p3), .val (.long q4), .second, .val (.int (2 : Int32)), .val (.long v27), .second, .val (.long v30), .second, .val (.int v32), .val (.long v38), .second, .val (.long v39), .second, .val (.ref b41), .val (.ref b178), .val (.long v195), .second] [(.int (2 : Int32)), (.int (1 : Int32)), (.long v30)])) _
          refine XS.lload X199.here hx rfl (hb hby at_191) rfl ?_
          show Steps p.tables e below (T199.setTop (mkF m 193 #[.val (.int p0), .val (.int p1), .val (.long q2), .second, .val (.int p3), .val (.long q4), .second, .val (.int (2 : Int32)), .val (.long v27), .second, .val (.long v30), .second, .val (.int v32), .val (.long v38), .second, .val (.long v39), .second, .val (.ref b41), .val (.ref b178), .val (.long v195), .second] [(.long v38), (.int (2 : Int32)), (.int (1 : Int32)), (.long v30)])) _
          refine XS.lload X199.here hx rfl (hb hby at_193) rfl ?_
          show Steps p.tables e below (T199.setTop (mkF m 195 #[.val (.int p0), .val (.int p1), .val (.long q2), .second, .val (.int p3), .val (.long q4), .second, .val (.int (2 : Int32)), .val (.long v27), .second, .val (.long v30), .second, .val (.int v32), .val (.long v38), .second, .val (.long v39), .second, .val (.ref b41), .val (.ref b178), .val (.long v195), .second] [(.long v30), (.long v38), (.int (2 : Int32)), (.int (1 : Int32)), (.long v30)])) _
          refine st205 _ ?_
          show Steps p.tables e below (T205.setTop (mkF m 198 #[.val (.int p0), .val (.int p1), .val (.long q2), .second, .val (.int p3), .val (.long q4), .second, .val (.int (2 : Int32)), .val (.long v27), .second, .val (.long v30), .second, .val (.int v32), .val (.long v38), .second, .val (.long v39), .second, .val (.ref b41), .val (.ref b178), .val (.long v195), .second] [(.long (own_f5 (1 : Int32) (2 : Int32) v38 v30)), (.long v30)])) _
          refine XS.lcmp X205.here hx rfl (hb hby at_198) rfl ?_
          show Steps p.tables e below (T205.setTop (mkF m 199 #[.val (.int p0), .val (.int p1), .val (.long q2), .second, .val (.int p3), .val (.long q4), .second, .val (.int (2 : Int32)), .val (.long v27), .second, .val (.long v30), .second, .val (.int v32), .val (.long v38), .second, .val (.long v39), .second, .val (.ref b41), .val (.ref b178), .val (.long v195), .second] [(.int (lcmpW v30 (own_f5 (1 : Int32) (2 : Int32) v38 v30)))])) _
          exact kk)
        by_cases hc209 : v30 = (own_f5 (1 : Int32) (2 : Int32) v38 v30)
        · obtain ⟨cl210, Ar210, q210, S210, M210, H210, G210⟩ := id f189
          have hin210 : ¬ ((2 : Int32) < 0 ∨ cl210.slots.size ≤ ((2 : Int32)).toNatClampNeg) := inb_of S210 ⟨by decide, by decide⟩
          have hat210 : cl210.slots[((2 : Int32)).toNatClampNeg]? = some (.long v38) := H210.at hin210 rfl
          obtain ⟨_, _, ⟨T211, L211, k211, n211⟩, -, X211, ⟨Lc211, hQ211, l211, y211, z211⟩, st211⟩ := Jvm.LawKit.callS X205 hx (y := (⟨"com/example/thyme/thyme/lang/InLocationEvaluatePinLaw", "at", "(IIJJ)J"⟩ : MethodName)) hown (mvT hZ (hw _ (List.mem_of_getElem? (i := 24) rfl))) (mvT hZ (hw _ (List.mem_of_getElem? (i := 25) rfl))) (mvT hZ (hw _ (List.mem_of_getElem? (i := 26) rfl))) (mvT hZ (hw _ (List.mem_of_getElem? (i := 27) rfl))) (by decide) (backOf (W := 2) (own_rm5 l Z av hw [] (2 : Int32) (2 : Int32) v38 v30 T184.heap n0 z191 ) hZ (hw _ (List.mem_of_getElem? (i := 27) rfl)) (hw _ (List.mem_of_getElem? (i := 26) rfl)) (by decide) (by decide)) (g := (mkF m 213 #[.val (.int p0), .val (.int p1), .val (.long q2), .second, .val (.int p3), .val (.long q4), .second, .val (.int (2 : Int32)), .val (.long v27), .second, .val (.long v30), .second, .val (.int v32), .val (.long v38), .second, .val (.long v39), .second, .val (.ref b41), .val (.ref b178), .val (.long v195), .second] [(.long v30), (.long v38), (.int (2 : Int32)), (.int (2 : Int32)), (.long v38)])) rfl (by rw [hml]; rfl) (argsL := [(.int (2 : Int32)), (.int (2 : Int32)), (.long v38), (.long v30)]) (rest := [(.long v38)]) (lenOf own_pd3 rfl) rfl (by show 2 * 0 + _ ≤ _; exact Nat.le_of_eq rfl) (hb hby at_213) (fun _ _ => ⟨rfl, e207, (by decide : 2 + 0 ≤ _), (by decide : 6 + 0 ≤ _)⟩)
          dsimp only [Pt.U, Pt.locs, Pt.cells, Pt.slots] at X211 l211 y211 z211 st211 hQ211
          subst l211 y211 z211
          obtain ⟨rfl, N211q, e213⟩ := hQ211
          have N212 := Fr.app N206 N211q
          have pre214 : ∀ t, Steps p.tables e below (T211.setTop (mkF m 217 #[.val (.int p0), .val (.int p1), .val (.long q2), .second, .val (.int p3), .val (.long q4), .second, .val (.int (2 : Int32)), .val (.long v27), .second, .val (.long v30), .second, .val (.int v32), .val (.long v38), .second, .val (.long v39), .second, .val (.ref b41), .val (.ref b178), .val (.long v195), .second] [(.int (lcmpW v38 (own_f5 (2 : Int32) (2 : Int32) v38 v30)))])) t → Steps p.tables e below (s₁.setTop (entryFrame m #[(.int p0), (.int p1), (.long q2), (.int p3), (.long q4)] maxLocals)) t := fun t kk => pre208 t (by
            show Steps p.tables e below (T205.setTop (mkF m 199 #[.val (.int p0), .val (.int p1), .val (.long q2), .second, .val (.int p3), .val (.long q4), .second, .val (.int (2 : Int32)), .val (.long v27), .second, .val (.long v30), .second, .val (.int v32), .val (.long v38), .second, .val (.long v39), .second, .val (.ref b41), .val (.ref b178), .val (.long v195), .second] [(.int (lcmpW v30 (own_f5 (1 : Int32) (2 : Int32) v38 v30)))])) _
            refine XS.ifNo X205.here hx rfl (hb hby at_199) rfl ((if0 _ _).trans (teq ((lw_eq v30 (own_f5 (1 : Int32) (2 : Int32) v38 v30)).mpr hc209)).2) ?_
            show Steps p.tables e below (T205.setTop (mkF m 202 #[.val (.int p0), .val (.int p1), .val (.long q2), .second, .val (.int p3), .val (.long q4), .second, .val (.int (2 : Int32)), .val (.long v27), .second, .val (.long v30), .second, .val (.int v32), .val (.long v38), .second, .val (.long v39), .second, .val (.ref b41), .val (.ref b178), .val (.long v195), .second] [])) _
            refine XS.aload X205.here hx rfl (hb hby at_202) rfl rfl ?_
            show Steps p.tables e below (T205.setTop (mkF m 204 #[.val (.int p0), .val (.int p1), .val (.long q2), .second, .val (.int p3), .val (.long q4), .second, .val (.int (2 : Int32)), .val (.long v27), .second, .val (.long v30), .second, .val (.int v32), .val (.long v38), .second, .val (.long v39), .second, .val (.ref b41), .val (.ref b178), .val (.long v195), .second] [(.ref b41)])) _
            refine XS.iconst X205.here hx rfl (hb hby at_204) ?_
            show Steps p.tables e below (T205.setTop (mkF m 205 #[.val (.int p0), .val (.int p1), .val (.long q2), .second, .val (.int p3), .val (.long q4), .second, .val (.int (2 : Int32)), .val (.long v27), .second, .val (.long v30), .second, .val (.int v32), .val (.long v38), .second, .val (.long v39), .second, .val (.ref b41), .val (.ref b178), .val (.long v195), .second] [(.int (2 : Int32)), (.ref b41)])) _
            refine X205.laload hx (j := (2 : Int32)) (v := (.long v38)) (by rw [e207]; exact Ar210.1) (State.isArrayOf_alike hZ.alike Ar210.2.1) Ar210.2.2 hin210 hat210 (g := (mkF m 205 #[.val (.int p0), .val (.int p1), .val (.long q2), .second, .val (.int p3), .val (.long q4), .second, .val (.int (2 : Int32)), .val (.long v27), .second, .val (.long v30), .second, .val (.int v32), .val (.long v38), .second, .val (.long v39), .second, .val (.ref b41), .val (.ref b178), .val (.long v195), .second] [(.int (2 : Int32)), (.ref b41)])) rfl rfl (hb hby at_205) _ ?_
            show Steps p.tables e below (T205.setTop (mkF m 206 #[.val (.int p0), .val (.int p1), .val (.long q2), .second, .val (.int p3), .val (.long q4), .second, .val (.int (2 : Int32)), .val (.long v27), .second, .val (.long v30), .second, .val (.int v32), .val (.long v38), .second, .val (.long v39), .second, .val (.ref b41), .val (.ref b178), .val (.long v195), .second] [(.long v38)])) _
            refine XS.iconst X205.here hx rfl (hb hby at_206) ?_
            show Steps p.tables e below (T205.setTop (mkF m 207 #[.val (.int p0), .val (.int p1), .val (.long q2), .second, .val (.int p3), .val (.long q4), .second, .val (.int (2 : Int32)), .val (.long v27), .second, .val (.long v30), .second, .val (.int v32), .val (.long v38), .second, .val (.long v39), .second, .val (.ref b41), .val (.ref b178), .val (.long v195), .second] [(.int (2 : Int32)), (.long v38)])) _
            refine XS.iload X205.here hx rfl (hb hby at_207) rfl ?_
            show Steps p.tables e below (T205.setTop (mkF m 209 #[.val (.int p0), .val (.int p1), .val (.long q2), .second, .val (.int p3), .val (.long q4), .second, .val (.int (2 : Int32)), .val (.long v27), .second, .val (.long v30), .second, .val (.int v32), .val (.long v38), .second, .val (.long v39), .second, .val (.ref b41), .val (.ref b178), .val (.long v195), .second] [(.int (2 : Int32)), (.int (2 : Int32)), (.long v38)])) _
            refine XS.lload X205.here hx rfl (hb hby at_209) rfl ?_
            show Steps p.tables e below (T205.setTop (mkF m 211 #[.val (.int p0), .val (.int p1), .val (.long q2), .second, .val (.int p3), .val (.long q4), .second, .val (.int (2 : Int32)), .val (.long v27), .second, .val (.long v30), .second, .val (.int v32), .val (.long v38), .second, .val (.long v39), .second, .val (.ref b41), .val (.ref b178), .val (.long v195), .second] [(.long v38), (.int (2 : Int32)), (.int (2 : Int32)), (.long v38)])) _
            refine XS.lload X205.here hx rfl (hb hby at_211) rfl ?_
            show Steps p.tables e below (T205.setTop (mkF m 213 #[.val (.int p0), .val (.int p1), .val (.long q2), .second, .val (.int p3), .val (.long q4), .second, .val (.int (2 : Int32)), .val (.long v27), .second, .val (.long v30), .second, .val (.int v32), .val (.long v38), .second, .val (.long v39), .second, .val (.ref b41), .val (.ref b178), .val (.long v195), .second] [(.long v30), (.long v38), (.int (2 : Int32)), (.int (2 : Int32)), (.long v38)])) _
            refine st211 _ ?_
            show Steps p.tables e below (T211.setTop (mkF m 216 #[.val (.int p0), .val (.int p1), .val (.long q2), .second, .val (.int p3), .val (.long q4), .second, .val (.int (2 : Int32)), .val (.long v27), .second, .val (.long v30), .second, .val (.int v32), .val (.long v38), .second, .val (.long v39), .second, .val (.ref b41), .val (.ref b178), .val (.long v195), .second] [(.long (own_f5 (2 : Int32) (2 : Int32) v38 v30)), (.long v38)])) _
            refine XS.lcmp X211.here hx rfl (hb hby at_216) rfl ?_
            show Steps p.tables e below (T211.setTop (mkF m 217 #[.val (.int p0), .val (.int p1), .val (.long q2), .second, .val (.int p3), .val (.long q4), .second, .val (.int (2 : Int32)), .val (.long v27), .second, .val (.long v30), .second, .val (.int v32), .val (.long v38), .second, .val (.long v39), .second, .val (.ref b41), .val (.ref b178), .val (.long v195), .second] [(.int (lcmpW v38 (own_f5 (2 : Int32) (2 : Int32) v38 v30)))])) _
            exact kk)
          by_cases hc215 : v38 = (own_f5 (2 : Int32) (2 : Int32) v38 v30)
          · obtain ⟨cl216, Ar216, q216, S216, M216, H216, G216⟩ := id f189
            have hin216 : ¬ ((3 : Int32) < 0 ∨ cl216.slots.size ≤ ((3 : Int32)).toNatClampNeg) := inb_of S216 ⟨by decide, by decide⟩
            have hat216 : cl216.slots[((3 : Int32)).toNatClampNeg]? = some (.long v30) := H216.at hin216 rfl
            obtain ⟨_, _, ⟨T217, L217, k217, n217⟩, -, X217, ⟨Lc217, hQ217, l217, y217, z217⟩, st217⟩ := Jvm.LawKit.callS X211 hx (y := (⟨"com/example/thyme/thyme/lang/InLocationEvaluatePinLaw", "at", "(IIJJ)J"⟩ : MethodName)) hown (mvT hZ (hw _ (List.mem_of_getElem? (i := 24) rfl))) (mvT hZ (hw _ (List.mem_of_getElem? (i := 25) rfl))) (mvT hZ (hw _ (List.mem_of_getElem? (i := 26) rfl))) (mvT hZ (hw _ (List.mem_of_getElem? (i := 27) rfl))) (by decide) (backOf (W := 2) (own_rm5 l Z av hw [] (3 : Int32) (2 : Int32) v38 v30 T184.heap n0 z191 ) hZ (hw _ (List.mem_of_getElem? (i := 27) rfl)) (hw _ (List.mem_of_getElem? (i := 26) rfl)) (by decide) (by decide)) (g := (mkF m 231 #[.val (.int p0), .val (.int p1), .val (.long q2), .second, .val (.int p3), .val (.long q4), .second, .val (.int (2 : Int32)), .val (.long v27), .second, .val (.long v30), .second, .val (.int v32), .val (.long v38), .second, .val (.long v39), .second, .val (.ref b41), .val (.ref b178), .val (.long v195), .second] [(.long v30), (.long v38), (.int (2 : Int32)), (.int (3 : Int32)), (.long v30)])) rfl (by rw [hml]; rfl) (argsL := [(.int (3 : Int32)), (.int (2 : Int32)), (.long v38), (.long v30)]) (rest := [(.long v30)]) (lenOf own_pd3 rfl) rfl (by show 2 * 0 + _ ≤ _; exact Nat.le_of_eq rfl) (hb hby at_231) (fun _ _ => ⟨rfl, e213, (by decide : 2 + 0 ≤ _), (by decide : 6 + 0 ≤ _)⟩)
            dsimp only [Pt.U, Pt.locs, Pt.cells, Pt.slots] at X217 l217 y217 z217 st217 hQ217
            subst l217 y217 z217
            obtain ⟨rfl, N217q, e219⟩ := hQ217
            have N218 := Fr.app N212 N217q
            have pre220 : ∀ t, Steps p.tables e below (T217.setTop (mkF m 235 #[.val (.int p0), .val (.int p1), .val (.long q2), .second, .val (.int p3), .val (.long q4), .second, .val (.int (2 : Int32)), .val (.long v27), .second, .val (.long v30), .second, .val (.int v32), .val (.long v38), .second, .val (.long v39), .second, .val (.ref b41), .val (.ref b178), .val (.long v195), .second] [(.int (lcmpW v30 (own_f5 (3 : Int32) (2 : Int32) v38 v30)))])) t → Steps p.tables e below (s₁.setTop (entryFrame m #[(.int p0), (.int p1), (.long q2), (.int p3), (.long q4)] maxLocals)) t := fun t kk => pre214 t (by
              show Steps p.tables e below (T211.setTop (mkF m 217 #[.val (.int p0), .val (.int p1), .val (.long q2), .second, .val (.int p3), .val (.long q4), .second, .val (.int (2 : Int32)), .val (.long v27), .second, .val (.long v30), .second, .val (.int v32), .val (.long v38), .second, .val (.long v39), .second, .val (.ref b41), .val (.ref b178), .val (.long v195), .second] [(.int (lcmpW v38 (own_f5 (2 : Int32) (2 : Int32) v38 v30)))])) _
              refine XS.ifNo X211.here hx rfl (hb hby at_217) rfl ((if0 _ _).trans (teq ((lw_eq v38 (own_f5 (2 : Int32) (2 : Int32) v38 v30)).mpr hc215)).2) ?_
              show Steps p.tables e below (T211.setTop (mkF m 220 #[.val (.int p0), .val (.int p1), .val (.long q2), .second, .val (.int p3), .val (.long q4), .second, .val (.int (2 : Int32)), .val (.long v27), .second, .val (.long v30), .second, .val (.int v32), .val (.long v38), .second, .val (.long v39), .second, .val (.ref b41), .val (.ref b178), .val (.long v195), .second] [])) _
              refine XS.aload X211.here hx rfl (hb hby at_220) rfl rfl ?_
              show Steps p.tables e below (T211.setTop (mkF m 222 #[.val (.int p0), .val (.int p1), .val (.long q2), .second, .val (.int p3), .val (.long q4), .second, .val (.int (2 : Int32)), .val (.long v27), .second, .val (.long v30), .second, .val (.int v32), .val (.long v38), .second, .val (.long v39), .second, .val (.ref b41), .val (.ref b178), .val (.long v195), .second] [(.ref b41)])) _
              refine XS.iconst X211.here hx rfl (hb hby at_222) ?_
              show Steps p.tables e below (T211.setTop (mkF m 223 #[.val (.int p0), .val (.int p1), .val (.long q2), .second, .val (.int p3), .val (.long q4), .second, .val (.int (2 : Int32)), .val (.long v27), .second, .val (.long v30), .second, .val (.int v32), .val (.long v38), .second, .val (.long v39), .second, .val (.ref b41), .val (.ref b178), .val (.long v195), .second] [(.int (3 : Int32)), (.ref b41)])) _
              refine X211.laload hx (j := (3 : Int32)) (v := (.long v30)) (by rw [e213]; exact Ar216.1) (State.isArrayOf_alike hZ.alike Ar216.2.1) Ar216.2.2 hin216 hat216 (g := (mkF m 223 #[.val (.int p0), .val (.int p1), .val (.long q2), .second, .val (.int p3), .val (.long q4), .second, .val (.int (2 : Int32)), .val (.long v27), .second, .val (.long v30), .second, .val (.int v32), .val (.long v38), .second, .val (.long v39), .second, .val (.ref b41), .val (.ref b178), .val (.long v195), .second] [(.int (3 : Int32)), (.ref b41)])) rfl rfl (hb hby at_223) _ ?_
              show Steps p.tables e below (T211.setTop (mkF m 224 #[.val (.int p0), .val (.int p1), .val (.long q2), .second, .val (.int p3), .val (.long q4), .second, .val (.int (2 : Int32)), .val (.long v27), .second, .val (.long v30), .second, .val (.int v32), .val (.long v38), .second, .val (.long v39), .second, .val (.ref b41), .val (.ref b178), .val (.long v195), .second] [(.long v30)])) _
              refine XS.iconst X211.here hx rfl (hb hby at_224) ?_
              show Steps p.tables e below (T211.setTop (mkF m 225 #[.val (.int p0), .val (.int p1), .val (.long q2), .second, .val (.int p3), .val (.long q4), .second, .val (.int (2 : Int32)), .val (.long v27), .second, .val (.long v30), .second, .val (.int v32), .val (.long v38), .second, .val (.long v39), .second, .val (.ref b41), .val (.ref b178), .val (.long v195), .second] [(.int (3 : Int32)), (.long v30)])) _
              refine XS.iload X211.here hx rfl (hb hby at_225) rfl ?_
              show Steps p.tables e below (T211.setTop (mkF m 227 #[.val (.int p0), .val (.int p1), .val (.long q2), .second, .val (.int p3), .val (.long q4), .second, .val (.int (2 : Int32)), .val (.long v27), .second, .val (.long v30), .second, .val (.int v32), .val (.long v38), .second, .val (.long v39), .second, .val (.ref b41), .val (.ref b178), .val (.long v195), .second] [(.int (2 : Int32)), (.int (3 : Int32)), (.long v30)])) _
              refine XS.lload X211.here hx rfl (hb hby at_227) rfl ?_
              show Steps p.tables e below (T211.setTop (mkF m 229 #[.val (.int p0), .val (.int p1), .val (.long q2), .second, .val (.int p3), .val (.long q4), .second, .val (.int (2 : Int32)), .val (.long v27), .second, .val (.long v30), .second, .val (.int v32), .val (.long v38), .second, .val (.long v39), .second, .val (.ref b41), .val (.ref b178), .val (.long v195), .second] [(.long v38), (.int (2 : Int32)), (.int (3 : Int32)), (.long v30)])) _
              refine XS.lload X211.here hx rfl (hb hby at_229) rfl ?_
              show Steps p.tables e below (T211.setTop (mkF m 231 #[.val (.int p0), .val (.int p1), .val (.long q2), .second, .val (.int p3), .val (.long q4), .second, .val (.int (2 : Int32)), .val (.long v27), .second, .val (.long v30), .second, .val (.int v32), .val (.long v38), .second, .val (.long v39), .second, .val (.ref b41), .val (.ref b178), .val (.long v195), .second] [(.long v30), (.long v38), (.int (2 : Int32)), (.int (3 : Int32)), (.long v30)])) _
              refine st217 _ ?_
              show Steps p.tables e below (T217.setTop (mkF m 234 #[.val (.int p0), .val (.int p1), .val (.long q2), .second, .val (.int p3), .val (.long q4), .second, .val (.int (2 : Int32)), .val (.long v27), .second, .val (.long v30), .second, .val (.int v32), .val (.long v38), .second, .val (.long v39), .second, .val (.ref b41), .val (.ref b178), .val (.long v195), .second] [(.long (own_f5 (3 : Int32) (2 : Int32) v38 v30)), (.long v30)])) _
              refine XS.lcmp X217.here hx rfl (hb hby at_234) rfl ?_
              show Steps p.tables e below (T217.setTop (mkF m 235 #[.val (.int p0), .val (.int p1), .val (.long q2), .second, .val (.int p3), .val (.long q4), .second, .val (.int (2 : Int32)), .val (.long v27), .second, .val (.long v30), .second, .val (.int v32), .val (.long v38), .second, .val (.long v39), .second, .val (.ref b41), .val (.ref b178), .val (.long v195), .second] [(.int (lcmpW v30 (own_f5 (3 : Int32) (2 : Int32) v38 v30)))])) _
              exact kk)
            by_cases hc221 : v30 = (own_f5 (3 : Int32) (2 : Int32) v38 v30)
            · obtain ⟨fs, hr, hrun, hended, hW, hsame⟩ := X217.leave (v := some (.int (1 : Int32))) (fun h => by rw [Bd.returns] at h; cases h)
              refine ⟨_, _, pre220 _ ?_, hrun, hended, _, _, rfl, ?_, ⟨_, rfl⟩, hW, hsame.mono (by decide) (by decide)⟩
              · show Steps p.tables e below (T217.setTop (mkF m 235 #[.val (.int p0), .val (.int p1), .val (.long q2), .second, .val (.int p3), .val (.long q4), .second, .val (.int (2 : Int32)), .val (.long v27), .second, .val (.long v30), .second, .val (.int v32), .val (.long v38), .second, .val (.long v39), .second, .val (.ref b41), .val (.ref b178), .val (.long v195), .second] [(.int (lcmpW v30 (own_f5 (3 : Int32) (2 : Int32) v38 v30)))])) _
                refine XS.ifNo X217.here hx rfl (hb hby at_235) rfl ((if0 _ _).trans (teq ((lw_eq v30 (own_f5 (3 : Int32) (2 : Int32) v38 v30)).mpr hc221)).2) ?_
                show Steps p.tables e below (T217.setTop (mkF m 238 #[.val (.int p0), .val (.int p1), .val (.long q2), .second, .val (.int p3), .val (.long q4), .second, .val (.int (2 : Int32)), .val (.long v27), .second, .val (.long v30), .second, .val (.int v32), .val (.long v38), .second, .val (.long v39), .second, .val (.ref b41), .val (.ref b178), .val (.long v195), .second] [])) _
                refine XS.iconst X217.here hx rfl (hb hby at_238) ?_
                show Steps p.tables e below (T217.setTop (mkF m 239 #[.val (.int p0), .val (.int p1), .val (.long q2), .second, .val (.int p3), .val (.long q4), .second, .val (.int (2 : Int32)), .val (.long v27), .second, .val (.long v30), .second, .val (.int v32), .val (.long v38), .second, .val (.long v39), .second, .val (.ref b41), .val (.ref b178), .val (.long v195), .second] [(.int (1 : Int32))])) _
                refine XS.goto X217.here hx rfl (pc0 := 239) (pc' := 243) rfl (hb hby at_239) (by decide) (by decide) ?_
                show Steps p.tables e below (T217.setTop (mkF m 243 #[.val (.int p0), .val (.int p1), .val (.long q2), .second, .val (.int p3), .val (.long q4), .second, .val (.int (2 : Int32)), .val (.long v27), .second, .val (.long v30), .second, .val (.int v32), .val (.long v38), .second, .val (.long v39), .second, .val (.ref b41), .val (.ref b178), .val (.long v195), .second] [(.int (1 : Int32))])) _
                exact retN X217 hx (t := .boolean) Bd.returns (by simp) (hb hby at_243) hr
              · show own_Q0 Z p0 p1 q2 p3 q4 h0 n0 _ T217.heap _
                rw [e219]
                exact ⟨rfl, N218⟩
            · exact (own_leaf0_14 p0 p1 q2 p3 q4 hv26 v27 hv27 v30 hv30 v32 hv32 v38 hv38 v39 hv39 v195 hv195 hc197 hc203 hc209 hc215 hc221).elim
          · exact (own_leaf0_15 p0 p1 q2 p3 q4 hv26 v27 hv27 v30 hv30 v32 hv32 v38 hv38 v39 hv39 v195 hv195 hc197 hc203 hc209 hc215).elim
        · exact (own_leaf0_16 p0 p1 q2 p3 q4 hv26 v27 hv27 v30 hv30 v32 hv32 v38 hv38 v39 hv39 v195 hv195 hc197 hc203 hc209).elim
      · exact (own_leaf0_17 p0 p1 q2 p3 q4 hv26 v27 hv27 v30 hv30 v32 hv32 v38 hv38 v39 hv39 v195 hv195 hc197 hc203).elim
    · exact (own_leaf0_18 p0 p1 q2 p3 q4 hv26 v27 hv27 v30 hv30 v32 hv32 v38 hv38 v39 hv39 v195 hv195 hc197).elim
  · subst hs71
    obtain ⟨cl222, Ar222, q222, S222, M222, H222, G222⟩ := id f68
    have hin222 : ¬ ((3 : Int32) < 0 ∨ cl222.slots.size ≤ ((3 : Int32)).toNatClampNeg) := inb_of S222 ⟨by decide, by decide⟩
    obtain ⟨T223, h223, X223, e223, W223, st223⟩ := stJ X64 hx hZ e64 Ar222 (j := (3 : Int32)) hin222 (g := (mkF m 136 #[.val (.int p0), .val (.int p1), .val (.long q2), .second, .val (.int p3), .val (.long q4), .second, .val (.int (3 : Int32)), .val (.long v27), .second, .val (.long v30), .second, .val (.int v32), .val (.long v38), .second, .val (.long v39), .second, .val (.ref b41), .unset, .unset, .unset] [(.long v38), (.int (3 : Int32)), (.ref b41)])) rfl rfl (hb hby at_136)
    have K224 : Keep h0 h223 [] := K65.wr W223 (Or.inr sz_b41)
    have z225 : n0 ≤ h223.size := Nat.le_trans z66 (Keep.of_wr W223).1
    have N226 := Fr.snoc X223 N67 g_b41
    have f227 : Arv Z h223 b41 k41 .long (4 : Int32) [(.long v30), (.long v30), (.long v30), (.long v38)] (.long (0 : Int64)) := Arv.set Ar222 q222 S222 M222 H222 G222 rfl W223 3 rfl (Nat.le_of_ble_eq_true rfl)
    obtain ⟨T228, h228, X228, e228, E228, A228, D228, -, st228⟩ := newO X223 hx hZ hown (hw _ (List.mem_of_getElem? (i := 1) rfl)) (hw _ (List.mem_of_getElem? (i := 2) rfl)) (hw _ (List.mem_of_getElem? (i := 3) rfl)) e223 (g := (mkF m 137 #[.val (.int p0), .val (.int p1), .val (.long q2), .second, .val (.int p3), .val (.long q4), .second, .val (.int (3 : Int32)), .val (.long v27), .second, .val (.long v30), .second, .val (.int v32), .val (.long v38), .second, .val (.long v39), .second, .val (.ref b41), .unset, .unset, .unset] [])) rfl (hb hby at_137) (by decide) (by decide)
    obtain ⟨b228, g228⟩ : ∃ z, z = h223.size := ⟨_, rfl⟩
    have ne_b41_b228 : b41 ≠ b228 := Nat.ne_of_lt (Nat.lt_of_lt_of_le f227.lt (Nat.le_of_eq g228.symm))
    have g_b228 : n0 ≤ b228 := Nat.le_trans z225 (Nat.le_of_eq g228.symm)
    have sz_b228 : h0.size ≤ b228 := Nat.le_trans K224.1 (Nat.le_of_eq g228.symm)
    rw [← g228] at A228 D228 st228
    have f229 := f227.ext E228
    have z230 : n0 ≤ h228.size := Nat.le_trans z225 E228.1
    have K231 : Keep h0 h228 [] := K224.ext E228
    have f232 : Fld Z h228 b228 "com/example/thyme/thyme/lang/Expression$InLocation" "slot" "I" (.int (0 : Int32)) := D228 (Or.inr (hw _ (List.mem_of_getElem? (i := 16) rfl))) (ty := .int) (by decide)
    have f233 : Fld Z h228 b228 "com/example/thyme/thyme/lang/Expression$InLocation" "location" "I" (.int (0 : Int32)) := D228 (Or.inr (hw _ (List.mem_of_getElem? (i := 18) rfl))) (ty := .int) (by decide)
    obtain ⟨_, _, ⟨T234, L234, k234, n234⟩, -, X234, ⟨Lc234, hQ234, l234, y234, z234⟩, st234⟩ := X228.specialBack hx (y := (⟨"com/example/thyme/thyme/lang/Expression$InLocation", "<init>", "(II)V"⟩ : MethodName)) rfl hown (mvT hZ (hw _ (List.mem_of_getElem? (i := 4) rfl))) (mvT hZ (hw _ (List.mem_of_getElem? (i := 5) rfl))) (mvT hZ (hw _ (List.mem_of_getElem? (i := 6) rfl))) (by decide) (backOf (W := 1) (own_rm1 l Z av hw [] b228 (3 : Int32) p1 h228 n0 z230 A228 f232 f233 g_b228) hZ (hw _ (List.mem_of_getElem? (i := 6) rfl)) (hw _ (List.mem_of_getElem? (i := 3) rfl)) (by decide) (by decide)) (g := (mkF m 144 #[.val (.int p0), .val (.int p1), .val (.long q2), .second, .val (.int p3), .val (.long q4), .second, .val (.int (3 : Int32)), .val (.long v27), .second, .val (.long v30), .second, .val (.int v32), .val (.long v38), .second, .val (.long v39), .second, .val (.ref b41), .unset, .unset, .unset] [(.int p1), (.int (3 : Int32)), (.ref b228), (.ref b228)])) rfl (by rw [hml]; rfl) (Steps.refl _) (a := b228) (argsL := [(.int (3 : Int32)), (.int p1)]) (rest := [(.ref b228)]) (lenOf own_pd1 rfl) rfl (by show 2 * 0 + _ ≤ _; exact Nat.le_of_eq rfl) (hb hby at_144) (fun _ _ => ⟨rfl, e228, (by decide : 2 + 0 ≤ _), (by decide : 6 + 0 ≤ _)⟩)
    dsimp only [Pt.U, Pt.locs, Pt.cells, Pt.slots] at X234 l234 y234 z234 st234 hQ234
    subst l234 y234 z234
    obtain ⟨rfl, N234q, K234, f236, f237, f238⟩ := hQ234
    have f239 := f229.keep K234 (ninS ne_b41_b228 nin0)
    have K240 : Keep h0 T234.heap [] := K231.trans K234 (allS (Or.inr sz_b228) all0)
    have z241 : n0 ≤ T234.heap.size := Nat.le_trans z230 K234.1
    have N235 := Fr.app N226 N234q
    obtain ⟨cq242, kq242, q242a, q242b, q242c⟩ := isOf hZ rfl f236
    obtain ⟨_, _, ⟨T242, L242, k242, n242⟩, -, X242, ⟨Lc242, hQ242, l242, y242, z242⟩, st242⟩ := X234.virtualBack hx (y := (⟨"com/example/thyme/thyme/lang/Expression$InLocation", "evaluate", "([J)J"⟩ : MethodName)) (z := (⟨"com/example/thyme/thyme/lang/Expression$InLocation", "evaluate", "([J)J"⟩ : MethodName)) hown (mvT hZ (hw _ (List.mem_of_getElem? (i := 19) rfl))) (mvT hZ (hw _ (List.mem_of_getElem? (i := 20) rfl))) (notFace_of_selects (args := #[]) (mvT hZ (hw _ (List.mem_of_getElem? (i := 22) rfl)))) (mvT hZ (hw _ (List.mem_of_getElem? (i := 22) rfl))) (mvT hZ (hw _ (List.mem_of_getElem? (i := 21) rfl))) (by decide) (backOf (W := 0) (own_rm4 l Z av hw [] b228 b41 ((3 : Int32)) (p1) (k41) ((4 : Int32)) ([(.long v30), (.long v30), (.long v30), (.long v38)]) ((.long (0 : Int64))) (v38) T234.heap n0 z241 f237 f238 f239 (⟨by decide, by decide⟩) (rfl)) hZ (hw _ (List.mem_of_getElem? (i := 23) rfl)) (hw _ (List.mem_of_getElem? (i := 3) rfl)) (by decide) (by decide)) q242a q242c (g := (mkF m 153 #[.val (.int p0), .val (.int p1), .val (.long q2), .second, .val (.int p3), .val (.long q4), .second, .val (.int (3 : Int32)), .val (.long v27), .second, .val (.long v30), .second, .val (.int v32), .val (.long v38), .second, .val (.long v39), .second, .val (.ref b41), .val (.ref b228), .unset, .unset] [(.ref b41), (.ref b228)])) rfl (by rw [hml]; rfl) (Steps.refl _) (argsL := [(.ref b41)]) (rest := []) (lenOf own_pd2 rfl) rfl (by show 2 * 0 + _ ≤ _; exact Nat.le_of_eq rfl) (hb hby at_153) (fun _ _ => ⟨rfl, rfl, (by decide : 2 + 0 ≤ _), (by decide : 6 + 0 ≤ _)⟩)
    dsimp only [Pt.U, Pt.locs, Pt.cells, Pt.slots] at X242 l242 y242 z242 st242 hQ242
    subst l242 y242 z242
    obtain ⟨rfl, N242q, e244⟩ := hQ242
    have N243 := Fr.app N235 N242q
    obtain ⟨v245, hv245⟩ : ∃ z : Int64, z = (own_f4 v38 p1) := ⟨_, rfl⟩
    have pre246 : ∀ t, Steps p.tables e below (T242.setTop (mkF m 163 #[.val (.int p0), .val (.int p1), .val (.long q2), .second, .val (.int p3), .val (.long q4), .second, .val (.int (3 : Int32)), .val (.long v27), .second, .val (.long v30), .second, .val (.int v32), .val (.long v38), .second, .val (.long v39), .second, .val (.ref b41), .val (.ref b228), .val (.long v245), .second] [(.int (lcmpW v245 v39))])) t → Steps p.tables e below (s₁.setTop (entryFrame m #[(.int p0), (.int p1), (.long q2), (.int p3), (.long q4)] maxLocals)) t := fun t kk => pre70 t (by
      show Steps p.tables e below (T64.setTop (mkF m 130 #[.val (.int p0), .val (.int p1), .val (.long q2), .second, .val (.int p3), .val (.long q4), .second, .val (.int (3 : Int32)), .val (.long v27), .second, .val (.long v30), .second, .val (.int v32), .val (.long v38), .second, .val (.long v39), .second, .val (.ref b41), .unset, .unset, .unset] [])) _
      refine XS.aload X64.here hx rfl (hb hby at_130) rfl rfl ?_
      show Steps p.tables e below (T64.setTop (mkF m 132 #[.val (.int p0), .val (.int p1), .val (.long q2), .second, .val (.int p3), .val (.long q4), .second, .val (.int (3 : Int32)), .val (.long v27), .second, .val (.long v30), .second, .val (.int v32), .val (.long v38), .second, .val (.long v39), .second, .val (.ref b41), .unset, .unset, .unset] [(.ref b41)])) _
      refine XS.iload X64.here hx rfl (hb hby at_132) rfl ?_
      show Steps p.tables e below (T64.setTop (mkF m 134 #[.val (.int p0), .val (.int p1), .val (.long q2), .second, .val (.int p3), .val (.long q4), .second, .val (.int (3 : Int32)), .val (.long v27), .second, .val (.long v30), .second, .val (.int v32), .val (.long v38), .second, .val (.long v39), .second, .val (.ref b41), .unset, .unset, .unset] [(.int (3 : Int32)), (.ref b41)])) _
      refine XS.lload X64.here hx rfl (hb hby at_134) rfl ?_
      show Steps p.tables e below (T64.setTop (mkF m 136 #[.val (.int p0), .val (.int p1), .val (.long q2), .second, .val (.int p3), .val (.long q4), .second, .val (.int (3 : Int32)), .val (.long v27), .second, .val (.long v30), .second, .val (.int v32), .val (.long v38), .second, .val (.long v39), .second, .val (.ref b41), .unset, .unset, .unset] [(.long v38), (.int (3 : Int32)), (.ref b41)])) _
      refine st223 _ ?_
      show Steps p.tables e below (T223.setTop (mkF m 137 #[.val (.int p0), .val (.int p1), .val (.long q2), .second, .val (.int p3), .val (.long q4), .second, .val (.int (3 : Int32)), .val (.long v27), .second, .val (.long v30), .second, .val (.int v32), .val (.long v38), .second, .val (.long v39), .second, .val (.ref b41), .unset, .unset, .unset] [])) _
      refine st228 _ ?_
      show Steps p.tables e below (T228.setTop (mkF m 140 #[.val (.int p0), .val (.int p1), .val (.long q2), .second, .val (.int p3), .val (.long q4), .second, .val (.int (3 : Int32)), .val (.long v27), .second, .val (.long v30), .second, .val (.int v32), .val (.long v38), .second, .val (.long v39), .second, .val (.ref b41), .unset, .unset, .unset] [(.ref b228)])) _
      refine XS.dup X228.here hx rfl (hb hby at_140) rfl rfl ?_
      show Steps p.tables e below (T228.setTop (mkF m 141 #[.val (.int p0), .val (.int p1), .val (.long q2), .second, .val (.int p3), .val (.long q4), .second, .val (.int (3 : Int32)), .val (.long v27), .second, .val (.long v30), .second, .val (.int v32), .val (.long v38), .second, .val (.long v39), .second, .val (.ref b41), .unset, .unset, .unset] [(.ref b228), (.ref b228)])) _
      refine XS.iload X228.here hx rfl (hb hby at_141) rfl ?_
      show Steps p.tables e below (T228.setTop (mkF m 143 #[.val (.int p0), .val (.int p1), .val (.long q2), .second, .val (.int p3), .val (.long q4), .second, .val (.int (3 : Int32)), .val (.long v27), .second, .val (.long v30), .second, .val (.int v32), .val (.long v38), .second, .val (.long v39), .second, .val (.ref b41), .unset, .unset, .unset] [(.int (3 : Int32)), (.ref b228), (.ref b228)])) _
      refine XS.iloadN X228.here hx rfl (hb hby at_143) rfl ?_
      show Steps p.tables e below (T228.setTop (mkF m 144 #[.val (.int p0), .val (.int p1), .val (.long q2), .second, .val (.int p3), .val (.long q4), .second, .val (.int (3 : Int32)), .val (.long v27), .second, .val (.long v30), .second, .val (.int v32), .val (.long v38), .second, .val (.long v39), .second, .val (.ref b41), .unset, .unset, .unset] [(.int p1), (.int (3 : Int32)), (.ref b228), (.ref b228)])) _
      refine st234.trans ?_
      show Steps p.tables e below (T234.setTop (mkF m 147 #[.val (.int p0), .val (.int p1), .val (.long q2), .second, .val (.int p3), .val (.long q4), .second, .val (.int (3 : Int32)), .val (.long v27), .second, .val (.long v30), .second, .val (.int v32), .val (.long v38), .second, .val (.long v39), .second, .val (.ref b41), .unset, .unset, .unset] [(.ref b228)])) _
      refine XS.astore X234.here hx rfl (hb hby at_147) rfl rfl (l' := #[.val (.int p0), .val (.int p1), .val (.long q2), .second, .val (.int p3), .val (.long q4), .second, .val (.int (3 : Int32)), .val (.long v27), .second, .val (.long v30), .second, .val (.int v32), .val (.long v38), .second, .val (.long v39), .second, .val (.ref b41), .val (.ref b228), .unset, .unset]) rfl ?_
      show Steps p.tables e below (T234.setTop (mkF m 149 #[.val (.int p0), .val (.int p1), .val (.long q2), .second, .val (.int p3), .val (.long q4), .second, .val (.int (3 : Int32)), .val (.long v27), .second, .val (.long v30), .second, .val (.int v32), .val (.long v38), .second, .val (.long v39), .second, .val (.ref b41), .val (.ref b228), .unset, .unset] [])) _
      refine XS.aload X234.here hx rfl (hb hby at_149) rfl rfl ?_
      show Steps p.tables e below (T234.setTop (mkF m 151 #[.val (.int p0), .val (.int p1), .val (.long q2), .second, .val (.int p3), .val (.long q4), .second, .val (.int (3 : Int32)), .val (.long v27), .second, .val (.long v30), .second, .val (.int v32), .val (.long v38), .second, .val (.long v39), .second, .val (.ref b41), .val (.ref b228), .unset, .unset] [(.ref b228)])) _
      refine XS.aload X234.here hx rfl (hb hby at_151) rfl rfl ?_
      show Steps p.tables e below (T234.setTop (mkF m 153 #[.val (.int p0), .val (.int p1), .val (.long q2), .second, .val (.int p3), .val (.long q4), .second, .val (.int (3 : Int32)), .val (.long v27), .second, .val (.long v30), .second, .val (.int v32), .val (.long v38), .second, .val (.long v39), .second, .val (.ref b41), .val (.ref b228), .unset, .unset] [(.ref b41), (.ref b228)])) _
      refine st242.trans ?_
      show Steps p.tables e below (T242.setTop (mkF m 156 #[.val (.int p0), .val (.int p1), .val (.long q2), .second, .val (.int p3), .val (.long q4), .second, .val (.int (3 : Int32)), .val (.long v27), .second, .val (.long v30), .second, .val (.int v32), .val (.long v38), .second, .val (.long v39), .second, .val (.ref b41), .val (.ref b228), .unset, .unset] [(.long (own_f4 v38 p1))])) _
      refine castTop (congrArg (fun z : Int64 => mkF m 156 #[.val (.int p0), .val (.int p1), .val (.long q2), .second, .val (.int p3), .val (.long q4), .second, .val (.int (3 : Int32)), .val (.long v27), .second, .val (.long v30), .second, .val (.int v32), .val (.long v38), .second, .val (.long v39), .second, .val (.ref b41), .val (.ref b228), .unset, .unset] [(.long z)]) hv245.symm) ?_
      show Steps p.tables e below (T242.setTop (mkF m 156 #[.val (.int p0), .val (.int p1), .val (.long q2), .second, .val (.int p3), .val (.long q4), .second, .val (.int (3 : Int32)), .val (.long v27), .second, .val (.long v30), .second, .val (.int v32), .val (.long v38), .second, .val (.long v39), .second, .val (.ref b41), .val (.ref b228), .unset, .unset] [(.long v245)])) _
      refine XS.lstore X242.here hx rfl (hb hby at_156) rfl (l' := #[.val (.int p0), .val (.int p1), .val (.long q2), .second, .val (.int p3), .val (.long q4), .second, .val (.int (3 : Int32)), .val (.long v27), .second, .val (.long v30), .second, .val (.int v32), .val (.long v38), .second, .val (.long v39), .second, .val (.ref b41), .val (.ref b228), .val (.long v245), .second]) rfl ?_
      show Steps p.tables e below (T242.setTop (mkF m 158 #[.val (.int p0), .val (.int p1), .val (.long q2), .second, .val (.int p3), .val (.long q4), .second, .val (.int (3 : Int32)), .val (.long v27), .second, .val (.long v30), .second, .val (.int v32), .val (.long v38), .second, .val (.long v39), .second, .val (.ref b41), .val (.ref b228), .val (.long v245), .second] [])) _
      refine XS.lload X242.here hx rfl (hb hby at_158) rfl ?_
      show Steps p.tables e below (T242.setTop (mkF m 160 #[.val (.int p0), .val (.int p1), .val (.long q2), .second, .val (.int p3), .val (.long q4), .second, .val (.int (3 : Int32)), .val (.long v27), .second, .val (.long v30), .second, .val (.int v32), .val (.long v38), .second, .val (.long v39), .second, .val (.ref b41), .val (.ref b228), .val (.long v245), .second] [(.long v245)])) _
      refine XS.lload X242.here hx rfl (hb hby at_160) rfl ?_
      show Steps p.tables e below (T242.setTop (mkF m 162 #[.val (.int p0), .val (.int p1), .val (.long q2), .second, .val (.int p3), .val (.long q4), .second, .val (.int (3 : Int32)), .val (.long v27), .second, .val (.long v30), .second, .val (.int v32), .val (.long v38), .second, .val (.long v39), .second, .val (.ref b41), .val (.ref b228), .val (.long v245), .second] [(.long v39), (.long v245)])) _
      refine XS.lcmp X242.here hx rfl (hb hby at_162) rfl ?_
      show Steps p.tables e below (T242.setTop (mkF m 163 #[.val (.int p0), .val (.int p1), .val (.long q2), .second, .val (.int p3), .val (.long q4), .second, .val (.int (3 : Int32)), .val (.long v27), .second, .val (.long v30), .second, .val (.int v32), .val (.long v38), .second, .val (.long v39), .second, .val (.ref b41), .val (.ref b228), .val (.long v245), .second] [(.int (lcmpW v245 v39))])) _
      exact kk)
    by_cases hc247 : v245 = v39
    · obtain ⟨cl248, Ar248, q248, S248, M248, H248, G248⟩ := id f239
      have hin248 : ¬ ((0 : Int32) < 0 ∨ cl248.slots.size ≤ ((0 : Int32)).toNatClampNeg) := inb_of S248 ⟨by decide, by decide⟩
      have hat248 : cl248.slots[((0 : Int32)).toNatClampNeg]? = some (.long v30) := H248.at hin248 rfl
      obtain ⟨_, _, ⟨T249, L249, k249, n249⟩, -, X249, ⟨Lc249, hQ249, l249, y249, z249⟩, st249⟩ := Jvm.LawKit.callS X242 hx (y := (⟨"com/example/thyme/thyme/lang/InLocationEvaluatePinLaw", "at", "(IIJJ)J"⟩ : MethodName)) hown (mvT hZ (hw _ (List.mem_of_getElem? (i := 24) rfl))) (mvT hZ (hw _ (List.mem_of_getElem? (i := 25) rfl))) (mvT hZ (hw _ (List.mem_of_getElem? (i := 26) rfl))) (mvT hZ (hw _ (List.mem_of_getElem? (i := 27) rfl))) (by decide) (backOf (W := 2) (own_rm5 l Z av hw [] (0 : Int32) (3 : Int32) v38 v30 T234.heap n0 z241 ) hZ (hw _ (List.mem_of_getElem? (i := 27) rfl)) (hw _ (List.mem_of_getElem? (i := 26) rfl)) (by decide) (by decide)) (g := (mkF m 177 #[.val (.int p0), .val (.int p1), .val (.long q2), .second, .val (.int p3), .val (.long q4), .second, .val (.int (3 : Int32)), .val (.long v27), .second, .val (.long v30), .second, .val (.int v32), .val (.long v38), .second, .val (.long v39), .second, .val (.ref b41), .val (.ref b228), .val (.long v245), .second] [(.long v30), (.long v38), (.int (3 : Int32)), (.int (0 : Int32)), (.long v30)])) rfl (by rw [hml]; rfl) (argsL := [(.int (0 : Int32)), (.int (3 : Int32)), (.long v38), (.long v30)]) (rest := [(.long v30)]) (lenOf own_pd3 rfl) rfl (by show 2 * 0 + _ ≤ _; exact Nat.le_of_eq rfl) (hb hby at_177) (fun _ _ => ⟨rfl, e244, (by decide : 2 + 0 ≤ _), (by decide : 6 + 0 ≤ _)⟩)
      dsimp only [Pt.U, Pt.locs, Pt.cells, Pt.slots] at X249 l249 y249 z249 st249 hQ249
      subst l249 y249 z249
      obtain ⟨rfl, N249q, e251⟩ := hQ249
      have N250 := Fr.app N243 N249q
      have pre252 : ∀ t, Steps p.tables e below (T249.setTop (mkF m 181 #[.val (.int p0), .val (.int p1), .val (.long q2), .second, .val (.int p3), .val (.long q4), .second, .val (.int (3 : Int32)), .val (.long v27), .second, .val (.long v30), .second, .val (.int v32), .val (.long v38), .second, .val (.long v39), .second, .val (.ref b41), .val (.ref b228), .val (.long v245), .second] [(.int (lcmpW v30 (own_f5 (0 : Int32) (3 : Int32) v38 v30)))])) t → Steps p.tables e below (s₁.setTop (entryFrame m #[(.int p0), (.int p1), (.long q2), (.int p3), (.long q4)] maxLocals)) t := fun t kk => pre246 t (by
        show Steps p.tables e below (T242.setTop (mkF m 163 #[.val (.int p0), .val (.int p1), .val (.long q2), .second, .val (.int p3), .val (.long q4), .second, .val (.int (3 : Int32)), .val (.long v27), .second, .val (.long v30), .second, .val (.int v32), .val (.long v38), .second, .val (.long v39), .second, .val (.ref b41), .val (.ref b228), .val (.long v245), .second] [(.int (lcmpW v245 v39))])) _
        refine XS.ifNo X242.here hx rfl (hb hby at_163) rfl ((if0 _ _).trans (teq ((lw_eq v245 v39).mpr hc247)).2) ?_
        show Steps p.tables e below (T242.setTop (mkF m 166 #[.val (.int p0), .val (.int p1), .val (.long q2), .second, .val (.int p3), .val (.long q4), .second, .val (.int (3 : Int32)), .val (.long v27), .second, .val (.long v30), .second, .val (.int v32), .val (.long v38), .second, .val (.long v39), .second, .val (.ref b41), .val (.ref b228), .val (.long v245), .second] [])) _
        refine XS.aload X242.here hx rfl (hb hby at_166) rfl rfl ?_
        show Steps p.tables e below (T242.setTop (mkF m 168 #[.val (.int p0), .val (.int p1), .val (.long q2), .second, .val (.int p3), .val (.long q4), .second, .val (.int (3 : Int32)), .val (.long v27), .second, .val (.long v30), .second, .val (.int v32), .val (.long v38), .second, .val (.long v39), .second, .val (.ref b41), .val (.ref b228), .val (.long v245), .second] [(.ref b41)])) _
        refine XS.iconst X242.here hx rfl (hb hby at_168) ?_
        show Steps p.tables e below (T242.setTop (mkF m 169 #[.val (.int p0), .val (.int p1), .val (.long q2), .second, .val (.int p3), .val (.long q4), .second, .val (.int (3 : Int32)), .val (.long v27), .second, .val (.long v30), .second, .val (.int v32), .val (.long v38), .second, .val (.long v39), .second, .val (.ref b41), .val (.ref b228), .val (.long v245), .second] [(.int (0 : Int32)), (.ref b41)])) _
        refine X242.laload hx (j := (0 : Int32)) (v := (.long v30)) (by rw [e244]; exact Ar248.1) (State.isArrayOf_alike hZ.alike Ar248.2.1) Ar248.2.2 hin248 hat248 (g := (mkF m 169 #[.val (.int p0), .val (.int p1), .val (.long q2), .second, .val (.int p3), .val (.long q4), .second, .val (.int (3 : Int32)), .val (.long v27), .second, .val (.long v30), .second, .val (.int v32), .val (.long v38), .second, .val (.long v39), .second, .val (.ref b41), .val (.ref b228), .val (.long v245), .second] [(.int (0 : Int32)), (.ref b41)])) rfl rfl (hb hby at_169) _ ?_
        show Steps p.tables e below (T242.setTop (mkF m 170 #[.val (.int p0), .val (.int p1), .val (.long q2), .second, .val (.int p3), .val (.long q4), .second, .val (.int (3 : Int32)), .val (.long v27), .second, .val (.long v30), .second, .val (.int v32), .val (.long v38), .second, .val (.long v39), .second, .val (.ref b41), .val (.ref b228), .val (.long v245), .second] [(.long v30)])) _
        refine XS.iconst X242.here hx rfl (hb hby at_170) ?_
        show Steps p.tables e below (T242.setTop (mkF m 171 #[.val (.int p0), .val (.int p1), .val (.long q2), .second, .val (.int p3), .val (.long q4), .second, .val (.int (3 : Int32)), .val (.long v27), .second, .val (.long v30), .second, .val (.int v32), .val (.long v38), .second, .val (.long v39), .second, .val (.ref b41), .val (.ref b228), .val (.long v245), .second] [(.int (0 : Int32)), (.long v30)])) _
        refine XS.iload X242.here hx rfl (hb hby at_171) rfl ?_
        show Steps p.tables e below (T242.setTop (mkF m 173 #[.val (.int p0), .val (.int p1), .val (.long q2), .second, .val (.int p3), .val (.long q4), .second, .val (.int (3 : Int32)), .val (.long v27), .second, .val (.long v30), .second, .val (.int v32), .val (.long v38), .second, .val (.long v39), .second, .val (.ref b41), .val (.ref b228), .val (.long v245), .second] [(.int (3 : Int32)), (.int (0 : Int32)), (.long v30)])) _
        refine XS.lload X242.here hx rfl (hb hby at_173) rfl ?_
        show Steps p.tables e below (T242.setTop (mkF m 175 #[.val (.int p0), .val (.int p1), .val (.long q2), .second, .val (.int p3), .val (.long q4), .second, .val (.int (3 : Int32)), .val (.long v27), .second, .val (.long v30), .second, .val (.int v32), .val (.long v38), .second, .val (.long v39), .second, .val (.ref b41), .val (.ref b228), .val (.long v245), .second] [(.long v38), (.int (3 : Int32)), (.int (0 : Int32)), (.long v30)])) _
        refine XS.lload X242.here hx rfl (hb hby at_175) rfl ?_
        show Steps p.tables e below (T242.setTop (mkF m 177 #[.val (.int p0), .val (.int p1), .val (.long q2), .second, .val (.int p3), .val (.long q4), .second, .val (.int (3 : Int32)), .val (.long v27), .second, .val (.long v30), .second, .val (.int v32), .val (.long v38), .second, .val (.long v39), .second, .val (.ref b41), .val (.ref b228), .val (.long v245), .second] [(.long v30), (.long v38), (.int (3 : Int32)), (.int (0 : Int32)), (.long v30)])) _
        refine st249 _ ?_
        show Steps p.tables e below (T249.setTop (mkF m 180 #[.val (.int p0), .val (.int p1), .val (.long q2), .second, .val (.int p3), .val (.long q4), .second, .val (.int (3 : Int32)), .val (.long v27), .second, .val (.long v30), .second, .val (.int v32), .val (.long v38), .second, .val (.long v39), .second, .val (.ref b41), .val (.ref b228), .val (.long v245), .second] [(.long (own_f5 (0 : Int32) (3 : Int32) v38 v30)), (.long v30)])) _
        refine XS.lcmp X249.here hx rfl (hb hby at_180) rfl ?_
        show Steps p.tables e below (T249.setTop (mkF m 181 #[.val (.int p0), .val (.int p1), .val (.long q2), .second, .val (.int p3), .val (.long q4), .second, .val (.int (3 : Int32)), .val (.long v27), .second, .val (.long v30), .second, .val (.int v32), .val (.long v38), .second, .val (.long v39), .second, .val (.ref b41), .val (.ref b228), .val (.long v245), .second] [(.int (lcmpW v30 (own_f5 (0 : Int32) (3 : Int32) v38 v30)))])) _
        exact kk)
      by_cases hc253 : v30 = (own_f5 (0 : Int32) (3 : Int32) v38 v30)
      · obtain ⟨cl254, Ar254, q254, S254, M254, H254, G254⟩ := id f239
        have hin254 : ¬ ((1 : Int32) < 0 ∨ cl254.slots.size ≤ ((1 : Int32)).toNatClampNeg) := inb_of S254 ⟨by decide, by decide⟩
        have hat254 : cl254.slots[((1 : Int32)).toNatClampNeg]? = some (.long v30) := H254.at hin254 rfl
        obtain ⟨_, _, ⟨T255, L255, k255, n255⟩, -, X255, ⟨Lc255, hQ255, l255, y255, z255⟩, st255⟩ := Jvm.LawKit.callS X249 hx (y := (⟨"com/example/thyme/thyme/lang/InLocationEvaluatePinLaw", "at", "(IIJJ)J"⟩ : MethodName)) hown (mvT hZ (hw _ (List.mem_of_getElem? (i := 24) rfl))) (mvT hZ (hw _ (List.mem_of_getElem? (i := 25) rfl))) (mvT hZ (hw _ (List.mem_of_getElem? (i := 26) rfl))) (mvT hZ (hw _ (List.mem_of_getElem? (i := 27) rfl))) (by decide) (backOf (W := 2) (own_rm5 l Z av hw [] (1 : Int32) (3 : Int32) v38 v30 T234.heap n0 z241 ) hZ (hw _ (List.mem_of_getElem? (i := 27) rfl)) (hw _ (List.mem_of_getElem? (i := 26) rfl)) (by decide) (by decide)) (g := (mkF m 195 #[.val (.int p0), .val (.int p1), .val (.long q2), .second, .val (.int p3), .val (.long q4), .second, .val (.int (3 : Int32)), .val (.long v27), .second, .val (.long v30), .second, .val (.int v32), .val (.long v38), .second, .val (.long v39), .second, .val (.ref b41), .val (.ref b228), .val (.long v245), .second] [(.long v30), (.long v38), (.int (3 : Int32)), (.int (1 : Int32)), (.long v30)])) rfl (by rw [hml]; rfl) (argsL := [(.int (1 : Int32)), (.int (3 : Int32)), (.long v38), (.long v30)]) (rest := [(.long v30)]) (lenOf own_pd3 rfl) rfl (by show 2 * 0 + _ ≤ _; exact Nat.le_of_eq rfl) (hb hby at_195) (fun _ _ => ⟨rfl, e251, (by decide : 2 + 0 ≤ _), (by decide : 6 + 0 ≤ _)⟩)
        dsimp only [Pt.U, Pt.locs, Pt.cells, Pt.slots] at X255 l255 y255 z255 st255 hQ255
        subst l255 y255 z255
        obtain ⟨rfl, N255q, e257⟩ := hQ255
        have N256 := Fr.app N250 N255q
        have pre258 : ∀ t, Steps p.tables e below (T255.setTop (mkF m 199 #[.val (.int p0), .val (.int p1), .val (.long q2), .second, .val (.int p3), .val (.long q4), .second, .val (.int (3 : Int32)), .val (.long v27), .second, .val (.long v30), .second, .val (.int v32), .val (.long v38), .second, .val (.long v39), .second, .val (.ref b41), .val (.ref b228), .val (.long v245), .second] [(.int (lcmpW v30 (own_f5 (1 : Int32) (3 : Int32) v38 v30)))])) t → Steps p.tables e below (s₁.setTop (entryFrame m #[(.int p0), (.int p1), (.long q2), (.int p3), (.long q4)] maxLocals)) t := fun t kk => pre252 t (by
          show Steps p.tables e below (T249.setTop (mkF m 181 #[.val (.int p0), .val (.int p1), .val (.long q2), .second, .val (.int p3), .val (.long q4), .second, .val (.int (3 : Int32)), .val (.long v27), .second, .val (.long v30), .second, .val (.int v32), .val (.long v38), .second, .val (.long v39), .second, .val (.ref b41), .val (.ref b228), .val (.long v245), .second] [(.int (lcmpW v30 (own_f5 (0 : Int32) (3 : Int32) v38 v30)))])) _
          refine XS.ifNo X249.here hx rfl (hb hby at_181) rfl ((if0 _ _).trans (teq ((lw_eq v30 (own_f5 (0 : Int32) (3 : Int32) v38 v30)).mpr hc253)).2) ?_
          show Steps p.tables e below (T249.setTop (mkF m 184 #[.val (.int p0), .val (.int p1), .val (.long q2), .second, .val (.int p3), .val (.long q4), .second, .val (.int (3 : Int32)), .val (.long v27), .second, .val (.long v30), .second, .val (.int v32), .val (.long v38), .second, .val (.long v39), .second, .val (.ref b41), .val (.ref b228), .val (.long v245), .second] [])) _
          refine XS.aload X249.here hx rfl (hb hby at_184) rfl rfl ?_
          show Steps p.tables e below (T249.setTop (mkF m 186 #[.val (.int p0), .val (.int p1), .val (.long q2), .second, .val (.int p3), .val (.long q4), .second, .val (.int (3 : Int32)), .val (.long v27), .second, .val (.long v30), .second, .val (.int v32), .val (.long v38), .second, .val (.long v39), .second, .val (.ref b41), .val (.ref b228), .val (.long v245), .second] [(.ref b41)])) _
          refine XS.iconst X249.here hx rfl (hb hby at_186) ?_
          show Steps p.tables e below (T249.setTop (mkF m 187 #[.val (.int p0), .val (.int p1), .val (.long q2), .second, .val (.int p3), .val (.long q4), .second, .val (.int (3 : Int32)), .val (.long v27), .second, .val (.long v30), .second, .val (.int v32), .val (.long v38), .second, .val (.long v39), .second, .val (.ref b41), .val (.ref b228), .val (.long v245), .second] [(.int (1 : Int32)), (.ref b41)])) _
          refine X249.laload hx (j := (1 : Int32)) (v := (.long v30)) (by rw [e251]; exact Ar254.1) (State.isArrayOf_alike hZ.alike Ar254.2.1) Ar254.2.2 hin254 hat254 (g := (mkF m 187 #[.val (.int p0), .val (.int p1), .val (.long q2), .second, .val (.int p3), .val (.long q4), .second, .val (.int (3 : Int32)), .val (.long v27), .second, .val (.long v30), .second, .val (.int v32), .val (.long v38), .second, .val (.long v39), .second, .val (.ref b41), .val (.ref b228), .val (.long v245), .second] [(.int (1 : Int32)), (.ref b41)])) rfl rfl (hb hby at_187) _ ?_
          show Steps p.tables e below (T249.setTop (mkF m 188 #[.val (.int p0), .val (.int p1), .val (.long q2), .second, .val (.int p3), .val (.long q4), .second, .val (.int (3 : Int32)), .val (.long v27), .second, .val (.long v30), .second, .val (.int v32), .val (.long v38), .second, .val (.long v39), .second, .val (.ref b41), .val (.ref b228), .val (.long v245), .second] [(.long v30)])) _
          refine XS.iconst X249.here hx rfl (hb hby at_188) ?_
          show Steps p.tables e below (T249.setTop (mkF m 189 #[.val (.int p0), .val (.int p1), .val (.long q2), .second, .val (.int p3), .val (.long q4), .second, .val (.int (3 : Int32)), .val (.long v27), .second, .val (.long v30), .second, .val (.int v32), .val (.long v38), .second, .val (.long v39), .second, .val (.ref b41), .val (.ref b228), .val (.long v245), .second] [(.int (1 : Int32)), (.long v30)])) _
          refine XS.iload X249.here hx rfl (hb hby at_189) rfl ?_
          show Steps p.tables e below (T249.setTop (mkF m 191 #[.val (.int p0), .val (.int p1), .val (.long q2), .second, .val (.int p3), .val (.long q4), .second, .val (.int (3 : Int32)), .val (.long v27), .second, .val (.long v30), .second, .val (.int v32), .val (.long v38), .second, .val (.long v39), .second, .val (.ref b41), .val (.ref b228), .val (.long v245), .second] [(.int (3 : Int32)), (.int (1 : Int32)), (.long v30)])) _
          refine XS.lload X249.here hx rfl (hb hby at_191) rfl ?_
          show Steps p.tables e below (T249.setTop (mkF m 193 #[.val (.int p0), .val (.int p1), .val (.long q2), .second, .val (.int p3), .val (.long q4), .second, .val (.int (3 : Int32)), .val (.long v27), .second, .val (.long v30), .second, .val (.int v32), .val (.long v38), .second, .val (.long v39), .second, .val (.ref b41), .val (.ref b228), .val (.long v245), .second] [(.long v38), (.int (3 : Int32)), (.int (1 : Int32)), (.long v30)])) _
          refine XS.lload X249.here hx rfl (hb hby at_193) rfl ?_
          show Steps p.tables e below (T249.setTop (mkF m 195 #[.val (.int p0), .val (.int p1), .val (.long q2), .second, .val (.int p3), .val (.long q4), .second, .val (.int (3 : Int32)), .val (.long v27), .second, .val (.long v30), .second, .val (.int v32), .val (.long v38), .second, .val (.long v39), .second, .val (.ref b41), .val (.ref b228), .val (.long v245), .second] [(.long v30), (.long v38), (.int (3 : Int32)), (.int (1 : Int32)), (.long v30)])) _
          refine st255 _ ?_
          show Steps p.tables e below (T255.setTop (mkF m 198 #[.val (.int p0), .val (.int p1), .val (.long q2), .second, .val (.int p3), .val (.long q4), .second, .val (.int (3 : Int32)), .val (.long v27), .second, .val (.long v30), .second, .val (.int v32), .val (.long v38), .second, .val (.long v39), .second, .val (.ref b41), .val (.ref b228), .val (.long v245), .second] [(.long (own_f5 (1 : Int32) (3 : Int32) v38 v30)), (.long v30)])) _
          refine XS.lcmp X255.here hx rfl (hb hby at_198) rfl ?_
          show Steps p.tables e below (T255.setTop (mkF m 199 #[.val (.int p0), .val (.int p1), .val (.long q2), .second, .val (.int p3), .val (.long q4), .second, .val (.int (3 : Int32)), .val (.long v27), .second, .val (.long v30), .second, .val (.int v32), .val (.long v38), .second, .val (.long v39), .second, .val (.ref b41), .val (.ref b228), .val (.long v245), .second] [(.int (lcmpW v30 (own_f5 (1 : Int32) (3 : Int32) v38 v30)))])) _
          exact kk)
        by_cases hc259 : v30 = (own_f5 (1 : Int32) (3 : Int32) v38 v30)
        · obtain ⟨cl260, Ar260, q260, S260, M260, H260, G260⟩ := id f239
          have hin260 : ¬ ((2 : Int32) < 0 ∨ cl260.slots.size ≤ ((2 : Int32)).toNatClampNeg) := inb_of S260 ⟨by decide, by decide⟩
          have hat260 : cl260.slots[((2 : Int32)).toNatClampNeg]? = some (.long v30) := H260.at hin260 rfl
          obtain ⟨_, _, ⟨T261, L261, k261, n261⟩, -, X261, ⟨Lc261, hQ261, l261, y261, z261⟩, st261⟩ := Jvm.LawKit.callS X255 hx (y := (⟨"com/example/thyme/thyme/lang/InLocationEvaluatePinLaw", "at", "(IIJJ)J"⟩ : MethodName)) hown (mvT hZ (hw _ (List.mem_of_getElem? (i := 24) rfl))) (mvT hZ (hw _ (List.mem_of_getElem? (i := 25) rfl))) (mvT hZ (hw _ (List.mem_of_getElem? (i := 26) rfl))) (mvT hZ (hw _ (List.mem_of_getElem? (i := 27) rfl))) (by decide) (backOf (W := 2) (own_rm5 l Z av hw [] (2 : Int32) (3 : Int32) v38 v30 T234.heap n0 z241 ) hZ (hw _ (List.mem_of_getElem? (i := 27) rfl)) (hw _ (List.mem_of_getElem? (i := 26) rfl)) (by decide) (by decide)) (g := (mkF m 213 #[.val (.int p0), .val (.int p1), .val (.long q2), .second, .val (.int p3), .val (.long q4), .second, .val (.int (3 : Int32)), .val (.long v27), .second, .val (.long v30), .second, .val (.int v32), .val (.long v38), .second, .val (.long v39), .second, .val (.ref b41), .val (.ref b228), .val (.long v245), .second] [(.long v30), (.long v38), (.int (3 : Int32)), (.int (2 : Int32)), (.long v30)])) rfl (by rw [hml]; rfl) (argsL := [(.int (2 : Int32)), (.int (3 : Int32)), (.long v38), (.long v30)]) (rest := [(.long v30)]) (lenOf own_pd3 rfl) rfl (by show 2 * 0 + _ ≤ _; exact Nat.le_of_eq rfl) (hb hby at_213) (fun _ _ => ⟨rfl, e257, (by decide : 2 + 0 ≤ _), (by decide : 6 + 0 ≤ _)⟩)
          dsimp only [Pt.U, Pt.locs, Pt.cells, Pt.slots] at X261 l261 y261 z261 st261 hQ261
          subst l261 y261 z261
          obtain ⟨rfl, N261q, e263⟩ := hQ261
          have N262 := Fr.app N256 N261q
          have pre264 : ∀ t, Steps p.tables e below (T261.setTop (mkF m 217 #[.val (.int p0), .val (.int p1), .val (.long q2), .second, .val (.int p3), .val (.long q4), .second, .val (.int (3 : Int32)), .val (.long v27), .second, .val (.long v30), .second, .val (.int v32), .val (.long v38), .second, .val (.long v39), .second, .val (.ref b41), .val (.ref b228), .val (.long v245), .second] [(.int (lcmpW v30 (own_f5 (2 : Int32) (3 : Int32) v38 v30)))])) t → Steps p.tables e below (s₁.setTop (entryFrame m #[(.int p0), (.int p1), (.long q2), (.int p3), (.long q4)] maxLocals)) t := fun t kk => pre258 t (by
            show Steps p.tables e below (T255.setTop (mkF m 199 #[.val (.int p0), .val (.int p1), .val (.long q2), .second, .val (.int p3), .val (.long q4), .second, .val (.int (3 : Int32)), .val (.long v27), .second, .val (.long v30), .second, .val (.int v32), .val (.long v38), .second, .val (.long v39), .second, .val (.ref b41), .val (.ref b228), .val (.long v245), .second] [(.int (lcmpW v30 (own_f5 (1 : Int32) (3 : Int32) v38 v30)))])) _
            refine XS.ifNo X255.here hx rfl (hb hby at_199) rfl ((if0 _ _).trans (teq ((lw_eq v30 (own_f5 (1 : Int32) (3 : Int32) v38 v30)).mpr hc259)).2) ?_
            show Steps p.tables e below (T255.setTop (mkF m 202 #[.val (.int p0), .val (.int p1), .val (.long q2), .second, .val (.int p3), .val (.long q4), .second, .val (.int (3 : Int32)), .val (.long v27), .second, .val (.long v30), .second, .val (.int v32), .val (.long v38), .second, .val (.long v39), .second, .val (.ref b41), .val (.ref b228), .val (.long v245), .second] [])) _
            refine XS.aload X255.here hx rfl (hb hby at_202) rfl rfl ?_
            show Steps p.tables e below (T255.setTop (mkF m 204 #[.val (.int p0), .val (.int p1), .val (.long q2), .second, .val (.int p3), .val (.long q4), .second, .val (.int (3 : Int32)), .val (.long v27), .second, .val (.long v30), .second, .val (.int v32), .val (.long v38), .second, .val (.long v39), .second, .val (.ref b41), .val (.ref b228), .val (.long v245), .second] [(.ref b41)])) _
            refine XS.iconst X255.here hx rfl (hb hby at_204) ?_
            show Steps p.tables e below (T255.setTop (mkF m 205 #[.val (.int p0), .val (.int p1), .val (.long q2), .second, .val (.int p3), .val (.long q4), .second, .val (.int (3 : Int32)), .val (.long v27), .second, .val (.long v30), .second, .val (.int v32), .val (.long v38), .second, .val (.long v39), .second, .val (.ref b41), .val (.ref b228), .val (.long v245), .second] [(.int (2 : Int32)), (.ref b41)])) _
            refine X255.laload hx (j := (2 : Int32)) (v := (.long v30)) (by rw [e257]; exact Ar260.1) (State.isArrayOf_alike hZ.alike Ar260.2.1) Ar260.2.2 hin260 hat260 (g := (mkF m 205 #[.val (.int p0), .val (.int p1), .val (.long q2), .second, .val (.int p3), .val (.long q4), .second, .val (.int (3 : Int32)), .val (.long v27), .second, .val (.long v30), .second, .val (.int v32), .val (.long v38), .second, .val (.long v39), .second, .val (.ref b41), .val (.ref b228), .val (.long v245), .second] [(.int (2 : Int32)), (.ref b41)])) rfl rfl (hb hby at_205) _ ?_
            show Steps p.tables e below (T255.setTop (mkF m 206 #[.val (.int p0), .val (.int p1), .val (.long q2), .second, .val (.int p3), .val (.long q4), .second, .val (.int (3 : Int32)), .val (.long v27), .second, .val (.long v30), .second, .val (.int v32), .val (.long v38), .second, .val (.long v39), .second, .val (.ref b41), .val (.ref b228), .val (.long v245), .second] [(.long v30)])) _
            refine XS.iconst X255.here hx rfl (hb hby at_206) ?_
            show Steps p.tables e below (T255.setTop (mkF m 207 #[.val (.int p0), .val (.int p1), .val (.long q2), .second, .val (.int p3), .val (.long q4), .second, .val (.int (3 : Int32)), .val (.long v27), .second, .val (.long v30), .second, .val (.int v32), .val (.long v38), .second, .val (.long v39), .second, .val (.ref b41), .val (.ref b228), .val (.long v245), .second] [(.int (2 : Int32)), (.long v30)])) _
            refine XS.iload X255.here hx rfl (hb hby at_207) rfl ?_
            show Steps p.tables e below (T255.setTop (mkF m 209 #[.val (.int p0), .val (.int p1), .val (.long q2), .second, .val (.int p3), .val (.long q4), .second, .val (.int (3 : Int32)), .val (.long v27), .second, .val (.long v30), .second, .val (.int v32), .val (.long v38), .second, .val (.long v39), .second, .val (.ref b41), .val (.ref b228), .val (.long v245), .second] [(.int (3 : Int32)), (.int (2 : Int32)), (.long v30)])) _
            refine XS.lload X255.here hx rfl (hb hby at_209) rfl ?_
            show Steps p.tables e below (T255.setTop (mkF m 211 #[.val (.int p0), .val (.int p1), .val (.long q2), .second, .val (.int p3), .val (.long q4), .second, .val (.int (3 : Int32)), .val (.long v27), .second, .val (.long v30), .second, .val (.int v32), .val (.long v38), .second, .val (.long v39), .second, .val (.ref b41), .val (.ref b228), .val (.long v245), .second] [(.long v38), (.int (3 : Int32)), (.int (2 : Int32)), (.long v30)])) _
            refine XS.lload X255.here hx rfl (hb hby at_211) rfl ?_
            show Steps p.tables e below (T255.setTop (mkF m 213 #[.val (.int p0), .val (.int p1), .val (.long q2), .second, .val (.int p3), .val (.long q4), .second, .val (.int (3 : Int32)), .val (.long v27), .second, .val (.long v30), .second, .val (.int v32), .val (.long v38), .second, .val (.long v39), .second, .val (.ref b41), .val (.ref b228), .val (.long v245), .second] [(.long v30), (.long v38), (.int (3 : Int32)), (.int (2 : Int32)), (.long v30)])) _
            refine st261 _ ?_
            show Steps p.tables e below (T261.setTop (mkF m 216 #[.val (.int p0), .val (.int p1), .val (.long q2), .second, .val (.int p3), .val (.long q4), .second, .val (.int (3 : Int32)), .val (.long v27), .second, .val (.long v30), .second, .val (.int v32), .val (.long v38), .second, .val (.long v39), .second, .val (.ref b41), .val (.ref b228), .val (.long v245), .second] [(.long (own_f5 (2 : Int32) (3 : Int32) v38 v30)), (.long v30)])) _
            refine XS.lcmp X261.here hx rfl (hb hby at_216) rfl ?_
            show Steps p.tables e below (T261.setTop (mkF m 217 #[.val (.int p0), .val (.int p1), .val (.long q2), .second, .val (.int p3), .val (.long q4), .second, .val (.int (3 : Int32)), .val (.long v27), .second, .val (.long v30), .second, .val (.int v32), .val (.long v38), .second, .val (.long v39), .second, .val (.ref b41), .val (.ref b228), .val (.long v245), .second] [(.int (lcmpW v30 (own_f5 (2 : Int32) (3 : Int32) v38 v30)))])) _
            exact kk)
          by_cases hc265 : v30 = (own_f5 (2 : Int32) (3 : Int32) v38 v30)
          · obtain ⟨cl266, Ar266, q266, S266, M266, H266, G266⟩ := id f239
            have hin266 : ¬ ((3 : Int32) < 0 ∨ cl266.slots.size ≤ ((3 : Int32)).toNatClampNeg) := inb_of S266 ⟨by decide, by decide⟩
            have hat266 : cl266.slots[((3 : Int32)).toNatClampNeg]? = some (.long v38) := H266.at hin266 rfl
            obtain ⟨_, _, ⟨T267, L267, k267, n267⟩, -, X267, ⟨Lc267, hQ267, l267, y267, z267⟩, st267⟩ := Jvm.LawKit.callS X261 hx (y := (⟨"com/example/thyme/thyme/lang/InLocationEvaluatePinLaw", "at", "(IIJJ)J"⟩ : MethodName)) hown (mvT hZ (hw _ (List.mem_of_getElem? (i := 24) rfl))) (mvT hZ (hw _ (List.mem_of_getElem? (i := 25) rfl))) (mvT hZ (hw _ (List.mem_of_getElem? (i := 26) rfl))) (mvT hZ (hw _ (List.mem_of_getElem? (i := 27) rfl))) (by decide) (backOf (W := 2) (own_rm5 l Z av hw [] (3 : Int32) (3 : Int32) v38 v30 T234.heap n0 z241 ) hZ (hw _ (List.mem_of_getElem? (i := 27) rfl)) (hw _ (List.mem_of_getElem? (i := 26) rfl)) (by decide) (by decide)) (g := (mkF m 231 #[.val (.int p0), .val (.int p1), .val (.long q2), .second, .val (.int p3), .val (.long q4), .second, .val (.int (3 : Int32)), .val (.long v27), .second, .val (.long v30), .second, .val (.int v32), .val (.long v38), .second, .val (.long v39), .second, .val (.ref b41), .val (.ref b228), .val (.long v245), .second] [(.long v30), (.long v38), (.int (3 : Int32)), (.int (3 : Int32)), (.long v38)])) rfl (by rw [hml]; rfl) (argsL := [(.int (3 : Int32)), (.int (3 : Int32)), (.long v38), (.long v30)]) (rest := [(.long v38)]) (lenOf own_pd3 rfl) rfl (by show 2 * 0 + _ ≤ _; exact Nat.le_of_eq rfl) (hb hby at_231) (fun _ _ => ⟨rfl, e263, (by decide : 2 + 0 ≤ _), (by decide : 6 + 0 ≤ _)⟩)
            dsimp only [Pt.U, Pt.locs, Pt.cells, Pt.slots] at X267 l267 y267 z267 st267 hQ267
            subst l267 y267 z267
            obtain ⟨rfl, N267q, e269⟩ := hQ267
            have N268 := Fr.app N262 N267q
            have pre270 : ∀ t, Steps p.tables e below (T267.setTop (mkF m 235 #[.val (.int p0), .val (.int p1), .val (.long q2), .second, .val (.int p3), .val (.long q4), .second, .val (.int (3 : Int32)), .val (.long v27), .second, .val (.long v30), .second, .val (.int v32), .val (.long v38), .second, .val (.long v39), .second, .val (.ref b41), .val (.ref b228), .val (.long v245), .second] [(.int (lcmpW v38 (own_f5 (3 : Int32) (3 : Int32) v38 v30)))])) t → Steps p.tables e below (s₁.setTop (entryFrame m #[(.int p0), (.int p1), (.long q2), (.int p3), (.long q4)] maxLocals)) t := fun t kk => pre264 t (by
              show Steps p.tables e below (T261.setTop (mkF m 217 #[.val (.int p0), .val (.int p1), .val (.long q2), .second, .val (.int p3), .val (.long q4), .second, .val (.int (3 : Int32)), .val (.long v27), .second, .val (.long v30), .second, .val (.int v32), .val (.long v38), .second, .val (.long v39), .second, .val (.ref b41), .val (.ref b228), .val (.long v245), .second] [(.int (lcmpW v30 (own_f5 (2 : Int32) (3 : Int32) v38 v30)))])) _
              refine XS.ifNo X261.here hx rfl (hb hby at_217) rfl ((if0 _ _).trans (teq ((lw_eq v30 (own_f5 (2 : Int32) (3 : Int32) v38 v30)).mpr hc265)).2) ?_
              show Steps p.tables e below (T261.setTop (mkF m 220 #[.val (.int p0), .val (.int p1), .val (.long q2), .second, .val (.int p3), .val (.long q4), .second, .val (.int (3 : Int32)), .val (.long v27), .second, .val (.long v30), .second, .val (.int v32), .val (.long v38), .second, .val (.long v39), .second, .val (.ref b41), .val (.ref b228), .val (.long v245), .second] [])) _
              refine XS.aload X261.here hx rfl (hb hby at_220) rfl rfl ?_
              show Steps p.tables e below (T261.setTop (mkF m 222 #[.val (.int p0), .val (.int p1), .val (.long q2), .second, .val (.int p3), .val (.long q4), .second, .val (.int (3 : Int32)), .val (.long v27), .second, .val (.long v30), .second, .val (.int v32), .val (.long v38), .second, .val (.long v39), .second, .val (.ref b41), .val (.ref b228), .val (.long v245), .second] [(.ref b41)])) _
              refine XS.iconst X261.here hx rfl (hb hby at_222) ?_
              show Steps p.tables e below (T261.setTop (mkF m 223 #[.val (.int p0), .val (.int p1), .val (.long q2), .second, .val (.int p3), .val (.long q4), .second, .val (.int (3 : Int32)), .val (.long v27), .second, .val (.long v30), .second, .val (.int v32), .val (.long v38), .second, .val (.long v39), .second, .val (.ref b41), .val (.ref b228), .val (.long v245), .second] [(.int (3 : Int32)), (.ref b41)])) _
              refine X261.laload hx (j := (3 : Int32)) (v := (.long v38)) (by rw [e263]; exact Ar266.1) (State.isArrayOf_alike hZ.alike Ar266.2.1) Ar266.2.2 hin266 hat266 (g := (mkF m 223 #[.val (.int p0), .val (.int p1), .val (.long q2), .second, .val (.int p3), .val (.long q4), .second, .val (.int (3 : Int32)), .val (.long v27), .second, .val (.long v30), .second, .val (.int v32), .val (.long v38), .second, .val (.long v39), .second, .val (.ref b41), .val (.ref b228), .val (.long v245), .second] [(.int (3 : Int32)), (.ref b41)])) rfl rfl (hb hby at_223) _ ?_
              show Steps p.tables e below (T261.setTop (mkF m 224 #[.val (.int p0), .val (.int p1), .val (.long q2), .second, .val (.int p3), .val (.long q4), .second, .val (.int (3 : Int32)), .val (.long v27), .second, .val (.long v30), .second, .val (.int v32), .val (.long v38), .second, .val (.long v39), .second, .val (.ref b41), .val (.ref b228), .val (.long v245), .second] [(.long v38)])) _
              refine XS.iconst X261.here hx rfl (hb hby at_224) ?_
              show Steps p.tables e below (T261.setTop (mkF m 225 #[.val (.int p0), .val (.int p1), .val (.long q2), .second, .val (.int p3), .val (.long q4), .second, .val (.int (3 : Int32)), .val (.long v27), .second, .val (.long v30), .second, .val (.int v32), .val (.long v38), .second, .val (.long v39), .second, .val (.ref b41), .val (.ref b228), .val (.long v245), .second] [(.int (3 : Int32)), (.long v38)])) _
              refine XS.iload X261.here hx rfl (hb hby at_225) rfl ?_
              show Steps p.tables e below (T261.setTop (mkF m 227 #[.val (.int p0), .val (.int p1), .val (.long q2), .second, .val (.int p3), .val (.long q4), .second, .val (.int (3 : Int32)), .val (.long v27), .second, .val (.long v30), .second, .val (.int v32), .val (.long v38), .second, .val (.long v39), .second, .val (.ref b41), .val (.ref b228), .val (.long v245), .second] [(.int (3 : Int32)), (.int (3 : Int32)), (.long v38)])) _
              refine XS.lload X261.here hx rfl (hb hby at_227) rfl ?_
              show Steps p.tables e below (T261.setTop (mkF m 229 #[.val (.int p0), .val (.int p1), .val (.long q2), .second, .val (.int p3), .val (.long q4), .second, .val (.int (3 : Int32)), .val (.long v27), .second, .val (.long v30), .second, .val (.int v32), .val (.long v38), .second, .val (.long v39), .second, .val (.ref b41), .val (.ref b228), .val (.long v245), .second] [(.long v38), (.int (3 : Int32)), (.int (3 : Int32)), (.long v38)])) _
              refine XS.lload X261.here hx rfl (hb hby at_229) rfl ?_
              show Steps p.tables e below (T261.setTop (mkF m 231 #[.val (.int p0), .val (.int p1), .val (.long q2), .second, .val (.int p3), .val (.long q4), .second, .val (.int (3 : Int32)), .val (.long v27), .second, .val (.long v30), .second, .val (.int v32), .val (.long v38), .second, .val (.long v39), .second, .val (.ref b41), .val (.ref b228), .val (.long v245), .second] [(.long v30), (.long v38), (.int (3 : Int32)), (.int (3 : Int32)), (.long v38)])) _
              refine st267 _ ?_
              show Steps p.tables e below (T267.setTop (mkF m 234 #[.val (.int p0), .val (.int p1), .val (.long q2), .second, .val (.int p3), .val (.long q4), .second, .val (.int (3 : Int32)), .val (.long v27), .second, .val (.long v30), .second, .val (.int v32), .val (.long v38), .second, .val (.long v39), .second, .val (.ref b41), .val (.ref b228), .val (.long v245), .second] [(.long (own_f5 (3 : Int32) (3 : Int32) v38 v30)), (.long v38)])) _
              refine XS.lcmp X267.here hx rfl (hb hby at_234) rfl ?_
              show Steps p.tables e below (T267.setTop (mkF m 235 #[.val (.int p0), .val (.int p1), .val (.long q2), .second, .val (.int p3), .val (.long q4), .second, .val (.int (3 : Int32)), .val (.long v27), .second, .val (.long v30), .second, .val (.int v32), .val (.long v38), .second, .val (.long v39), .second, .val (.ref b41), .val (.ref b228), .val (.long v245), .second] [(.int (lcmpW v38 (own_f5 (3 : Int32) (3 : Int32) v38 v30)))])) _
              exact kk)
            by_cases hc271 : v38 = (own_f5 (3 : Int32) (3 : Int32) v38 v30)
            · obtain ⟨fs, hr, hrun, hended, hW, hsame⟩ := X267.leave (v := some (.int (1 : Int32))) (fun h => by rw [Bd.returns] at h; cases h)
              refine ⟨_, _, pre270 _ ?_, hrun, hended, _, _, rfl, ?_, ⟨_, rfl⟩, hW, hsame.mono (by decide) (by decide)⟩
              · show Steps p.tables e below (T267.setTop (mkF m 235 #[.val (.int p0), .val (.int p1), .val (.long q2), .second, .val (.int p3), .val (.long q4), .second, .val (.int (3 : Int32)), .val (.long v27), .second, .val (.long v30), .second, .val (.int v32), .val (.long v38), .second, .val (.long v39), .second, .val (.ref b41), .val (.ref b228), .val (.long v245), .second] [(.int (lcmpW v38 (own_f5 (3 : Int32) (3 : Int32) v38 v30)))])) _
                refine XS.ifNo X267.here hx rfl (hb hby at_235) rfl ((if0 _ _).trans (teq ((lw_eq v38 (own_f5 (3 : Int32) (3 : Int32) v38 v30)).mpr hc271)).2) ?_
                show Steps p.tables e below (T267.setTop (mkF m 238 #[.val (.int p0), .val (.int p1), .val (.long q2), .second, .val (.int p3), .val (.long q4), .second, .val (.int (3 : Int32)), .val (.long v27), .second, .val (.long v30), .second, .val (.int v32), .val (.long v38), .second, .val (.long v39), .second, .val (.ref b41), .val (.ref b228), .val (.long v245), .second] [])) _
                refine XS.iconst X267.here hx rfl (hb hby at_238) ?_
                show Steps p.tables e below (T267.setTop (mkF m 239 #[.val (.int p0), .val (.int p1), .val (.long q2), .second, .val (.int p3), .val (.long q4), .second, .val (.int (3 : Int32)), .val (.long v27), .second, .val (.long v30), .second, .val (.int v32), .val (.long v38), .second, .val (.long v39), .second, .val (.ref b41), .val (.ref b228), .val (.long v245), .second] [(.int (1 : Int32))])) _
                refine XS.goto X267.here hx rfl (pc0 := 239) (pc' := 243) rfl (hb hby at_239) (by decide) (by decide) ?_
                show Steps p.tables e below (T267.setTop (mkF m 243 #[.val (.int p0), .val (.int p1), .val (.long q2), .second, .val (.int p3), .val (.long q4), .second, .val (.int (3 : Int32)), .val (.long v27), .second, .val (.long v30), .second, .val (.int v32), .val (.long v38), .second, .val (.long v39), .second, .val (.ref b41), .val (.ref b228), .val (.long v245), .second] [(.int (1 : Int32))])) _
                exact retN X267 hx (t := .boolean) Bd.returns (by simp) (hb hby at_243) hr
              · show own_Q0 Z p0 p1 q2 p3 q4 h0 n0 _ T267.heap _
                rw [e269]
                exact ⟨rfl, N268⟩
            · exact (own_leaf0_20 p0 p1 q2 p3 q4 hv26 v27 hv27 v30 hv30 v32 hv32 v38 hv38 v39 hv39 v245 hv245 hc247 hc253 hc259 hc265 hc271).elim
          · exact (own_leaf0_21 p0 p1 q2 p3 q4 hv26 v27 hv27 v30 hv30 v32 hv32 v38 hv38 v39 hv39 v245 hv245 hc247 hc253 hc259 hc265).elim
        · exact (own_leaf0_22 p0 p1 q2 p3 q4 hv26 v27 hv27 v30 hv30 v32 hv32 v38 hv38 v39 hv39 v245 hv245 hc247 hc253 hc259).elim
      · exact (own_leaf0_23 p0 p1 q2 p3 q4 hv26 v27 hv27 v30 hv30 v32 hv32 v38 hv38 v39 hv39 v245 hv245 hc247 hc253).elim
    · exact (own_leaf0_24 p0 p1 q2 p3 q4 hv26 v27 hv27 v30 hv30 v32 hv32 v38 hv38 v39 hv39 v245 hv245 hc247).elim
set_option maxRecDepth 65536 in
set_option maxHeartbeats 40000000 in
theorem comes_1 {Post : Tables → Env → Array Value → State → Outcome → State → Prop} (hpost : ∀ tb e args s v u, (limb_1_1.after args s (.returned v) u = true ∧ limb_1_2.after args s (.returned v) u = true ∧ True) → FrameEnd s (.returned v) u (Jvm.fieldLocs frame_1_writes args s ++ Jvm.arrayLocs frame_1_arrays args s ++ Jvm.staticLocs frame_1_statics s) 16 128 → Post tb e args s (.returned v) u) :
    ArmFor flags0 classFile x code maxLocals ret World_1 tables_1 room_1 Calls_1 rest_1 Pre_1 Post := by
  intro l hfl _ _ p e ha hc hk s m args below hf hA hF happ hP
  obtain ⟨hcalls, hrest, hpre⟩ := hP
  obtain ⟨-, -, -, hnamed, -, -, -, hat⟩ := (Spec.applies_iff hf).mp happ
  obtain ⟨hg, hn⟩ := and_e (Cond.before_iff.mp (show (Jvm.Cond.and given_1 narrow_1).before args s = true from hpre))
  obtain ⟨gg1, gg2⟩ := and_e hg
  obtain ⟨gg3, gg4⟩ := and_e gg2
  obtain ⟨gg5, gg6⟩ := and_e gg4
  obtain ⟨gg7, gg8⟩ := and_e gg6
  obtain ⟨gg9, gg10⟩ := and_e gg8
  obtain ⟨w0, w1, w2, w3, w4, rfl⟩ : ∃ w0 w1 w2 w3 w4 : Value, args = #[w0, w1, w2, w3, w4] := by
    have hs : args.size = 5 := by simpa [Cond.value, given_1] using gg1
    obtain ⟨L⟩ := args
    match L, hs with
    | [w0, w1, w2, w3, w4], _ => exact ⟨w0, w1, w2, w3, w4, rfl⟩
  have hw := fun d (hd : d ∈ tables_1) => atoms_spec (ws := Jvm.Cond.code x code maxLocals ret :: tables_1) hat d (List.mem_cons_of_mem _ hd)
  have hfit : Fit s := fun {y c} hc i hi => by
    obtain ⟨ha, rfl⟩ := Array.getElem?_eq_some_iff.mp hc
    have q := List.all_eq_true.mp ((Array.all_eq_true_iff_forall_mem.mp hF) _ (Array.getElem_mem ha)) i (List.mem_range.mpr hi)
    simpa [Array.getElem?_eq_getElem hi] using q
  obtain ⟨i0, ei0⟩ := is_v gg3
  obtain rfl : w0 = (.int i0) := Option.some.inj ei0
  obtain ⟨i1, ei1⟩ := is_v gg5
  obtain rfl : w1 = (.int i1) := Option.some.inj ei1
  obtain ⟨i2, ei2⟩ := isL_v gg7
  obtain rfl : w2 = (.long i2) := Option.some.inj ei2
  obtain ⟨i3, ei3⟩ := is_v gg9
  obtain rfl : w3 = (.int i3) := Option.some.inj ei3
  obtain ⟨i4, ei4⟩ := isL_v gg10
  obtain rfl : w4 = (.long i4) := Option.some.inj ei4
  obtain ⟨n, o, h1, h2, h3, _, L, rfl, ⟨rfl, N⟩, hq⟩ := own_rm0 l s _ hw tables_1 i0 i1 i2 i3 i4 s.heap s.heap.size (Nat.le_refl _)  p e ha hc hk s m _ below hf ((Spec.applies_iff_loose hf).mp happ).1 ⟨rfl, State.Warmed39.refl s, rfl⟩ trivial
  refine ⟨n, _, h1, h2, h3, hpost _ _ _ _ _ _ ⟨Cond.after_iff.mpr rfl, Cond.after_iff.mpr (eq_i res_at (Term.int_eval (1)) rfl), trivial⟩ ⟨hq.1, hq.2.1, (hq.2.2.sift fun y hy => Or.inr (N y hy)).mono (by decide) (by decide)⟩⟩
theorem main_1_1 : Claimed_1_1 := comes_1 fun _ _ _ _ _ _ h hF => ⟨h.1, hF⟩
theorem main_1_2 : Claimed_1_2 := comes_1 fun _ _ _ _ _ _ h hF => ⟨h.2.1, hF⟩
end Jvm.Pilot.@@N@@
namespace Jvm.Pilot.@@N@@
open Jvm Jvm.ClassFile Sem Op Lib Jvm.Free Jvm.Stand Jvm.Pilot.@@N@@.Jvm.D
/-! MADE BY PROGRAM (witnessworld.py) out of the Statement's table words and the real class files: 13 classes; the members and pool entries that the words name. The judged class is class 1, her method 2. -/
namespace start1
open Jvm.ClassFile
def u (s : String) : CpInfo := .utf8 (stringToUtf16 s)
/-- a pool by its gaps: so many unusable entries, then the entry; so many at the end -/
def gap : Nat → List CpInfo → List CpInfo
  | 0, r => r
  | n + 1, r => .unusable :: gap n r
def poolList (es : List (Nat × CpInfo)) (last : Nat) : List CpInfo := es.foldr (fun e r => gap e.1 (e.2 :: r)) (gap last [])
def pool (es : List (Nat × CpInfo)) (last : Nat) : Array CpInfo := ⟨poolList es last⟩
def fileOf (pool : Array CpInfo) (this : Nat) (attrs : Array Attribute := #[]) (ms : Array MethodInfo := #[]) (fl : Nat := 33) (sup : Nat := 0) (ifs : Array Nat := #[]) (fds : Array FieldInfo := #[]) : ClassFile where
  minorVersion := 0
  majorVersion := 65
  constantPool := pool
  accessFlags := fl
  thisClass := this
  superClass := sup
  interfaces := ifs
  fields := fds
  methods := ms
  attributes := attrs
def plain (name : String) (sup : Option ClassId) : Class where
  name := name
  kind := .ordinary
  loader := none
  accessFlags := 33
  super := sup
  interfaces := #[]
  cf := none
  fields := #[]
  methods := #[]
  instanceTypes := #[]
  staticTypes := #[]
  resolved := #[]
  callSites := []
  init := .initialized
  statics := none
  mirror := none

def pool0 : Array CpInfo := pool [(5, u "<init>"), (0, u "()V"), (1, .class_ 10), (1, u "java/lang/Object")] 113

def k0c0 : Code := { maxStack := 0, maxLocals := 1, code := object_method_1_code, exceptionTable := #[], attributes := #[] }
def k0m0 : Method := { name := "<init>", desc := "()V", sig := { parameters := [], returnType := none }, accessFlags := 1, code := some k0c0 }
/-- java/lang/Object -/
def k0 : Class := { plain "java/lang/Object" none with
  accessFlags := 33
  interfaces := #[]
  cf := some (fileOf pool0 8 #[] #[{ accessFlags := 1, nameIndex := 5, descriptorIndex := 6, attributes := #[] }] 33 0 #[] #[])
  fields := #[]
  methods := #[k0m0]
  instanceTypes := #[]
  staticTypes := #[]
  resolved := Array.replicate 124 none
  statics := none }

def pool1 : Array CpInfo := pool [(2, .class_ 4), (1, u "java/lang/Object"), (0, u "<init>"), (0, u "()V"), (0, .long 4294967296), (1, .class_ 10), (0, u "com/example/thyme/thyme/lang/Expression$InLocation"), (0, .methodref 9 12), (0, .nameAndType 5 13), (0, u "(II)V"), (0, .methodref 9 15), (0, .nameAndType 16 17), (0, u "evaluate"), (0, u "([J)J"), (0, .methodref 19 20), (0, .class_ 21), (0, .nameAndType 22 23), (0, u "com/example/thyme/thyme/lang/InLocationEvaluatePinLaw"), (0, u "at"), (0, u "(IIJJ)J"), (3, u "law"), (0, u "(IIJIJ)Z")] 8

def k1m0 : Method := { name := "<init>", desc := "()V", sig := { parameters := [], returnType := none }, accessFlags := 1, code := none }
def k1c1 : Code := { maxStack := 2, maxLocals := 6, code := method_2_code, exceptionTable := #[], attributes := #[] }
def k1m1 : Method := { name := "at", desc := "(IIJJ)J", sig := { parameters := [.int, .int, .long, .long], returnType := some .long }, accessFlags := 10, code := some k1c1 }
def k1c2 : Code := { maxStack := 8, maxLocals := 21, code := code, exceptionTable := #[], attributes := #[] }
def k1m2 : Method := { name := "law", desc := "(IIJIJ)Z", sig := { parameters := [.int, .int, .long, .int, .long], returnType := some .boolean }, accessFlags := 9, code := some k1c2 }
/-- com/example/thyme/thyme/lang/InLocationEvaluatePinLaw -/
def k1 : Class := { plain "com/example/thyme/thyme/lang/InLocationEvaluatePinLaw" (some 0) with
  accessFlags := 49
  interfaces := #[]
  cf := some (fileOf pool1 19 #[] #[{ accessFlags := 1, nameIndex := 5, descriptorIndex := 6, attributes := #[] }, { accessFlags := 10, nameIndex := 22, descriptorIndex := 23, attributes := #[] }, { accessFlags := 9, nameIndex := 27, descriptorIndex := 28, attributes := #[] }] 49 2 #[] #[])
  fields := #[]
  methods := #[k1m0, k1m1, k1m2]
  instanceTypes := #[]
  staticTypes := #[]
  resolved := Array.replicate 37 none
  statics := none }

def pool2 : Array CpInfo := pool [(1, .methodref 2 3), (0, .class_ 4), (0, .nameAndType 5 6), (0, u "java/lang/Object"), (0, u "<init>"), (0, u "()V"), (0, .class_ 8), (0, u "java/lang/Record")] 13

def k2c0 : Code := { maxStack := 1, maxLocals := 1, code := jdk_30_method_1_code, exceptionTable := #[], attributes := #[] }
def k2m0 : Method := { name := "<init>", desc := "()V", sig := { parameters := [], returnType := none }, accessFlags := 4, code := some k2c0 }
/-- java/lang/Record -/
def k2 : Class := { plain "java/lang/Record" (some 0) with
  accessFlags := 1057
  interfaces := #[]
  cf := some (fileOf pool2 7 #[] #[{ accessFlags := 4, nameIndex := 5, descriptorIndex := 6, attributes := #[] }] 1057 2 #[] #[])
  fields := #[]
  methods := #[k2m0]
  instanceTypes := #[]
  staticTypes := #[]
  resolved := Array.replicate 22 none
  statics := none }

def pool3 : Array CpInfo := pool [(2, .class_ 4), (1, u "com/example/thyme/thyme/lang/Expression"), (2, .class_ 8), (0, u "java/lang/Object"), (14, .class_ 24), (0, u "com/example/thyme/thyme/lang/Expression$1"), (0, .class_ 26), (0, u "com/example/thyme/thyme/lang/Expression$Binary"), (0, .class_ 28), (0, u "com/example/thyme/thyme/lang/Expression$Unary"), (0, .class_ 30), (0, u "com/example/thyme/thyme/lang/Expression$ToReal"), (0, .class_ 32), (0, u "com/example/thyme/thyme/lang/Expression$InLocation"), (0, .class_ 34), (0, u "com/example/thyme/thyme/lang/Expression$Read"), (0, .class_ 36), (0, u "com/example/thyme/thyme/lang/Expression$Constant")] 8

/-- com/example/thyme/thyme/lang/Expression -/
def k3 : Class := { plain "com/example/thyme/thyme/lang/Expression" (some 0) with
  accessFlags := 1537
  interfaces := #[]
  cf := some (fileOf pool3 2 #[.nestMembers #[23, 25, 27, 29, 31, 33, 35]] #[] 1537 7 #[] #[])
  fields := #[]
  methods := #[]
  instanceTypes := #[]
  staticTypes := #[]
  resolved := Array.replicate 45 none
  statics := none }

def pool4 : Array CpInfo := pool [(1, .methodref 2 3), (0, .class_ 4), (0, .nameAndType 5 6), (0, u "java/lang/Record"), (0, u "<init>"), (0, u "()V"), (0, .fieldref 8 9), (0, .class_ 10), (0, .nameAndType 11 12), (0, u "com/example/thyme/thyme/lang/Expression$InLocation"), (0, u "slot"), (0, u "I"), (0, .fieldref 8 14), (0, .nameAndType 15 12), (0, u "location"), (18, .class_ 35), (0, u "com/example/thyme/thyme/lang/Expression"), (0, u "(II)V"), (5, u "evaluate"), (0, u "([J)J")] 31

def k4c0 : Code := { maxStack := 2, maxLocals := 3, code := prog_72_method_1_code, exceptionTable := #[], attributes := #[] }
def k4m0 : Method := { name := "<init>", desc := "(II)V", sig := { parameters := [.int, .int], returnType := none }, accessFlags := 1, code := some k4c0 }
def k4c1 : Code := { maxStack := 4, maxLocals := 2, code := prog_72_method_3_code, exceptionTable := #[], attributes := #[] }
def k4m1 : Method := { name := "evaluate", desc := "([J)J", sig := { parameters := [(.array .long)], returnType := some .long }, accessFlags := 1, code := some k4c1 }
/-- com/example/thyme/thyme/lang/Expression$InLocation -/
def k4 : Class := { plain "com/example/thyme/thyme/lang/Expression$InLocation" (some 2) with
  accessFlags := 49
  interfaces := #[3]
  cf := some (fileOf pool4 8 #[.nestHost 34] #[{ accessFlags := 1, nameIndex := 5, descriptorIndex := 36, attributes := #[] }, { accessFlags := 1, nameIndex := 42, descriptorIndex := 43, attributes := #[] }] 49 2 #[34] #[{ accessFlags := 18, nameIndex := 11, descriptorIndex := 12, attributes := #[] }, { accessFlags := 18, nameIndex := 15, descriptorIndex := 12, attributes := #[] }])
  fields := #[{ name := "slot", type := .int, accessFlags := 18, slot := 0, constantValue := 0 }, { name := "location", type := .int, accessFlags := 18, slot := 1, constantValue := 0 }]
  methods := #[k4m0, k4m1]
  instanceTypes := #[.int, .int]
  staticTypes := #[]
  resolved := Array.replicate 75 none
  statics := none }

def pool5 : Array CpInfo := pool [(1, u "java/lang/Cloneable"), (0, .class_ 1), (0, u "java/lang/Object"), (0, .class_ 3)] 3

/-- java/lang/Cloneable -/
def k5 : Class := { plain "java/lang/Cloneable" (some 0) with
  accessFlags := 1537
  interfaces := #[]
  cf := some (fileOf pool5 2 #[] #[] 1537 4 #[] #[])
  fields := #[]
  methods := #[]
  instanceTypes := #[]
  staticTypes := #[]
  resolved := Array.replicate 8 none
  statics := none }

def pool6 : Array CpInfo := pool [(1, u "java/io/Serializable"), (0, .class_ 1), (0, u "java/lang/Object"), (0, .class_ 3)] 3

/-- java/io/Serializable -/
def k6 : Class := { plain "java/io/Serializable" (some 0) with
  accessFlags := 1537
  interfaces := #[]
  cf := some (fileOf pool6 2 #[] #[] 1537 4 #[] #[])
  fields := #[]
  methods := #[]
  instanceTypes := #[]
  staticTypes := #[]
  resolved := Array.replicate 8 none
  statics := none }

/-- the primitive byte -/
def k7 : Class := { plain "byte" none with kind := .primitive 'B', accessFlags := 0x411 }
/-- [B -/
def k8 : Class := { plain "[B" (some 0) with kind := .array 7 .byte, interfaces := #[5, 6], accessFlags := 1041 }

/-- the primitive int -/
def k9 : Class := { plain "int" none with kind := .primitive 'I', accessFlags := 0x411 }
/-- [I -/
def k10 : Class := { plain "[I" (some 0) with kind := .array 9 .int, interfaces := #[5, 6], accessFlags := 1041 }

/-- the primitive long -/
def k11 : Class := { plain "long" none with kind := .primitive 'J', accessFlags := 0x411 }
/-- [J -/
def k12 : Class := { plain "[J" (some 0) with kind := .array 11 .long, interfaces := #[5, 6], accessFlags := 1041 }

def heap : Heap := #[]
def classes : Array Class := #[k0, k1, k2, k3, k4, k5, k6, k7, k8, k9, k10, k11, k12]
def interned : List (Array UInt16 × Addr) := []
def slotsUsed : Nat := 0
def theMethod : MethodId := ⟨1, 2⟩
def args0 : Array Value := #[.int 5, .int 7, .long 1, .int 3, .long 4]
def aboutOver (below : List Frame) : State where
  vm := { classes := classes, interned := interned.toArray }
  heap := heap
  slotsUsed := slotsUsed
  threads := #[{ frames := .invoking theMethod args0 :: below }]
def below0 : List Frame := [.native { method := ⟨0, 0⟩, args := #[] }]
def about1 : State := aboutOver below0
def p0 : Program := .bare "" "" ""
def e0 : Env := launch0.env 0 0 0
theorem w_frames : about1.frames = Frame.invoking theMethod args0 :: below0 := rfl
set_option maxRecDepth 65536 in
theorem w_args : argsFit about1.vm theMethod args0 = true := by decide +kernel
set_option maxRecDepth 65536 in
theorem w_heap : heapFits about1 = true := by decide +kernel
set_option maxRecDepth 65536 in
theorem w_runnable : about1.curStatus? = some .runnable := by decide +kernel
set_option maxRecDepth 65536 in
theorem w_alone : about1.alone = true := by decide +kernel
set_option maxRecDepth 65536 in
theorem w_named : about1.methodNamed? x = some theMethod := by decide +kernel
set_option maxRecDepth 65536 in
theorem w_hears : about1.hears theMethod below0 = true := by decide +kernel
set_option maxRecDepth 65536 in
theorem w_ripe : about1.ripe theMethod args0 below0 = true := by decide +kernel
theorem w_running : about1.status = .running := rfl
set_option maxRecDepth 65536 in
theorem w_room : about1.hasRoom e0.platform room_1 = true :=
  launch0.hasRoom_least _ room_1 (by decide +kernel) (by decide +kernel) (by decide +kernel) (by decide +kernel) (by decide +kernel) (by decide +kernel)
theorem allAtoms_all (ts : List Jvm.Cond) (a : Array Jvm.Value) (st : Jvm.State) : (allAtoms ts).before a st = ts.all (fun c => c.before a st) := by
  induction ts with
  | nil => rfl
  | cons c t ih =>
    show (Jvm.Cond.and c (allAtoms t)).before a st = _
    rw [Jvm.Cond.before_and, ih, List.all_cons]
def words1 : List Jvm.Cond := Jvm.Cond.code x code maxLocals ret :: tables_1
/-- a 'code' word, met by the world's own term for the bytes: nothing is compared byte by byte -/
theorem code_word {y : MethodName} {bytes : ByteArray} {mx : Nat} {rt : Option FieldType} {a : Array Value} {s : State} {m : MethodId} {meth : Method} {c : Code} (h1 : s.methodNamed? y = some m) (h2 : s.vm.method? m = some meth) (h3 : meth.code = some c) (h4 : c.code = bytes)
    (h5 : (c.maxLocals == mx && c.exceptionTable.isEmpty && decide (c.maxStack ≤ mostOperands) && decide (meth.sig.returnType = rt) && !meth.locks && decide (parseMethodDescriptor y.desc = some meth.sig)) = true) : (Jvm.Cond.code y bytes mx rt).before a s = true := by
  simp only [Bool.and_eq_true, beq_iff_eq, Bool.not_eq_true', decide_eq_true_eq] at h5
  obtain ⟨⟨⟨⟨⟨g1, g2⟩, g3⟩, g4⟩, g5⟩, g6⟩ := h5
  simp [Cond.before, Cond.holds, Cond.value, h1, h2, h3, h4, g1, g2, g3, g4, g5, g6]
def isCode : Jvm.Cond → Bool
  | .code _ _ _ _ => true
  | _ => false
theorem all_split {L : List Jvm.Cond} {P : Jvm.Cond → Bool} (h1 : L.all (fun c => isCode c || P c) = true) (h2 : ∀ c ∈ L.filter isCode, P c = true) : L.all P = true := by
  refine List.all_eq_true.mpr fun c hc => ?_
  have h := List.all_eq_true.mp h1 c hc
  rcases Bool.eq_false_or_eq_true (isCode c) with hi | hi
  · exact h2 c (List.mem_filter.mpr ⟨hc, hi⟩)
  · simpa [hi] using h
set_option maxRecDepth 65536 in
theorem w_c0 : (Jvm.Cond.code x code maxLocals ret).before args0 about1 = true := code_word (m := ⟨1, 2⟩) (meth := k1m2) (c := k1c2) (by decide +kernel) rfl rfl rfl (by decide +kernel)
set_option maxRecDepth 65536 in
theorem w_c1 : (Jvm.Cond.code ({ cls := "com/example/thyme/thyme/lang/Expression$InLocation", name := "<init>", desc := "(II)V" } : Jvm.MethodName) prog_72_method_1_code (3 : Nat) (Option.none : Option Jvm.ClassFile.FieldType)).before args0 about1 = true := code_word (m := ⟨4, 0⟩) (meth := k4m0) (c := k4c0) (by decide +kernel) rfl rfl rfl (by decide +kernel)
set_option maxRecDepth 65536 in
theorem w_c2 : (Jvm.Cond.code ({ cls := "java/lang/Record", name := "<init>", desc := "()V" } : Jvm.MethodName) jdk_30_method_1_code (1 : Nat) (Option.none : Option Jvm.ClassFile.FieldType)).before args0 about1 = true := code_word (m := ⟨2, 0⟩) (meth := k2m0) (c := k2c0) (by decide +kernel) rfl rfl rfl (by decide +kernel)
set_option maxRecDepth 65536 in
theorem w_c3 : (Jvm.Cond.code ({ cls := "java/lang/Object", name := "<init>", desc := "()V" } : Jvm.MethodName) object_method_1_code (1 : Nat) (Option.none : Option Jvm.ClassFile.FieldType)).before args0 about1 = true := code_word (m := ⟨0, 0⟩) (meth := k0m0) (c := k0c0) (by decide +kernel) rfl rfl rfl (by decide +kernel)
set_option maxRecDepth 65536 in
theorem w_c4 : (Jvm.Cond.code ({ cls := "com/example/thyme/thyme/lang/Expression$InLocation", name := "evaluate", desc := "([J)J" } : Jvm.MethodName) prog_72_method_3_code (2 : Nat) (Option.some Jvm.ClassFile.FieldType.long)).before args0 about1 = true := code_word (m := ⟨4, 1⟩) (meth := k4m1) (c := k4c1) (by decide +kernel) rfl rfl rfl (by decide +kernel)
set_option maxRecDepth 65536 in
theorem w_c5 : (Jvm.Cond.code ({ cls := "com/example/thyme/thyme/lang/InLocationEvaluatePinLaw", name := "at", desc := "(IIJJ)J" } : Jvm.MethodName) method_2_code (6 : Nat) (Option.some Jvm.ClassFile.FieldType.long)).before args0 about1 = true := code_word (m := ⟨1, 1⟩) (meth := k1m1) (c := k1c1) (by decide +kernel) rfl rfl rfl (by decide +kernel)
def codes1 : List Jvm.Cond := [Jvm.Cond.code x code maxLocals ret, Jvm.Cond.code ({ cls := "com/example/thyme/thyme/lang/Expression$InLocation", name := "<init>", desc := "(II)V" } : Jvm.MethodName) prog_72_method_1_code (3 : Nat) (Option.none : Option Jvm.ClassFile.FieldType), Jvm.Cond.code ({ cls := "java/lang/Record", name := "<init>", desc := "()V" } : Jvm.MethodName) jdk_30_method_1_code (1 : Nat) (Option.none : Option Jvm.ClassFile.FieldType), Jvm.Cond.code ({ cls := "java/lang/Object", name := "<init>", desc := "()V" } : Jvm.MethodName) object_method_1_code (1 : Nat) (Option.none : Option Jvm.ClassFile.FieldType), Jvm.Cond.code ({ cls := "com/example/thyme/thyme/lang/Expression$InLocation", name := "evaluate", desc := "([J)J" } : Jvm.MethodName) prog_72_method_3_code (2 : Nat) (Option.some Jvm.ClassFile.FieldType.long), Jvm.Cond.code ({ cls := "com/example/thyme/thyme/lang/InLocationEvaluatePinLaw", name := "at", desc := "(IIJJ)J" } : Jvm.MethodName) method_2_code (6 : Nat) (Option.some Jvm.ClassFile.FieldType.long)]
set_option maxRecDepth 65536 in
theorem codes_eq : words1.filter isCode = codes1 := rfl
theorem w_codes : ∀ c ∈ words1.filter isCode, c.before args0 about1 = true := by
  rw [codes_eq]
  intro c hc
  simp only [codes1, List.mem_cons, List.not_mem_nil, or_false] at hc
  rcases hc with rfl | rfl | rfl | rfl | rfl | rfl
  · exact w_c0
  · exact w_c1
  · exact w_c2
  · exact w_c3
  · exact w_c4
  · exact w_c5
set_option maxRecDepth 65536 in
theorem w_t1 : (words1.take 24).all (fun c => isCode c || c.before args0 about1) = true := by decide +kernel
set_option maxRecDepth 65536 in
theorem w_t2 : (words1.drop 24).all (fun c => isCode c || c.before args0 about1) = true := by decide +kernel
theorem w_tables : (allAtoms (Jvm.Cond.code x code maxLocals ret :: tables_1)).before args0 about1 = true := by
  rw [allAtoms_all]
  show words1.all (fun c => c.before args0 about1) = true
  refine all_split ?_ w_codes
  rw [← List.take_append_drop 24 words1, List.all_append, w_t1, w_t2]
  rfl
set_option maxRecDepth 65536 in
theorem w_case : (Jvm.Cond.and given_1 narrow_1).before args0 about1 = true := by decide +kernel
theorem w_applies : (headSpec (Jvm.Cond.code x code maxLocals ret :: tables_1) room_1).applies x e0.platform about1 = true :=
  (Spec.applies_iff w_frames).mpr ⟨w_running, w_runnable, w_alone, w_named, w_hears, w_ripe, w_room, w_tables⟩
theorem atStart : AtStart classFile x code maxLocals ret World_1 tables_1 room_1 Calls_1 rest_1 Pre_1 launch0 p0 e0 about1 theMethod args0 below0 :=
  ⟨lists_1, trivial, launch0.admits_env _ _ _, launch0.least_env, fairChoices_fair.cas, fairChoices_fair.clock, w_frames, w_args, w_heap, w_applies, trivial, trivial, w_case⟩
end start1
theorem witness_1 : WitnessClaimed_1 := ⟨start1.p0, start1.e0, start1.about1, start1.theMethod, start1.args0, start1.below0, start1.atStart⟩
end Jvm.Pilot.@@N@@
