import JvmDerived
import JvmDerived.Pilot.@@N@@Statement
import JvmDerived.Pilot.@@N@@Code
set_option linter.unusedVariables false
set_option linter.unusedSimpArgs false
namespace Jvm.RoadKit
open Sem ClassFile Op Lib Jvm.Stand Jvm.Free Jvm.LawKit
section New
variable {p : Program} {l : Launch} {e : Env} {R : Room} {s : State} {m : MethodId} {args : Array Value} {below : List Frame} {meth : Method} {c : Code} {T : State} {locs : List Loc} {cells slots : Nat}
theorem retI (X : Stand p l e R s m args below meth c T locs cells slots) (hx : p.tables.exec = Jvm.exec) {pc : Nat} {Ls : Array Slot} {z : Int32} {rest : List Value} (hret : meth.sig.returnType = some .int) (hd : decode c.code pc = .ok (.ireturn, 1)) {fs : List Frame}
    (hl : ∀ (f : JFrame) (acts : List Action), f.method = m → f.locked = none → f.entered = [] → (doReturn e (T.setTop f) acts (some (.int z))).1 = T.setFrames fs) : Steps p.tables e below (T.setTop (mkF m pc Ls (.int z :: rest))) (T.setFrames fs) := by
  have hm' : T.vm.method? m = some meth := X.method'
  have hn : narrow .int (.int z) = .int z := rfl
  show Steps p.tables e below (T.setTop { method := m, pc := pc, locals := Ls, stack := _ :: rest, locked := none }) _
  jvm_step X.here [X.here.top, hx, hd, hm', hret, hn]
  first | (intro acts; rw [hl _ acts rfl rfl rfl]) | rw [hl _ _ rfl rfl rfl]
  exact Steps.refl _
end New
end Jvm.RoadKit
namespace Jvm.Pilot.@@N@@
open Jvm Jvm.ClassFile Sem Op Lib Jvm.Free Jvm.Stand Jvm.LawKit Jvm.RoadKit Bundle Jvm.Pilot.@@N@@.Jvm.D
theorem own_d5_0 : decode jdk_18_method_1_code 0 = .ok (.aload_n 0, 1) := by decide +kernel
theorem own_d5_1 : decode jdk_18_method_1_code 1 = .ok (.invokespecial 1, 3) := by decide +kernel
theorem own_d5_4 : decode jdk_18_method_1_code 4 = .ok (.return_, 1) := by decide +kernel
theorem own_pn3 : plainName "java/lang/Number" = true := by first | (simp [plainName, overriddenIn]; done) | decide +kernel
theorem own_ef5 (m : MethodId) (a0 : Addr) : entryFrame m #[(.ref a0)] 1 = mkF m 0 #[.val (.ref a0)] [] := by first | (simp [entryFrame, mkF, argsToLocals, Value.category]; done) | rfl
def own_Q5 (Z : State) (a0 : Addr) (h0 : Heap) (n0 : Nat) (v : Option Value) (h : Heap) (L : List Loc) : Prop := v = none ∧ Fr n0 L ∧ h = h0
set_option maxRecDepth 65536 in
set_option maxHeartbeats 40000000 in
theorem own_rm5 (l : Launch) (Z : State) (av : Array Value) (hw : ∀ d ∈ tables_1, d.before av Z = true) (ws : List Jvm.Cond) (a0 : Addr) (h0 : Heap) (n0 : Nat) (Z0 : n0 ≤ h0.size) :
    MetFree l (⟨"java/lang/Number", "<init>", "()V"⟩ : MethodName) (head1 (Jvm.Cond.code (⟨"java/lang/Number", "<init>", "()V"⟩ : MethodName) jdk_18_method_1_code 1 none :: ws) ({ frames := 1, cells := 0, slots := 0, locals := 12 } : Room)) (fun a U => a = #[(.ref a0)] ∧ Z.Warmed39 U.vm ∧ U.heap = h0) (fun _ _ _ _ _ => True) (fun _ U o U' => ∃ v L, o = .returned v ∧ own_Q5 Z a0 h0 n0 v U'.heap L ∧ FrameEnd U o U' L ({ frames := 1, cells := 0, slots := 0, locals := 12 } : Room).cells ({ frames := 1, cells := 0, slots := 0, locals := 12 } : Room).slots) := by
  refine MetFree.of_bodySF (plainFor_of_name own_pn3) hisR ?_
  intro p e s m args below meth c s₁ Bd hml0 hP hK
  obtain ⟨rfl, hZ, hh⟩ := hP
  have hx := Bd.exec
  have hby := Bd.bytes
  have hml : c.maxLocals = 1 := hml0
  have hown : s.vm.findClass "java/lang/Number" = some m.cls := findClass_of_methodNamed Bd.named
  have hnm := (name_of_methodNamed Bd.named Bd.method).1
  have X0 : Stand p l e ({ frames := 1, cells := 0, slots := 0, locals := 12 } : Room) s m #[(.ref a0)] below meth c s₁ [] 0 0 := Stand.of_body Bd
  have e0 : s₁.heap = h0 := by rw [← hh, Bd.state]; rfl
  have N0 := Fr.nil n0
  have pre0 : ∀ t, Steps p.tables e below (s₁.setTop (mkF m 0 #[.val (.ref a0)] [])) t → Steps p.tables e below (s₁.setTop (entryFrame m #[(.ref a0)] 1)) t := fun t k => castTop (own_ef5 m a0) k
  obtain ⟨T1, X1, e1, st1⟩ := initO X0 hx hZ hown (hw _ (List.mem_of_getElem? (i := 33) rfl)) (hw _ (List.mem_of_getElem? (i := 34) rfl)) (hw _ (List.mem_of_getElem? (i := 35) rfl)) e0 (g := (mkF m 1 #[.val (.ref a0)] [(.ref a0)])) rfl (by rw [hml]; rfl) rfl (hb hby own_d5_1) (by decide) (W := 0) (by show 2 * 0 + _ ≤ _; exact Nat.le_of_eq rfl) (by decide)
  obtain ⟨fs, hr, hrun, hended, hW, hsame⟩ := X1.leave (v := none) (fun _ => rfl)
  refine ⟨_, _, pre0 _ ?_, hrun, hended, _, _, rfl, ?_, ⟨_, rfl⟩, hW, hsame.mono (by decide) (by decide)⟩
  · show Steps p.tables e below (s₁.setTop (mkF m 0 #[.val (.ref a0)] [])) _
    refine XS.aloadN X0.here hx rfl (hb hby own_d5_0) rfl rfl ?_
    show Steps p.tables e below (s₁.setTop (mkF m 1 #[.val (.ref a0)] [(.ref a0)])) _
    refine st1 _ ?_
    show Steps p.tables e below (T1.setTop (mkF m 4 #[.val (.ref a0)] [])) _
    exact X1.returnOut hx Bd.returns (hb hby own_d5_4) hr
  · show own_Q5 Z a0 h0 n0 _ T1.heap _
    rw [e1]
    exact ⟨rfl, N0, rfl⟩
theorem own_d4_0 : decode jdk_35_method_26_code 0 = .ok (.aload_n 0, 1) := by decide +kernel
theorem own_pd0 : parseMethodDescriptor "()V" = some ⟨[], none⟩ := by decide +kernel
theorem own_d4_1 : decode jdk_35_method_26_code 1 = .ok (.invokespecial 270, 3) := by decide +kernel
theorem own_d4_4 : decode jdk_35_method_26_code 4 = .ok (.aload_n 0, 1) := by decide +kernel
theorem own_d4_5 : decode jdk_35_method_26_code 5 = .ok (.lload_n 1, 1) := by decide +kernel
theorem own_d4_6 : decode jdk_35_method_26_code 6 = .ok (.putfield 273, 3) := by decide +kernel
theorem own_d4_9 : decode jdk_35_method_26_code 9 = .ok (.return_, 1) := by decide +kernel
theorem own_pn10 : plainName "java/lang/Long" = true := by first | (simp [plainName, overriddenIn]; done) | decide +kernel
theorem own_ef4 (m : MethodId) (a0 : Addr) (q1 : Int64) : entryFrame m #[(.ref a0), (.long q1)] 3 = mkF m 0 #[.val (.ref a0), .val (.long q1), .second] [] := by first | (simp [entryFrame, mkF, argsToLocals, Value.category]; done) | rfl
def own_Q4 (Z : State) (a0 : Addr) (q1 : Int64) (h0 : Heap) (n0 : Nat) (v : Option Value) (h : Heap) (L : List Loc) : Prop := v = none ∧ Fr n0 L ∧ Keep h0 h [a0] ∧ (Exa Z h a0 "java/lang/Long") ∧ (Fld Z h a0 "java/lang/Long" "value" "J" (.long q1))
set_option maxRecDepth 65536 in
set_option maxHeartbeats 40000000 in
theorem own_rm4 (l : Launch) (Z : State) (av : Array Value) (hw : ∀ d ∈ tables_1, d.before av Z = true) (ws : List Jvm.Cond) (a0 : Addr) (q1 : Int64) (h0 : Heap) (n0 : Nat) (Z0 : n0 ≤ h0.size) (pr0 : Exa Z h0 a0 "java/lang/Long") (pr1 : Fld Z h0 a0 "java/lang/Long" "value" "J" (.long (0 : Int64))) (g_a0 : n0 ≤ a0) :
    MetFree l (⟨"java/lang/Long", "<init>", "(J)V"⟩ : MethodName) (head1 (Jvm.Cond.code (⟨"java/lang/Long", "<init>", "(J)V"⟩ : MethodName) jdk_35_method_26_code 3 none :: ws) ({ frames := 2, cells := 0, slots := 0, locals := 24 } : Room)) (fun a U => a = #[(.ref a0), (.long q1)] ∧ Z.Warmed39 U.vm ∧ U.heap = h0) (fun _ _ _ _ _ => True) (fun _ U o U' => ∃ v L, o = .returned v ∧ own_Q4 Z a0 q1 h0 n0 v U'.heap L ∧ FrameEnd U o U' L ({ frames := 2, cells := 0, slots := 0, locals := 24 } : Room).cells ({ frames := 2, cells := 0, slots := 0, locals := 24 } : Room).slots) := by
  refine MetFree.of_bodySF (plainFor_of_name own_pn10) hisR ?_
  intro p e s m args below meth c s₁ Bd hml0 hP hK
  obtain ⟨rfl, hZ, hh⟩ := hP
  have hx := Bd.exec
  have hby := Bd.bytes
  have hml : c.maxLocals = 3 := hml0
  have hown : s.vm.findClass "java/lang/Long" = some m.cls := findClass_of_methodNamed Bd.named
  have hnm := (name_of_methodNamed Bd.named Bd.method).1
  have X0 : Stand p l e ({ frames := 2, cells := 0, slots := 0, locals := 24 } : Room) s m #[(.ref a0), (.long q1)] below meth c s₁ [] 0 0 := Stand.of_body Bd
  have e0 : s₁.heap = h0 := by rw [← hh, Bd.state]; rfl
  have N0 := Fr.nil n0
  have pre0 : ∀ t, Steps p.tables e below (s₁.setTop (mkF m 0 #[.val (.ref a0), .val (.long q1), .second] [])) t → Steps p.tables e below (s₁.setTop (entryFrame m #[(.ref a0), (.long q1)] 3)) t := fun t k => castTop (own_ef4 m a0 q1) k
  obtain ⟨_, _, ⟨T2, L2, k2, n2⟩, -, X2, ⟨Lc2, hQ2, l2, y2, z2⟩, st2⟩ := X0.specialBack hx (y := (⟨"java/lang/Number", "<init>", "()V"⟩ : MethodName)) rfl hown (mvT hZ (hw _ (List.mem_of_getElem? (i := 27) rfl))) (mvT hZ (hw _ (List.mem_of_getElem? (i := 28) rfl))) (mvT hZ (hw _ (List.mem_of_getElem? (i := 32) rfl))) (by decide) (backOf (W := 0) (own_rm5 l Z av hw [] a0 h0 n0 Z0 ) hZ (hw _ (List.mem_of_getElem? (i := 32) rfl)) (hw _ (List.mem_of_getElem? (i := 31) rfl)) (by decide) (by decide)) (g := (mkF m 1 #[.val (.ref a0), .val (.long q1), .second] [(.ref a0)])) rfl (by rw [hml]; rfl) (Steps.refl _) (a := a0) (argsL := []) (rest := []) (lenOf own_pd0 rfl) rfl (by show 2 * 0 + _ ≤ _; exact Nat.le_of_eq rfl) (hb hby own_d4_1) (fun _ _ => ⟨rfl, e0, (by decide : 0 + 0 ≤ _), (by decide : 0 + 0 ≤ _)⟩)
  dsimp only [Pt.U, Pt.locs, Pt.cells, Pt.slots] at X2 l2 y2 z2 st2 hQ2
  subst l2 y2 z2
  obtain ⟨rfl, N2q, e4⟩ := hQ2
  have N3 := Fr.app N0 N2q
  obtain ⟨T5, h5, X5, e5, W5, st5⟩ := putF X2 hx hZ hown (host := "") (Or.inl (hw _ (List.mem_of_getElem? (i := 19) rfl))) Via.refl e4 pr1 pr0 (Or.inr ⟨(hw _ (List.mem_of_getElem? (i := 20) rfl)), rfl, hnm⟩) (hw _ (List.mem_of_getElem? (i := 23) rfl)) (ty := .long) (by decide) rfl rfl (g := (mkF m 6 #[.val (.ref a0), .val (.long q1), .second] [(.long q1), (.ref a0)])) rfl rfl (hb hby own_d4_6)
  have f6 := pr0.wr W5
  have K7 : Keep h0 h5 [a0] := (Keep.refl h0 [a0]).wr W5 (Or.inl (List.mem_of_getElem? (i := 0) rfl))
  have z8 : n0 ≤ h5.size := Nat.le_trans Z0 (Keep.of_wr W5).1
  have N9 := Fr.snoc X5 N3 g_a0
  have f10 : Fld Z h5 a0 "java/lang/Long" "value" "J" (.long q1) := pr1.same W5
  obtain ⟨fs, hr, hrun, hended, hW, hsame⟩ := X5.leave (v := none) (fun _ => rfl)
  refine ⟨_, _, pre0 _ ?_, hrun, hended, _, _, rfl, ?_, ⟨_, rfl⟩, hW, hsame.mono (by decide) (by decide)⟩
  · show Steps p.tables e below (s₁.setTop (mkF m 0 #[.val (.ref a0), .val (.long q1), .second] [])) _
    refine XS.aloadN X0.here hx rfl (hb hby own_d4_0) rfl rfl ?_
    show Steps p.tables e below (s₁.setTop (mkF m 1 #[.val (.ref a0), .val (.long q1), .second] [(.ref a0)])) _
    refine st2.trans ?_
    show Steps p.tables e below (T2.setTop (mkF m 4 #[.val (.ref a0), .val (.long q1), .second] [])) _
    refine XS.aloadN X2.here hx rfl (hb hby own_d4_4) rfl rfl ?_
    show Steps p.tables e below (T2.setTop (mkF m 5 #[.val (.ref a0), .val (.long q1), .second] [(.ref a0)])) _
    refine XS.lloadN X2.here hx rfl (hb hby own_d4_5) rfl ?_
    show Steps p.tables e below (T2.setTop (mkF m 6 #[.val (.ref a0), .val (.long q1), .second] [(.long q1), (.ref a0)])) _
    refine st5 _ ?_
    show Steps p.tables e below (T5.setTop (mkF m 9 #[.val (.ref a0), .val (.long q1), .second] [])) _
    exact X5.returnOut hx Bd.returns (hb hby own_d4_9) hr
  · show own_Q4 Z a0 q1 h0 n0 _ T5.heap _
    rw [e5]
    exact ⟨rfl, N9, K7, f6, f10⟩
theorem own_d1_0 : decode jdk_35_method_24_code 0 = .ok (.sipush 128, 3) := by decide +kernel
theorem own_d1_3 : decode jdk_35_method_24_code 3 = .ok (.istore_n 2, 1) := by decide +kernel
theorem own_d1_4 : decode jdk_35_method_24_code 4 = .ok (.lload_n 0, 1) := by decide +kernel
theorem own_d1_5 : decode jdk_35_method_24_code 5 = .ok (.ldc2_w 230, 3) := by decide +kernel
theorem own_d1_8 : decode jdk_35_method_24_code 8 = .ok (.lcmp, 1) := by decide +kernel
theorem own_d1_9 : decode jdk_35_method_24_code 9 = .ok (.ifCond .lt 22, 3) := by decide +kernel
theorem own_d1_12 : decode jdk_35_method_24_code 12 = .ok (.lload_n 0, 1) := by decide +kernel
theorem own_d1_13 : decode jdk_35_method_24_code 13 = .ok (.ldc2_w 232, 3) := by decide +kernel
theorem own_d1_16 : decode jdk_35_method_24_code 16 = .ok (.lcmp, 1) := by decide +kernel
theorem own_d1_17 : decode jdk_35_method_24_code 17 = .ok (.ifCond .gt 14, 3) := by decide +kernel
theorem own_d1_20 : decode jdk_35_method_24_code 20 = .ok (.getstatic 234, 3) := by decide +kernel
theorem own_d1_23 : decode jdk_35_method_24_code 23 = .ok (.lload_n 0, 1) := by decide +kernel
theorem own_d1_24 : decode jdk_35_method_24_code 24 = .ok (.l2i, 1) := by decide +kernel
theorem own_d1_25 : decode jdk_35_method_24_code 25 = .ok (.sipush 128, 3) := by decide +kernel
theorem own_d1_28 : decode jdk_35_method_24_code 28 = .ok (.iadd, 1) := by decide +kernel
theorem own_d1_29 : decode jdk_35_method_24_code 29 = .ok (.aaload, 1) := by decide +kernel
theorem own_d1_30 : decode jdk_35_method_24_code 30 = .ok (.areturn, 1) := by decide +kernel
theorem own_efVc (m : MethodId) (q0 : Int64) : entryFrame m #[(.long q0)] 3 = mkF m 0 #[.val (.long q0), .second, .unset] [] := by first | (simp [entryFrame, mkF, argsToLocals, Value.category]; done) | rfl
def own_QVc (Z : State) (q0 : Int64) (ca : Addr) (cl : Cell) (b : Addr) (h0 : Heap) (n0 : Nat) (v : Option Value) (h : Heap) (L : List Loc) : Prop := v = some (.ref b) ∧ Fr n0 L ∧ h = h0
set_option maxRecDepth 65536 in
set_option maxHeartbeats 40000000 in
theorem own_rmVc (l : Launch) (Z : State) (av : Array Value) (hw : ∀ d ∈ tables_1, d.before av Z = true) (ws : List Jvm.Cond) (q0 : Int64) (ca : Addr) (cl : Cell) (b : Addr) (h0 : Heap) (n0 : Nat) (Z0 : n0 ≤ h0.size) (pr0 : Sta Z h0 "java/lang/Long$LongCache" "cache" "[Ljava/lang/Long;" (.ref ca)) (Ar : Arr Z h0 ca cl (.object "java/lang/Long")) (hin : ¬ (((q0.toInt32) + (128 : Int32)) < 0 ∨ cl.slots.size ≤ (((q0.toInt32) + (128 : Int32))).toNatClampNeg)) (hat : cl.slots[(((q0.toInt32) + (128 : Int32))).toNatClampNeg]? = some (.ref b)) (hc1 : ¬ (q0 < (-128 : Int64))) (hc2 : ¬ ((127 : Int64) < q0)) :
    MetFree l (⟨"java/lang/Long", "valueOf", "(J)Ljava/lang/Long;"⟩ : MethodName) (head1 (Jvm.Cond.code (⟨"java/lang/Long", "valueOf", "(J)Ljava/lang/Long;"⟩ : MethodName) jdk_35_method_24_code 3 (some (.object "java/lang/Long")) :: ws) ({ frames := 0, cells := 0, slots := 0, locals := 0 } : Room)) (fun a U => a = #[(.long q0)] ∧ Z.Warmed39 U.vm ∧ U.heap = h0) (fun _ _ _ _ _ => True) (fun _ U o U' => ∃ v L, o = .returned v ∧ own_QVc Z q0 ca cl b h0 n0 v U'.heap L ∧ FrameEnd U o U' L ({ frames := 0, cells := 0, slots := 0, locals := 0 } : Room).cells ({ frames := 0, cells := 0, slots := 0, locals := 0 } : Room).slots) := by
  refine MetFree.of_bodySF (plainFor_of_name own_pn10) hisR ?_
  intro p e s m args below meth c s₁ Bd hml0 hP hK
  obtain ⟨rfl, hZ, hh⟩ := hP
  have hx := Bd.exec
  have hby := Bd.bytes
  have hml : c.maxLocals = 3 := hml0
  have hown : s.vm.findClass "java/lang/Long" = some m.cls := findClass_of_methodNamed Bd.named
  have hnm := (name_of_methodNamed Bd.named Bd.method).1
  have X0 : Stand p l e ({ frames := 0, cells := 0, slots := 0, locals := 0 } : Room) s m #[(.long q0)] below meth c s₁ [] 0 0 := Stand.of_body Bd
  have e0 : s₁.heap = h0 := by rw [← hh, Bd.state]; rfl
  have N0 := Fr.nil n0
  have pre0 : ∀ t, Steps p.tables e below (s₁.setTop (mkF m 0 #[.val (.long q0), .second, .unset] [])) t → Steps p.tables e below (s₁.setTop (entryFrame m #[(.long q0)] 3)) t := fun t k => castTop (own_efVc m q0) k
  obtain ⟨T11, X11, e11, st11⟩ := getS2 X0 hx hZ hown (host := "") (Or.inl (hw _ (List.mem_of_getElem? (i := 6) rfl))) Via.refl e0 pr0 (g := (mkF m 20 #[.val (.long q0), .second, .val (.int (128 : Int32))] [])) rfl (hb hby own_d1_20)
  obtain ⟨fs, hr, hrun, hended, hW, hsame⟩ := X11.leave (v := some (.ref b)) (fun h => by rw [Bd.returns] at h; cases h)
  refine ⟨_, _, pre0 _ ?_, hrun, hended, _, _, rfl, ?_, ⟨_, rfl⟩, hW, hsame.mono (by decide) (by decide)⟩
  · show Steps p.tables e below (s₁.setTop (mkF m 0 #[.val (.long q0), .second, .unset] [])) _
    refine XS.sipush X0.here hx rfl (hb hby own_d1_0) ?_
    show Steps p.tables e below (s₁.setTop (mkF m 3 #[.val (.long q0), .second, .unset] [(.int (128 : Int32))])) _
    refine XS.istoreN X0.here hx rfl (hb hby own_d1_3) rfl (l' := #[.val (.long q0), .second, .val (.int (128 : Int32))]) rfl ?_
    show Steps p.tables e below (s₁.setTop (mkF m 4 #[.val (.long q0), .second, .val (.int (128 : Int32))] [])) _
    refine XS.lloadN X0.here hx rfl (hb hby own_d1_4) rfl ?_
    show Steps p.tables e below (s₁.setTop (mkF m 5 #[.val (.long q0), .second, .val (.int (128 : Int32))] [(.long q0)])) _
    refine X0.ldc2Long hx hown (mvT hZ (hw _ (List.mem_of_getElem? (i := 4) rfl))) (g := (mkF m 5 #[.val (.long q0), .second, .val (.int (128 : Int32))] [(.long q0)])) rfl (hb hby own_d1_5) _ ?_
    show Steps p.tables e below (s₁.setTop (mkF m 8 #[.val (.long q0), .second, .val (.int (128 : Int32))] [(.long (-128 : Int64)), (.long q0)])) _
    refine XS.lcmp X0.here hx rfl (hb hby own_d1_8) rfl ?_
    show Steps p.tables e below (s₁.setTop (mkF m 9 #[.val (.long q0), .second, .val (.int (128 : Int32))] [(.int (lcmpW q0 (-128 : Int64)))])) _
    refine XS.ifNo X0.here hx rfl (hb hby own_d1_9) rfl ((if0 _ _).trans (flt (mt (lw_lt q0 (-128 : Int64)).mp (hc1 : ¬ (q0 < (-128 : Int64))))).1) ?_
    show Steps p.tables e below (s₁.setTop (mkF m 12 #[.val (.long q0), .second, .val (.int (128 : Int32))] [])) _
    refine XS.lloadN X0.here hx rfl (hb hby own_d1_12) rfl ?_
    show Steps p.tables e below (s₁.setTop (mkF m 13 #[.val (.long q0), .second, .val (.int (128 : Int32))] [(.long q0)])) _
    refine X0.ldc2Long hx hown (mvT hZ (hw _ (List.mem_of_getElem? (i := 5) rfl))) (g := (mkF m 13 #[.val (.long q0), .second, .val (.int (128 : Int32))] [(.long q0)])) rfl (hb hby own_d1_13) _ ?_
    show Steps p.tables e below (s₁.setTop (mkF m 16 #[.val (.long q0), .second, .val (.int (128 : Int32))] [(.long (127 : Int64)), (.long q0)])) _
    refine XS.lcmp X0.here hx rfl (hb hby own_d1_16) rfl ?_
    show Steps p.tables e below (s₁.setTop (mkF m 17 #[.val (.long q0), .second, .val (.int (128 : Int32))] [(.int (lcmpW q0 (127 : Int64)))])) _
    refine XS.ifNo X0.here hx rfl (hb hby own_d1_17) rfl ((if0 _ _).trans (flt (mt (lw_gt q0 (127 : Int64)).mp (hc2 : ¬ ((127 : Int64) < q0)))).2.2.1) ?_
    show Steps p.tables e below (s₁.setTop (mkF m 20 #[.val (.long q0), .second, .val (.int (128 : Int32))] [])) _
    refine st11 _ ?_
    show Steps p.tables e below (T11.setTop (mkF m 23 #[.val (.long q0), .second, .val (.int (128 : Int32))] [(.ref ca)])) _
    refine XS.lloadN X11.here hx rfl (hb hby own_d1_23) rfl ?_
    show Steps p.tables e below (T11.setTop (mkF m 24 #[.val (.long q0), .second, .val (.int (128 : Int32))] [(.long q0), (.ref ca)])) _
    refine XS.l2i X11.here hx rfl (hb hby own_d1_24) rfl ?_
    show Steps p.tables e below (T11.setTop (mkF m 25 #[.val (.long q0), .second, .val (.int (128 : Int32))] [(.int (q0.toInt32)), (.ref ca)])) _
    refine XS.sipush X11.here hx rfl (hb hby own_d1_25) ?_
    show Steps p.tables e below (T11.setTop (mkF m 28 #[.val (.long q0), .second, .val (.int (128 : Int32))] [(.int (128 : Int32)), (.int (q0.toInt32)), (.ref ca)])) _
    refine XS.iadd X11.here hx rfl (hb hby own_d1_28) rfl ?_
    show Steps p.tables e below (T11.setTop (mkF m 29 #[.val (.long q0), .second, .val (.int (128 : Int32))] [(.int ((q0.toInt32) + (128 : Int32))), (.ref ca)])) _
    refine X11.aaload hx (j := ((q0.toInt32) + (128 : Int32))) (v := (.ref b)) (by rw [e11]; exact Ar.1) (State.isArrayOf_alike hZ.alike Ar.2.1) rfl Ar.2.2 hin hat (g := (mkF m 29 #[.val (.long q0), .second, .val (.int (128 : Int32))] [(.int ((q0.toInt32) + (128 : Int32))), (.ref ca)])) rfl rfl (hb hby own_d1_29) _ ?_
    show Steps p.tables e below (T11.setTop (mkF m 30 #[.val (.long q0), .second, .val (.int (128 : Int32))] [(.ref b)])) _
    exact retOut X11 hx (t := (.object "java/lang/Long")) (i := .areturn) Bd.returns rfl (Or.inr (Or.inr (Or.inr (Or.inr ⟨rfl, rfl, rfl⟩)))) (hb hby own_d1_30) hr
  · show own_QVc Z q0 ca cl b h0 n0 _ T11.heap _
    rw [e11]
    exact ⟨rfl, N0, rfl⟩
theorem own_d1_31 : decode jdk_35_method_24_code 31 = .ok (.new 1, 3) := by decide +kernel
theorem own_d1_34 : decode jdk_35_method_24_code 34 = .ok (.dup, 1) := by decide +kernel
theorem own_d1_35 : decode jdk_35_method_24_code 35 = .ok (.lload_n 0, 1) := by decide +kernel
theorem own_pd1 : parseMethodDescriptor "(J)V" = some ⟨[.long], none⟩ := by decide +kernel
theorem own_d1_36 : decode jdk_35_method_24_code 36 = .ok (.invokespecial 240, 3) := by decide +kernel
theorem own_d1_39 : decode jdk_35_method_24_code 39 = .ok (.areturn, 1) := by decide +kernel
theorem own_efVf (m : MethodId) (q0 : Int64) : entryFrame m #[(.long q0)] 3 = mkF m 0 #[.val (.long q0), .second, .unset] [] := by first | (simp [entryFrame, mkF, argsToLocals, Value.category]; done) | rfl
def own_QVf (Z : State) (q0 : Int64) (h0 : Heap) (n0 : Nat) (v : Option Value) (h : Heap) (L : List Loc) : Prop := ∃ b : Addr, v = some (.ref b) ∧ Fr n0 L ∧ Keep h0 h [] ∧ n0 ≤ b ∧ h0.size ≤ b ∧ (Exa Z h b "java/lang/Long") ∧ (Fld Z h b "java/lang/Long" "value" "J" (.long q0))
set_option maxRecDepth 65536 in
set_option maxHeartbeats 40000000 in
theorem own_rmVf (l : Launch) (Z : State) (av : Array Value) (hw : ∀ d ∈ tables_1, d.before av Z = true) (ws : List Jvm.Cond) (q0 : Int64) (h0 : Heap) (n0 : Nat) (Z0 : n0 ≤ h0.size) (hf : q0 < (-128 : Int64) ∨ (127 : Int64) < q0) :
    MetFree l (⟨"java/lang/Long", "valueOf", "(J)Ljava/lang/Long;"⟩ : MethodName) (head1 (Jvm.Cond.code (⟨"java/lang/Long", "valueOf", "(J)Ljava/lang/Long;"⟩ : MethodName) jdk_35_method_24_code 3 (some (.object "java/lang/Long")) :: ws) ({ frames := 3, cells := 1, slots := 1, locals := 39 } : Room)) (fun a U => a = #[(.long q0)] ∧ Z.Warmed39 U.vm ∧ U.heap = h0) (fun _ _ _ _ _ => True) (fun _ U o U' => ∃ v L, o = .returned v ∧ own_QVf Z q0 h0 n0 v U'.heap L ∧ FrameEnd U o U' L ({ frames := 3, cells := 1, slots := 1, locals := 39 } : Room).cells ({ frames := 3, cells := 1, slots := 1, locals := 39 } : Room).slots) := by
  refine MetFree.of_bodySF (plainFor_of_name own_pn10) hisR ?_
  intro p e s m args below meth c s₁ Bd hml0 hP hK
  obtain ⟨rfl, hZ, hh⟩ := hP
  have hx := Bd.exec
  have hby := Bd.bytes
  have hml : c.maxLocals = 3 := hml0
  have hown : s.vm.findClass "java/lang/Long" = some m.cls := findClass_of_methodNamed Bd.named
  have hnm := (name_of_methodNamed Bd.named Bd.method).1
  have X0 : Stand p l e ({ frames := 3, cells := 1, slots := 1, locals := 39 } : Room) s m #[(.long q0)] below meth c s₁ [] 0 0 := Stand.of_body Bd
  have e0 : s₁.heap = h0 := by rw [← hh, Bd.state]; rfl
  have N0 := Fr.nil n0
  have pre0 : ∀ t, Steps p.tables e below (s₁.setTop (mkF m 0 #[.val (.long q0), .second, .unset] [])) t → Steps p.tables e below (s₁.setTop (entryFrame m #[(.long q0)] 3)) t := fun t k => castTop (own_efVf m q0) k
  have pre12 : ∀ t, Steps p.tables e below (s₁.setTop (mkF m 9 #[.val (.long q0), .second, .val (.int (128 : Int32))] [(.int (lcmpW q0 (-128 : Int64)))])) t → Steps p.tables e below (s₁.setTop (entryFrame m #[(.long q0)] 3)) t := fun t kk => pre0 t (by
    show Steps p.tables e below (s₁.setTop (mkF m 0 #[.val (.long q0), .second, .unset] [])) _
    refine XS.sipush X0.here hx rfl (hb hby own_d1_0) ?_
    show Steps p.tables e below (s₁.setTop (mkF m 3 #[.val (.long q0), .second, .unset] [(.int (128 : Int32))])) _
    refine XS.istoreN X0.here hx rfl (hb hby own_d1_3) rfl (l' := #[.val (.long q0), .second, .val (.int (128 : Int32))]) rfl ?_
    show Steps p.tables e below (s₁.setTop (mkF m 4 #[.val (.long q0), .second, .val (.int (128 : Int32))] [])) _
    refine XS.lloadN X0.here hx rfl (hb hby own_d1_4) rfl ?_
    show Steps p.tables e below (s₁.setTop (mkF m 5 #[.val (.long q0), .second, .val (.int (128 : Int32))] [(.long q0)])) _
    refine X0.ldc2Long hx hown (mvT hZ (hw _ (List.mem_of_getElem? (i := 4) rfl))) (g := (mkF m 5 #[.val (.long q0), .second, .val (.int (128 : Int32))] [(.long q0)])) rfl (hb hby own_d1_5) _ ?_
    show Steps p.tables e below (s₁.setTop (mkF m 8 #[.val (.long q0), .second, .val (.int (128 : Int32))] [(.long (-128 : Int64)), (.long q0)])) _
    refine XS.lcmp X0.here hx rfl (hb hby own_d1_8) rfl ?_
    show Steps p.tables e below (s₁.setTop (mkF m 9 #[.val (.long q0), .second, .val (.int (128 : Int32))] [(.int (lcmpW q0 (-128 : Int64)))])) _
    exact kk)
  by_cases hc13 : q0 < (-128 : Int64)
  · obtain ⟨T14, h14, X14, e14, E14, A14, D14, -, st14⟩ := newO X0 hx hZ hown (hw _ (List.mem_of_getElem? (i := 22) rfl)) (hw _ (List.mem_of_getElem? (i := 23) rfl)) (hw _ (List.mem_of_getElem? (i := 2) rfl)) e0 (g := (mkF m 31 #[.val (.long q0), .second, .val (.int (128 : Int32))] [])) rfl (hb hby own_d1_31) (by decide) (by decide)
    obtain ⟨b14, g14⟩ : ∃ z, z = h0.size := ⟨_, rfl⟩
    have g_b14 : n0 ≤ b14 := Nat.le_trans Z0 (Nat.le_of_eq g14.symm)
    have sz_b14 : h0.size ≤ b14 := Nat.le_trans (Keep.refl h0 []).1 (Nat.le_of_eq g14.symm)
    rw [← g14] at A14 D14 st14
    have z15 : n0 ≤ h14.size := Nat.le_trans Z0 E14.1
    have K16 : Keep h0 h14 [] := (Keep.refl h0 []).ext E14
    have f17 : Fld Z h14 b14 "java/lang/Long" "value" "J" (.long (0 : Int64)) := D14 (Or.inr (hw _ (List.mem_of_getElem? (i := 20) rfl))) (ty := .long) (by decide)
    obtain ⟨_, _, ⟨T18, L18, k18, n18⟩, -, X18, ⟨Lc18, hQ18, l18, y18, z18⟩, st18⟩ := X14.specialBack hx (y := (⟨"java/lang/Long", "<init>", "(J)V"⟩ : MethodName)) rfl hown (mvT hZ (hw _ (List.mem_of_getElem? (i := 24) rfl))) (mvT hZ (hw _ (List.mem_of_getElem? (i := 25) rfl))) (mvT hZ (hw _ (List.mem_of_getElem? (i := 26) rfl))) (by decide) (backOf (W := 1) (own_rm4 l Z av hw [] b14 q0 h14 n0 z15 A14 f17 g_b14) hZ (hw _ (List.mem_of_getElem? (i := 26) rfl)) (hw _ (List.mem_of_getElem? (i := 2) rfl)) (by decide) (by decide)) (g := (mkF m 36 #[.val (.long q0), .second, .val (.int (128 : Int32))] [(.long q0), (.ref b14), (.ref b14)])) rfl (by rw [hml]; rfl) (Steps.refl _) (a := b14) (argsL := [(.long q0)]) (rest := [(.ref b14)]) (lenOf own_pd1 rfl) rfl (by show 2 * 0 + _ ≤ _; exact Nat.le_of_eq rfl) (hb hby own_d1_36) (fun _ _ => ⟨rfl, e14, (by decide : 1 + 0 ≤ _), (by decide : 1 + 0 ≤ _)⟩)
    dsimp only [Pt.U, Pt.locs, Pt.cells, Pt.slots] at X18 l18 y18 z18 st18 hQ18
    subst l18 y18 z18
    obtain ⟨rfl, N18q, K18, f20, f21⟩ := hQ18
    have K22 : Keep h0 T18.heap [] := K16.trans K18 (allS (Or.inr sz_b14) all0)
    have z23 : n0 ≤ T18.heap.size := Nat.le_trans z15 K18.1
    have N19 := Fr.app N0 N18q
    obtain ⟨fs, hr, hrun, hended, hW, hsame⟩ := X18.leave (v := some (.ref b14)) (fun h => by rw [Bd.returns] at h; cases h)
    refine ⟨_, _, pre12 _ ?_, hrun, hended, _, _, rfl, ?_, ⟨_, rfl⟩, hW, hsame.mono (by decide) (by decide)⟩
    · show Steps p.tables e below (s₁.setTop (mkF m 9 #[.val (.long q0), .second, .val (.int (128 : Int32))] [(.int (lcmpW q0 (-128 : Int64)))])) _
      refine XS.ifYes X0.here hx rfl (pc0 := 9) (pc' := 31) rfl (hb hby own_d1_9) rfl ((if0 _ _).trans (tlt ((lw_lt q0 (-128 : Int64)).mpr hc13)).1) (by decide) (by decide) ?_
      show Steps p.tables e below (s₁.setTop (mkF m 31 #[.val (.long q0), .second, .val (.int (128 : Int32))] [])) _
      refine st14 _ ?_
      show Steps p.tables e below (T14.setTop (mkF m 34 #[.val (.long q0), .second, .val (.int (128 : Int32))] [(.ref b14)])) _
      refine XS.dup X14.here hx rfl (hb hby own_d1_34) rfl rfl ?_
      show Steps p.tables e below (T14.setTop (mkF m 35 #[.val (.long q0), .second, .val (.int (128 : Int32))] [(.ref b14), (.ref b14)])) _
      refine XS.lloadN X14.here hx rfl (hb hby own_d1_35) rfl ?_
      show Steps p.tables e below (T14.setTop (mkF m 36 #[.val (.long q0), .second, .val (.int (128 : Int32))] [(.long q0), (.ref b14), (.ref b14)])) _
      refine st18.trans ?_
      show Steps p.tables e below (T18.setTop (mkF m 39 #[.val (.long q0), .second, .val (.int (128 : Int32))] [(.ref b14)])) _
      exact retOut X18 hx (t := (.object "java/lang/Long")) (i := .areturn) Bd.returns rfl (Or.inr (Or.inr (Or.inr (Or.inr ⟨rfl, rfl, rfl⟩)))) (hb hby own_d1_39) hr
    · show own_QVf Z q0 h0 n0 _ T18.heap _
      exact ⟨b14, rfl, N19, K22, g_b14, sz_b14, f20, f21⟩
  · obtain ⟨T24, h24, X24, e24, E24, A24, D24, -, st24⟩ := newO X0 hx hZ hown (hw _ (List.mem_of_getElem? (i := 22) rfl)) (hw _ (List.mem_of_getElem? (i := 23) rfl)) (hw _ (List.mem_of_getElem? (i := 2) rfl)) e0 (g := (mkF m 31 #[.val (.long q0), .second, .val (.int (128 : Int32))] [])) rfl (hb hby own_d1_31) (by decide) (by decide)
    obtain ⟨b24, g24⟩ : ∃ z, z = h0.size := ⟨_, rfl⟩
    have g_b24 : n0 ≤ b24 := Nat.le_trans Z0 (Nat.le_of_eq g24.symm)
    have sz_b24 : h0.size ≤ b24 := Nat.le_trans (Keep.refl h0 []).1 (Nat.le_of_eq g24.symm)
    rw [← g24] at A24 D24 st24
    have z25 : n0 ≤ h24.size := Nat.le_trans Z0 E24.1
    have K26 : Keep h0 h24 [] := (Keep.refl h0 []).ext E24
    have f27 : Fld Z h24 b24 "java/lang/Long" "value" "J" (.long (0 : Int64)) := D24 (Or.inr (hw _ (List.mem_of_getElem? (i := 20) rfl))) (ty := .long) (by decide)
    obtain ⟨_, _, ⟨T28, L28, k28, n28⟩, -, X28, ⟨Lc28, hQ28, l28, y28, z28⟩, st28⟩ := X24.specialBack hx (y := (⟨"java/lang/Long", "<init>", "(J)V"⟩ : MethodName)) rfl hown (mvT hZ (hw _ (List.mem_of_getElem? (i := 24) rfl))) (mvT hZ (hw _ (List.mem_of_getElem? (i := 25) rfl))) (mvT hZ (hw _ (List.mem_of_getElem? (i := 26) rfl))) (by decide) (backOf (W := 1) (own_rm4 l Z av hw [] b24 q0 h24 n0 z25 A24 f27 g_b24) hZ (hw _ (List.mem_of_getElem? (i := 26) rfl)) (hw _ (List.mem_of_getElem? (i := 2) rfl)) (by decide) (by decide)) (g := (mkF m 36 #[.val (.long q0), .second, .val (.int (128 : Int32))] [(.long q0), (.ref b24), (.ref b24)])) rfl (by rw [hml]; rfl) (Steps.refl _) (a := b24) (argsL := [(.long q0)]) (rest := [(.ref b24)]) (lenOf own_pd1 rfl) rfl (by show 2 * 0 + _ ≤ _; exact Nat.le_of_eq rfl) (hb hby own_d1_36) (fun _ _ => ⟨rfl, e24, (by decide : 1 + 0 ≤ _), (by decide : 1 + 0 ≤ _)⟩)
    dsimp only [Pt.U, Pt.locs, Pt.cells, Pt.slots] at X28 l28 y28 z28 st28 hQ28
    subst l28 y28 z28
    obtain ⟨rfl, N28q, K28, f30, f31⟩ := hQ28
    have K32 : Keep h0 T28.heap [] := K26.trans K28 (allS (Or.inr sz_b24) all0)
    have z33 : n0 ≤ T28.heap.size := Nat.le_trans z25 K28.1
    have N29 := Fr.app N0 N28q
    obtain ⟨fs, hr, hrun, hended, hW, hsame⟩ := X28.leave (v := some (.ref b24)) (fun h => by rw [Bd.returns] at h; cases h)
    refine ⟨_, _, pre12 _ ?_, hrun, hended, _, _, rfl, ?_, ⟨_, rfl⟩, hW, hsame.mono (by decide) (by decide)⟩
    · show Steps p.tables e below (s₁.setTop (mkF m 9 #[.val (.long q0), .second, .val (.int (128 : Int32))] [(.int (lcmpW q0 (-128 : Int64)))])) _
      refine XS.ifNo X0.here hx rfl (hb hby own_d1_9) rfl ((if0 _ _).trans (flt (mt (lw_lt q0 (-128 : Int64)).mp hc13)).1) ?_
      show Steps p.tables e below (s₁.setTop (mkF m 12 #[.val (.long q0), .second, .val (.int (128 : Int32))] [])) _
      refine XS.lloadN X0.here hx rfl (hb hby own_d1_12) rfl ?_
      show Steps p.tables e below (s₁.setTop (mkF m 13 #[.val (.long q0), .second, .val (.int (128 : Int32))] [(.long q0)])) _
      refine X0.ldc2Long hx hown (mvT hZ (hw _ (List.mem_of_getElem? (i := 5) rfl))) (g := (mkF m 13 #[.val (.long q0), .second, .val (.int (128 : Int32))] [(.long q0)])) rfl (hb hby own_d1_13) _ ?_
      show Steps p.tables e below (s₁.setTop (mkF m 16 #[.val (.long q0), .second, .val (.int (128 : Int32))] [(.long (127 : Int64)), (.long q0)])) _
      refine XS.lcmp X0.here hx rfl (hb hby own_d1_16) rfl ?_
      show Steps p.tables e below (s₁.setTop (mkF m 17 #[.val (.long q0), .second, .val (.int (128 : Int32))] [(.int (lcmpW q0 (127 : Int64)))])) _
      refine XS.ifYes X0.here hx rfl (pc0 := 17) (pc' := 31) rfl (hb hby own_d1_17) rfl ((if0 _ _).trans (tlt ((lw_gt q0 (127 : Int64)).mpr (hf.resolve_left hc13 : (127 : Int64) < q0))).2.2.1) (by decide) (by decide) ?_
      show Steps p.tables e below (s₁.setTop (mkF m 31 #[.val (.long q0), .second, .val (.int (128 : Int32))] [])) _
      refine st24 _ ?_
      show Steps p.tables e below (T24.setTop (mkF m 34 #[.val (.long q0), .second, .val (.int (128 : Int32))] [(.ref b24)])) _
      refine XS.dup X24.here hx rfl (hb hby own_d1_34) rfl rfl ?_
      show Steps p.tables e below (T24.setTop (mkF m 35 #[.val (.long q0), .second, .val (.int (128 : Int32))] [(.ref b24), (.ref b24)])) _
      refine XS.lloadN X24.here hx rfl (hb hby own_d1_35) rfl ?_
      show Steps p.tables e below (T24.setTop (mkF m 36 #[.val (.long q0), .second, .val (.int (128 : Int32))] [(.long q0), (.ref b24), (.ref b24)])) _
      refine st28.trans ?_
      show Steps p.tables e below (T28.setTop (mkF m 39 #[.val (.long q0), .second, .val (.int (128 : Int32))] [(.ref b24)])) _
      exact retOut X28 hx (t := (.object "java/lang/Long")) (i := .areturn) Bd.returns rfl (Or.inr (Or.inr (Or.inr (Or.inr ⟨rfl, rfl, rfl⟩)))) (hb hby own_d1_39) hr
    · show own_QVf Z q0 h0 n0 _ T28.heap _
      exact ⟨b24, rfl, N29, K32, g_b24, sz_b24, f30, f31⟩
theorem own_d3_0 : decode jdk_35_method_31_code 0 = .ok (.aload_n 0, 1) := by decide +kernel
theorem own_d3_1 : decode jdk_35_method_31_code 1 = .ok (.getfield 273, 3) := by decide +kernel
theorem own_d3_4 : decode jdk_35_method_31_code 4 = .ok (.lreturn, 1) := by decide +kernel
theorem own_ef3 (m : MethodId) (a0 : Addr) : entryFrame m #[(.ref a0)] 1 = mkF m 0 #[.val (.ref a0)] [] := by first | (simp [entryFrame, mkF, argsToLocals, Value.category]; done) | rfl
def own_Q3 (Z : State) (a0 : Addr) (w : Int64) (h0 : Heap) (n0 : Nat) (v : Option Value) (h : Heap) (L : List Loc) : Prop := v = some (.long w) ∧ Fr n0 L ∧ h = h0
set_option maxRecDepth 65536 in
set_option maxHeartbeats 40000000 in
theorem own_rm3 (l : Launch) (Z : State) (av : Array Value) (hw : ∀ d ∈ tables_1, d.before av Z = true) (ws : List Jvm.Cond) (a0 : Addr) (w : Int64) (h0 : Heap) (n0 : Nat) (Z0 : n0 ≤ h0.size) (pr0 : Fld Z h0 a0 "java/lang/Long" "value" "J" (.long w)) :
    MetFree l (⟨"java/lang/Long", "longValue", "()J"⟩ : MethodName) (head1 (Jvm.Cond.code (⟨"java/lang/Long", "longValue", "()J"⟩ : MethodName) jdk_35_method_31_code 1 (some .long) :: ws) ({ frames := 0, cells := 0, slots := 0, locals := 0 } : Room)) (fun a U => a = #[(.ref a0)] ∧ Z.Warmed39 U.vm ∧ U.heap = h0) (fun _ _ _ _ _ => True) (fun _ U o U' => ∃ v L, o = .returned v ∧ own_Q3 Z a0 w h0 n0 v U'.heap L ∧ FrameEnd U o U' L ({ frames := 0, cells := 0, slots := 0, locals := 0 } : Room).cells ({ frames := 0, cells := 0, slots := 0, locals := 0 } : Room).slots) := by
  refine MetFree.of_bodySF (plainFor_of_name own_pn10) hisR ?_
  intro p e s m args below meth c s₁ Bd hml0 hP hK
  obtain ⟨rfl, hZ, hh⟩ := hP
  have hx := Bd.exec
  have hby := Bd.bytes
  have hml : c.maxLocals = 1 := hml0
  have hown : s.vm.findClass "java/lang/Long" = some m.cls := findClass_of_methodNamed Bd.named
  have hnm := (name_of_methodNamed Bd.named Bd.method).1
  have X0 : Stand p l e ({ frames := 0, cells := 0, slots := 0, locals := 0 } : Room) s m #[(.ref a0)] below meth c s₁ [] 0 0 := Stand.of_body Bd
  have e0 : s₁.heap = h0 := by rw [← hh, Bd.state]; rfl
  have N0 := Fr.nil n0
  have pre0 : ∀ t, Steps p.tables e below (s₁.setTop (mkF m 0 #[.val (.ref a0)] [])) t → Steps p.tables e below (s₁.setTop (entryFrame m #[(.ref a0)] 1)) t := fun t k => castTop (own_ef3 m a0) k
  obtain ⟨T34, X34, e34, st34⟩ := getF X0 hx hZ hown (host := "") (Or.inl (hw _ (List.mem_of_getElem? (i := 19) rfl))) Via.refl e0 pr0 (g := (mkF m 1 #[.val (.ref a0)] [(.ref a0)])) rfl rfl (hb hby own_d3_1)
  obtain ⟨fs, hr, hrun, hended, hW, hsame⟩ := X34.leave (v := some (.long w)) (fun h => by rw [Bd.returns] at h; cases h)
  refine ⟨_, _, pre0 _ ?_, hrun, hended, _, _, rfl, ?_, ⟨_, rfl⟩, hW, hsame.mono (by decide) (by decide)⟩
  · show Steps p.tables e below (s₁.setTop (mkF m 0 #[.val (.ref a0)] [])) _
    refine XS.aloadN X0.here hx rfl (hb hby own_d3_0) rfl rfl ?_
    show Steps p.tables e below (s₁.setTop (mkF m 1 #[.val (.ref a0)] [(.ref a0)])) _
    refine st34 _ ?_
    show Steps p.tables e below (T34.setTop (mkF m 4 #[.val (.ref a0)] [(.long w)])) _
    exact retOut X34 hx (t := .long) (i := .lreturn) Bd.returns rfl (Or.inr (Or.inl ⟨rfl, rfl, _, rfl⟩)) (hb hby own_d3_4) hr
  · show own_Q3 Z a0 w h0 n0 _ T34.heap _
    rw [e34]
    exact ⟨rfl, N0, rfl⟩
theorem own_d2_0 : decode prog_26_method_7_code 0 = .ok (.aload_n 0, 1) := by decide +kernel
theorem own_d2_1 : decode prog_26_method_7_code 1 = .ok (.checkcast 2, 3) := by decide +kernel
theorem own_pd2 : parseMethodDescriptor "()J" = some ⟨[], some .long⟩ := by decide +kernel
theorem own_d2_4 : decode prog_26_method_7_code 4 = .ok (.invokevirtual 42, 3) := by decide +kernel
theorem own_d2_7 : decode prog_26_method_7_code 7 = .ok (.lstore_n 1, 1) := by decide +kernel
theorem own_d2_8 : decode prog_26_method_7_code 8 = .ok (.lload_n 1, 1) := by decide +kernel
theorem own_d2_9 : decode prog_26_method_7_code 9 = .ok (.lconst 0, 1) := by decide +kernel
theorem own_d2_10 : decode prog_26_method_7_code 10 = .ok (.lcmp, 1) := by decide +kernel
theorem own_d2_11 : decode prog_26_method_7_code 11 = .ok (.ifCond .ge 9, 3) := by decide +kernel
theorem own_d2_14 : decode prog_26_method_7_code 14 = .ok (.ldc2_w 46, 3) := by decide +kernel
theorem own_d2_17 : decode prog_26_method_7_code 17 = .ok (.goto 4, 3) := by decide +kernel
theorem own_d2_21 : decode prog_26_method_7_code 21 = .ok (.lreturn, 1) := by decide +kernel
theorem own_d2_20 : decode prog_26_method_7_code 20 = .ok (.lload_n 1, 1) := by decide +kernel
def own_f2 (w : Int64) : Int64 := if w < (0 : Int64) then (-1 : Int64) else w
theorem own_pn48 : plainName "com/example/latchkey/latchkey/redis/PlaceSteps" = true := by first | (simp [plainName, overriddenIn]; done) | decide +kernel
theorem own_ef2 (m : MethodId) (a0 : Addr) : entryFrame m #[(.ref a0)] 3 = mkF m 0 #[.val (.ref a0), .unset, .unset] [] := by first | (simp [entryFrame, mkF, argsToLocals, Value.category]; done) | rfl
def own_Q2 (Z : State) (a0 : Addr) (w : Int64) (h0 : Heap) (n0 : Nat) (v : Option Value) (h : Heap) (L : List Loc) : Prop := v = some (.long (own_f2 w)) ∧ Fr n0 L ∧ h = h0
set_option maxRecDepth 65536 in
set_option maxHeartbeats 40000000 in
theorem own_rm2 (l : Launch) (Z : State) (av : Array Value) (hw : ∀ d ∈ tables_1, d.before av Z = true) (ws : List Jvm.Cond) (a0 : Addr) (w : Int64) (h0 : Heap) (n0 : Nat) (Z0 : n0 ≤ h0.size) (pr0 : Exa Z h0 a0 "java/lang/Long") (pr1 : Fld Z h0 a0 "java/lang/Long" "value" "J" (.long w)) :
    MetFree l (⟨"com/example/latchkey/latchkey/redis/PlaceSteps", "holderLease", "(Ljava/lang/Object;)J"⟩ : MethodName) (head1 (Jvm.Cond.code (⟨"com/example/latchkey/latchkey/redis/PlaceSteps", "holderLease", "(Ljava/lang/Object;)J"⟩ : MethodName) prog_26_method_7_code 3 (some .long) :: ws) ({ frames := 1, cells := 0, slots := 0, locals := 12 } : Room)) (fun a U => a = #[(.ref a0)] ∧ Z.Warmed39 U.vm ∧ U.heap = h0) (fun _ _ _ _ _ => True) (fun _ U o U' => ∃ v L, o = .returned v ∧ own_Q2 Z a0 w h0 n0 v U'.heap L ∧ FrameEnd U o U' L ({ frames := 1, cells := 0, slots := 0, locals := 12 } : Room).cells ({ frames := 1, cells := 0, slots := 0, locals := 12 } : Room).slots) := by
  refine MetFree.of_bodySF (plainFor_of_name own_pn48) hisR ?_
  intro p e s m args below meth c s₁ Bd hml0 hP hK
  obtain ⟨rfl, hZ, hh⟩ := hP
  have hx := Bd.exec
  have hby := Bd.bytes
  have hml : c.maxLocals = 3 := hml0
  have hown : s.vm.findClass "com/example/latchkey/latchkey/redis/PlaceSteps" = some m.cls := findClass_of_methodNamed Bd.named
  have hnm := (name_of_methodNamed Bd.named Bd.method).1
  have X0 : Stand p l e ({ frames := 1, cells := 0, slots := 0, locals := 12 } : Room) s m #[(.ref a0)] below meth c s₁ [] 0 0 := Stand.of_body Bd
  have e0 : s₁.heap = h0 := by rw [← hh, Bd.state]; rfl
  have N0 := Fr.nil n0
  have pre0 : ∀ t, Steps p.tables e below (s₁.setTop (mkF m 0 #[.val (.ref a0), .unset, .unset] [])) t → Steps p.tables e below (s₁.setTop (entryFrame m #[(.ref a0)] 3)) t := fun t k => castTop (own_ef2 m a0) k
  obtain ⟨T35, X35, e35, st35⟩ := castY X0 hx hZ hown (hw _ (List.mem_of_getElem? (i := 12) rfl)) e0 (Ins.self pr0) (g := (mkF m 1 #[.val (.ref a0), .unset, .unset] [(.ref a0)])) rfl rfl (hb hby own_d2_1)
  obtain ⟨cq36, kq36, q36a, q36b, q36c⟩ := isOf hZ e35 pr0
  obtain ⟨_, _, ⟨T36, L36, k36, n36⟩, -, X36, ⟨Lc36, hQ36, l36, y36, z36⟩, st36⟩ := X35.virtualBack hx (y := (⟨"java/lang/Long", "longValue", "()J"⟩ : MethodName)) (z := (⟨"java/lang/Long", "longValue", "()J"⟩ : MethodName)) hown (mvT hZ (hw _ (List.mem_of_getElem? (i := 14) rfl))) (mvT hZ (hw _ (List.mem_of_getElem? (i := 15) rfl))) (notFace_of_selects (args := #[]) (mvT hZ (hw _ (List.mem_of_getElem? (i := 17) rfl)))) (mvT hZ (hw _ (List.mem_of_getElem? (i := 17) rfl))) (mvT hZ (hw _ (List.mem_of_getElem? (i := 16) rfl))) (by decide) (backOf (W := 0) (own_rm3 l Z av hw [] a0 (w) h0 n0 Z0 pr1) hZ (hw _ (List.mem_of_getElem? (i := 18) rfl)) (hw _ (List.mem_of_getElem? (i := 2) rfl)) (by decide) (by decide)) q36a q36c (g := (mkF m 4 #[.val (.ref a0), .unset, .unset] [(.ref a0)])) rfl (by rw [hml]; rfl) (Steps.refl _) (argsL := []) (rest := []) (lenOf own_pd2 rfl) rfl (by show 2 * 0 + _ ≤ _; exact Nat.le_of_eq rfl) (hb hby own_d2_4) (fun _ _ => ⟨rfl, e35, (by decide : 0 + 0 ≤ _), (by decide : 0 + 0 ≤ _)⟩)
  dsimp only [Pt.U, Pt.locs, Pt.cells, Pt.slots] at X36 l36 y36 z36 st36 hQ36
  subst l36 y36 z36
  obtain ⟨rfl, N36q, e38⟩ := hQ36
  have N37 := Fr.app N0 N36q
  have pre39 : ∀ t, Steps p.tables e below (T36.setTop (mkF m 11 #[.val (.ref a0), .val (.long w), .second] [(.int (lcmpW w (0 : Int64)))])) t → Steps p.tables e below (s₁.setTop (entryFrame m #[(.ref a0)] 3)) t := fun t kk => pre0 t (by
    show Steps p.tables e below (s₁.setTop (mkF m 0 #[.val (.ref a0), .unset, .unset] [])) _
    refine XS.aloadN X0.here hx rfl (hb hby own_d2_0) rfl rfl ?_
    show Steps p.tables e below (s₁.setTop (mkF m 1 #[.val (.ref a0), .unset, .unset] [(.ref a0)])) _
    refine st35 _ ?_
    show Steps p.tables e below (T35.setTop (mkF m 4 #[.val (.ref a0), .unset, .unset] [(.ref a0)])) _
    refine st36.trans ?_
    show Steps p.tables e below (T36.setTop (mkF m 7 #[.val (.ref a0), .unset, .unset] [(.long w)])) _
    refine XS.lstoreN X36.here hx rfl (hb hby own_d2_7) rfl (l' := #[.val (.ref a0), .val (.long w), .second]) rfl ?_
    show Steps p.tables e below (T36.setTop (mkF m 8 #[.val (.ref a0), .val (.long w), .second] [])) _
    refine XS.lloadN X36.here hx rfl (hb hby own_d2_8) rfl ?_
    show Steps p.tables e below (T36.setTop (mkF m 9 #[.val (.ref a0), .val (.long w), .second] [(.long w)])) _
    refine XS.lconst X36.here hx rfl (hb hby own_d2_9) ?_
    show Steps p.tables e below (T36.setTop (mkF m 10 #[.val (.ref a0), .val (.long w), .second] [(.long (0 : Int64)), (.long w)])) _
    refine XS.lcmp X36.here hx rfl (hb hby own_d2_10) rfl ?_
    show Steps p.tables e below (T36.setTop (mkF m 11 #[.val (.ref a0), .val (.long w), .second] [(.int (lcmpW w (0 : Int64)))])) _
    exact kk)
  by_cases hc40 : w < (0 : Int64)
  · obtain ⟨fs, hr, hrun, hended, hW, hsame⟩ := X36.leave (v := some (.long (-1 : Int64))) (fun h => by rw [Bd.returns] at h; cases h)
    refine ⟨_, _, pre39 _ ?_, hrun, hended, _, _, rfl, ?_, ⟨_, rfl⟩, hW, hsame.mono (by decide) (by decide)⟩
    · show Steps p.tables e below (T36.setTop (mkF m 11 #[.val (.ref a0), .val (.long w), .second] [(.int (lcmpW w (0 : Int64)))])) _
      refine XS.ifNo X36.here hx rfl (hb hby own_d2_11) rfl ((if0 _ _).trans (tlt ((lw_lt w (0 : Int64)).mpr hc40)).2.1) ?_
      show Steps p.tables e below (T36.setTop (mkF m 14 #[.val (.ref a0), .val (.long w), .second] [])) _
      refine X36.ldc2Long hx hown (mvT hZ (hw _ (List.mem_of_getElem? (i := 36) rfl))) (g := (mkF m 14 #[.val (.ref a0), .val (.long w), .second] [])) rfl (hb hby own_d2_14) _ ?_
      show Steps p.tables e below (T36.setTop (mkF m 17 #[.val (.ref a0), .val (.long w), .second] [(.long (-1 : Int64))])) _
      refine XS.goto X36.here hx rfl (pc0 := 17) (pc' := 21) rfl (hb hby own_d2_17) (by decide) (by decide) ?_
      show Steps p.tables e below (T36.setTop (mkF m 21 #[.val (.ref a0), .val (.long w), .second] [(.long (-1 : Int64))])) _
      exact retOut X36 hx (t := .long) (i := .lreturn) Bd.returns rfl (Or.inr (Or.inl ⟨rfl, rfl, _, rfl⟩)) (hb hby own_d2_21) hr
    · show own_Q2 Z a0 w h0 n0 _ T36.heap _
      rw [e38]
      have hv : own_f2 w = (-1 : Int64) := by unfold own_f2; rw [if_pos hc40]
      exact ⟨by rw [hv], N37, rfl⟩
  · obtain ⟨fs, hr, hrun, hended, hW, hsame⟩ := X36.leave (v := some (.long w)) (fun h => by rw [Bd.returns] at h; cases h)
    refine ⟨_, _, pre39 _ ?_, hrun, hended, _, _, rfl, ?_, ⟨_, rfl⟩, hW, hsame.mono (by decide) (by decide)⟩
    · show Steps p.tables e below (T36.setTop (mkF m 11 #[.val (.ref a0), .val (.long w), .second] [(.int (lcmpW w (0 : Int64)))])) _
      refine XS.ifYes X36.here hx rfl (pc0 := 11) (pc' := 20) rfl (hb hby own_d2_11) rfl ((if0 _ _).trans (flt (mt (lw_lt w (0 : Int64)).mp hc40)).2.1) (by decide) (by decide) ?_
      show Steps p.tables e below (T36.setTop (mkF m 20 #[.val (.ref a0), .val (.long w), .second] [])) _
      refine XS.lloadN X36.here hx rfl (hb hby own_d2_20) rfl ?_
      show Steps p.tables e below (T36.setTop (mkF m 21 #[.val (.ref a0), .val (.long w), .second] [(.long w)])) _
      exact retOut X36 hx (t := .long) (i := .lreturn) Bd.returns rfl (Or.inr (Or.inl ⟨rfl, rfl, _, rfl⟩)) (hb hby own_d2_21) hr
    · show own_Q2 Z a0 w h0 n0 _ T36.heap _
      rw [e38]
      have hv : own_f2 w = w := by unfold own_f2; rw [if_neg hc40]
      exact ⟨by rw [hv], N37, rfl⟩
theorem own_f2_cases (w : Int64) : (w < (0 : Int64) ∧ (own_f2 w = (-1 : Int64))) ∨ (¬ (w < (0 : Int64)) ∧ (own_f2 w = w)) := by
  by_cases cs0 : w < (0 : Int64)
  · refine Or.inl ⟨cs0, ?_⟩
    unfold own_f2; rw [if_pos cs0]
  · refine Or.inr ⟨cs0, ?_⟩
    unfold own_f2; rw [if_neg cs0]
theorem own_pd3 : parseMethodDescriptor "(J)Ljava/lang/Long;" = some ⟨[.long], some (.object "java/lang/Long")⟩ := by decide +kernel
theorem own_pd4 : parseMethodDescriptor "(Ljava/lang/Object;)J" = some ⟨[(.object "java/lang/Object")], some .long⟩ := by decide +kernel
set_option maxRecDepth 65536 in
set_option maxHeartbeats 40000000 in
theorem own_leafc_1 (q0 : Int64) (hc1 : ¬ (q0 < (-128 : Int64))) (hc2 : ¬ ((127 : Int64) < q0)) (v47 : Int64) (hv47 : v47 = (own_f2 q0)) (v50 : Int32) (hv50 : v50 = (if v47 < (-1 : Int64) then (0 : Int32) else (1 : Int32))) (hc59 : v50 = (0 : Int32)) : False := by
  have dv50 : (v47 < (-1 : Int64) ∧ (v50 = (0 : Int32))) ∨ (¬ (v47 < (-1 : Int64)) ∧ (v50 = (1 : Int32))) := (if cq0 : v47 < (-1 : Int64) then Or.inl ⟨cq0, (by rw [hv50, if_pos cq0])⟩ else Or.inr ⟨cq0, (by rw [hv50, if_neg cq0])⟩)
  clear hv50
  have fc1 := own_f2_cases q0
  generalize own_f2 q0 = ex1 at *
  try simp only [Int32.reduceAdd, Int32.reduceSub, Int32.reduceMul, Int64.reduceAdd, Int64.reduceSub, Int64.reduceMul, Int32.lt_iff_toInt_lt, Int64.lt_iff_toInt_lt, ← Int32.toInt_inj, ← Int64.toInt_inj, Int32.reduceToInt, Int64.reduceToInt, not_true_eq_false, not_false_eq_true, false_and, and_false, true_and, and_true, false_or, or_false, true_or, or_true] at dv50
  try simp only [Int32.reduceAdd, Int32.reduceSub, Int32.reduceMul, Int64.reduceAdd, Int64.reduceSub, Int64.reduceMul, Int32.lt_iff_toInt_lt, Int64.lt_iff_toInt_lt, ← Int32.toInt_inj, ← Int64.toInt_inj, Int32.reduceToInt, Int64.reduceToInt, not_true_eq_false, not_false_eq_true, false_and, and_false, true_and, and_true, false_or, or_false, true_or, or_true] at hc1
  try simp only [Int32.reduceAdd, Int32.reduceSub, Int32.reduceMul, Int64.reduceAdd, Int64.reduceSub, Int64.reduceMul, Int32.lt_iff_toInt_lt, Int64.lt_iff_toInt_lt, ← Int32.toInt_inj, ← Int64.toInt_inj, Int32.reduceToInt, Int64.reduceToInt, not_true_eq_false, not_false_eq_true, false_and, and_false, true_and, and_true, false_or, or_false, true_or, or_true] at hc2
  try simp only [Int32.reduceAdd, Int32.reduceSub, Int32.reduceMul, Int64.reduceAdd, Int64.reduceSub, Int64.reduceMul, Int32.lt_iff_toInt_lt, Int64.lt_iff_toInt_lt, ← Int32.toInt_inj, ← Int64.toInt_inj, Int32.reduceToInt, Int64.reduceToInt, not_true_eq_false, not_false_eq_true, false_and, and_false, true_and, and_true, false_or, or_false, true_or, or_true] at hv47
  try simp only [Int32.reduceAdd, Int32.reduceSub, Int32.reduceMul, Int64.reduceAdd, Int64.reduceSub, Int64.reduceMul, Int32.lt_iff_toInt_lt, Int64.lt_iff_toInt_lt, ← Int32.toInt_inj, ← Int64.toInt_inj, Int32.reduceToInt, Int64.reduceToInt, not_true_eq_false, not_false_eq_true, false_and, and_false, true_and, and_true, false_or, or_false, true_or, or_true] at hc59
  have := Int64.le_toInt q0; have := Int64.toInt_lt q0
  have := Int64.le_toInt v47; have := Int64.toInt_lt v47
  have := Int32.le_toInt v50; have := Int32.toInt_lt v50
  try simp only [Int32.reduceAdd, Int32.reduceSub, Int32.reduceMul, Int64.reduceAdd, Int64.reduceSub, Int64.reduceMul, Int32.lt_iff_toInt_lt, Int64.lt_iff_toInt_lt, ← Int32.toInt_inj, ← Int64.toInt_inj, Int32.reduceToInt, Int64.reduceToInt, not_true_eq_false, not_false_eq_true, false_and, and_false, true_and, and_true, false_or, or_false, true_or, or_true] at fc1
  all_goals omega
set_option maxRecDepth 65536 in
set_option maxHeartbeats 40000000 in
theorem own_leafc_2 (q0 : Int64) (hc1 : ¬ (q0 < (-128 : Int64))) (hc2 : ¬ ((127 : Int64) < q0)) (v47 : Int64) (hv47 : v47 = (own_f2 q0)) (v56 : Int32) (hv56 : v56 = (if q0 < (0 : Int64) then (if v47 = (-1 : Int64) then (1 : Int32) else (0 : Int32)) else (if v47 = q0 then (1 : Int32) else (0 : Int32)))) (hc61 : v56 = (0 : Int32)) : False := by
  have dv56 : (q0 < (0 : Int64) ∧ ((v47 = (-1 : Int64) ∧ (v56 = (1 : Int32))) ∨ (¬ (v47 = (-1 : Int64)) ∧ (v56 = (0 : Int32))))) ∨ (¬ (q0 < (0 : Int64)) ∧ ((v47 = q0 ∧ (v56 = (1 : Int32))) ∨ (¬ (v47 = q0) ∧ (v56 = (0 : Int32))))) := (if cq0 : q0 < (0 : Int64) then Or.inl ⟨cq0, (if cq1 : v47 = (-1 : Int64) then Or.inl ⟨cq1, (by rw [hv56, if_pos cq0, if_pos cq1])⟩ else Or.inr ⟨cq1, (by rw [hv56, if_pos cq0, if_neg cq1])⟩)⟩ else Or.inr ⟨cq0, (if cq1 : v47 = q0 then Or.inl ⟨cq1, (by rw [hv56, if_neg cq0, if_pos cq1])⟩ else Or.inr ⟨cq1, (by rw [hv56, if_neg cq0, if_neg cq1])⟩)⟩)
  clear hv56
  have fc1 := own_f2_cases q0
  generalize own_f2 q0 = ex1 at *
  try simp only [Int32.reduceAdd, Int32.reduceSub, Int32.reduceMul, Int64.reduceAdd, Int64.reduceSub, Int64.reduceMul, Int32.lt_iff_toInt_lt, Int64.lt_iff_toInt_lt, ← Int32.toInt_inj, ← Int64.toInt_inj, Int32.reduceToInt, Int64.reduceToInt, not_true_eq_false, not_false_eq_true, false_and, and_false, true_and, and_true, false_or, or_false, true_or, or_true] at dv56
  try simp only [Int32.reduceAdd, Int32.reduceSub, Int32.reduceMul, Int64.reduceAdd, Int64.reduceSub, Int64.reduceMul, Int32.lt_iff_toInt_lt, Int64.lt_iff_toInt_lt, ← Int32.toInt_inj, ← Int64.toInt_inj, Int32.reduceToInt, Int64.reduceToInt, not_true_eq_false, not_false_eq_true, false_and, and_false, true_and, and_true, false_or, or_false, true_or, or_true] at hc1
  try simp only [Int32.reduceAdd, Int32.reduceSub, Int32.reduceMul, Int64.reduceAdd, Int64.reduceSub, Int64.reduceMul, Int32.lt_iff_toInt_lt, Int64.lt_iff_toInt_lt, ← Int32.toInt_inj, ← Int64.toInt_inj, Int32.reduceToInt, Int64.reduceToInt, not_true_eq_false, not_false_eq_true, false_and, and_false, true_and, and_true, false_or, or_false, true_or, or_true] at hc2
  try simp only [Int32.reduceAdd, Int32.reduceSub, Int32.reduceMul, Int64.reduceAdd, Int64.reduceSub, Int64.reduceMul, Int32.lt_iff_toInt_lt, Int64.lt_iff_toInt_lt, ← Int32.toInt_inj, ← Int64.toInt_inj, Int32.reduceToInt, Int64.reduceToInt, not_true_eq_false, not_false_eq_true, false_and, and_false, true_and, and_true, false_or, or_false, true_or, or_true] at hv47
  try simp only [Int32.reduceAdd, Int32.reduceSub, Int32.reduceMul, Int64.reduceAdd, Int64.reduceSub, Int64.reduceMul, Int32.lt_iff_toInt_lt, Int64.lt_iff_toInt_lt, ← Int32.toInt_inj, ← Int64.toInt_inj, Int32.reduceToInt, Int64.reduceToInt, not_true_eq_false, not_false_eq_true, false_and, and_false, true_and, and_true, false_or, or_false, true_or, or_true] at hc61
  have := Int64.le_toInt q0; have := Int64.toInt_lt q0
  have := Int64.le_toInt v47; have := Int64.toInt_lt v47
  have := Int32.le_toInt v56; have := Int32.toInt_lt v56
  try simp only [Int32.reduceAdd, Int32.reduceSub, Int32.reduceMul, Int64.reduceAdd, Int64.reduceSub, Int64.reduceMul, Int32.lt_iff_toInt_lt, Int64.lt_iff_toInt_lt, ← Int32.toInt_inj, ← Int64.toInt_inj, Int32.reduceToInt, Int64.reduceToInt, not_true_eq_false, not_false_eq_true, false_and, and_false, true_and, and_true, false_or, or_false, true_or, or_true] at fc1
  all_goals omega
theorem own_pn49 : plainName "com/example/latchkey/latchkey/redis/PlaceStepsHolderLeasePinLaw" = true := by first | (simp [plainName, overriddenIn]; done) | decide +kernel
theorem own_ef0c (m : MethodId) (q0 : Int64) : entryFrame m #[(.long q0)] maxLocals = mkF m 0 #[.val (.long q0), .second, .unset, .unset, .unset, .unset, .unset] [] := by first | (simp [entryFrame, mkF, argsToLocals, Value.category, maxLocals]; done) | rfl
def own_Q0c (Z : State) (q0 : Int64) (ca : Addr) (cl : Cell) (b : Addr) (h0 : Heap) (n0 : Nat) (v : Option Value) (h : Heap) (L : List Loc) : Prop := v = some (.int 1) ∧ Fr n0 L
set_option maxRecDepth 65536 in
set_option maxHeartbeats 40000000 in
theorem own_rm0c (l : Launch) (Z : State) (av : Array Value) (hw : ∀ d ∈ tables_1, d.before av Z = true) (ws : List Jvm.Cond) (q0 : Int64) (ca : Addr) (cl : Cell) (b : Addr) (h0 : Heap) (n0 : Nat) (Z0 : n0 ≤ h0.size) (pr0 : Sta Z h0 "java/lang/Long$LongCache" "cache" "[Ljava/lang/Long;" (.ref ca)) (pr1 : Exa Z h0 b "java/lang/Long") (pr2 : Fld Z h0 b "java/lang/Long" "value" "J" (.long q0)) (Ar : Arr Z h0 ca cl (.object "java/lang/Long")) (hin : ¬ (((q0.toInt32) + (128 : Int32)) < 0 ∨ cl.slots.size ≤ (((q0.toInt32) + (128 : Int32))).toNatClampNeg)) (hat : cl.slots[(((q0.toInt32) + (128 : Int32))).toNatClampNeg]? = some (.ref b)) (hc1 : ¬ (q0 < (-128 : Int64))) (hc2 : ¬ ((127 : Int64) < q0)) :
    MetFree l x (head1 (Jvm.Cond.code x code maxLocals ret :: ws) room_1) (fun a U => a = #[(.long q0)] ∧ Z.Warmed39 U.vm ∧ U.heap = h0) (fun _ _ _ _ _ => True) (fun _ U o U' => ∃ v L, o = .returned v ∧ own_Q0c Z q0 ca cl b h0 n0 v U'.heap L ∧ FrameEnd U o U' L room_1.cells room_1.slots) := by
  refine MetFree.of_bodySF (plainFor_of_name own_pn49) hisR ?_
  intro p e s m args below meth c s₁ Bd hml0 hP hK
  obtain ⟨rfl, hZ, hh⟩ := hP
  have hx := Bd.exec
  have hby := Bd.bytes
  have hml : c.maxLocals = 7 := hml0
  have hown : s.vm.findClass "com/example/latchkey/latchkey/redis/PlaceStepsHolderLeasePinLaw" = some m.cls := findClass_of_methodNamed Bd.named
  have hnm := (name_of_methodNamed Bd.named Bd.method).1
  have X0 : Stand p l e room_1 s m #[(.long q0)] below meth c s₁ [] 0 0 := Stand.of_body Bd
  have e0 : s₁.heap = h0 := by rw [← hh, Bd.state]; rfl
  have N0 := Fr.nil n0
  have pre0 : ∀ t, Steps p.tables e below (s₁.setTop (mkF m 0 #[.val (.long q0), .second, .unset, .unset, .unset, .unset, .unset] [])) t → Steps p.tables e below (s₁.setTop (entryFrame m #[(.long q0)] maxLocals)) t := fun t k => castTop (own_ef0c m q0) k
  obtain ⟨_, _, ⟨T41, L41, k41, n41⟩, -, X41, ⟨Lc41, hQ41, l41, y41, z41⟩, st41⟩ := Jvm.LawKit.callS X0 hx (y := (⟨"java/lang/Long", "valueOf", "(J)Ljava/lang/Long;"⟩ : MethodName)) hown (mvT hZ (hw _ (List.mem_of_getElem? (i := 0) rfl))) (mvT hZ (hw _ (List.mem_of_getElem? (i := 1) rfl))) (mvT hZ (hw _ (List.mem_of_getElem? (i := 2) rfl))) (mvT hZ (hw _ (List.mem_of_getElem? (i := 3) rfl))) (by decide) (backOf (W := 0) (own_rmVc l Z av hw [] q0 (ca) (cl) (b) h0 n0 Z0 pr0 (Ar) (hin) (hat) (hc1) (hc2)) hZ (hw _ (List.mem_of_getElem? (i := 3) rfl)) (hw _ (List.mem_of_getElem? (i := 2) rfl)) (by decide) (by decide)) (g := (mkF m 1 #[.val (.long q0), .second, .unset, .unset, .unset, .unset, .unset] [(.long q0)])) rfl (by rw [hml]; rfl) (argsL := [(.long q0)]) (rest := []) (lenOf own_pd3 rfl) rfl (by show 2 * 0 + _ ≤ _; exact Nat.le_of_eq rfl) (hb hby at_1) (fun _ _ => ⟨rfl, e0, (by decide : 0 + 0 ≤ _), (by decide : 0 + 0 ≤ _)⟩)
  dsimp only [Pt.U, Pt.locs, Pt.cells, Pt.slots] at X41 l41 y41 z41 st41 hQ41
  subst l41 y41 z41
  obtain ⟨rfl, N41q, e43⟩ := hQ41
  have N42 := Fr.app N0 N41q
  obtain ⟨_, _, ⟨T44, L44, k44, n44⟩, -, X44, ⟨Lc44, hQ44, l44, y44, z44⟩, st44⟩ := Jvm.LawKit.callS X41 hx (y := (⟨"com/example/latchkey/latchkey/redis/PlaceSteps", "holderLease", "(Ljava/lang/Object;)J"⟩ : MethodName)) hown (mvT hZ (hw _ (List.mem_of_getElem? (i := 8) rfl))) (mvT hZ (hw _ (List.mem_of_getElem? (i := 9) rfl))) (mvT hZ (hw _ (List.mem_of_getElem? (i := 10) rfl))) (mvT hZ (hw _ (List.mem_of_getElem? (i := 11) rfl))) (by decide) (backOf (W := 0) (own_rm2 l Z av hw [] b (q0) h0 n0 Z0 pr1 pr2) hZ (hw _ (List.mem_of_getElem? (i := 11) rfl)) (hw _ (List.mem_of_getElem? (i := 10) rfl)) (by decide) (by decide)) (g := (mkF m 6 #[.val (.long q0), .second, .val (.ref b), .unset, .unset, .unset, .unset] [(.ref b)])) rfl (by rw [hml]; rfl) (argsL := [(.ref b)]) (rest := []) (lenOf own_pd4 rfl) rfl (by show 2 * 0 + _ ≤ _; exact Nat.le_of_eq rfl) (hb hby at_6) (fun _ _ => ⟨rfl, e43, (by decide : 0 + 0 ≤ _), (by decide : 0 + 0 ≤ _)⟩)
  dsimp only [Pt.U, Pt.locs, Pt.cells, Pt.slots] at X44 l44 y44 z44 st44 hQ44
  subst l44 y44 z44
  obtain ⟨rfl, N44q, e46⟩ := hQ44
  have N45 := Fr.app N42 N44q
  obtain ⟨v47, hv47⟩ : ∃ z : Int64, z = (own_f2 q0) := ⟨_, rfl⟩
  have pre48 : ∀ t, Steps p.tables e below (T44.setTop (mkF m 15 #[.val (.long q0), .second, .val (.ref b), .val (.long v47), .second, .unset, .unset] [(.int (lcmpW v47 (-1 : Int64)))])) t → Steps p.tables e below (s₁.setTop (entryFrame m #[(.long q0)] maxLocals)) t := fun t kk => pre0 t (by
    show Steps p.tables e below (s₁.setTop (mkF m 0 #[.val (.long q0), .second, .unset, .unset, .unset, .unset, .unset] [])) _
    refine XS.lloadN X0.here hx rfl (hb hby at_0) rfl ?_
    show Steps p.tables e below (s₁.setTop (mkF m 1 #[.val (.long q0), .second, .unset, .unset, .unset, .unset, .unset] [(.long q0)])) _
    refine st41 _ ?_
    show Steps p.tables e below (T41.setTop (mkF m 4 #[.val (.long q0), .second, .unset, .unset, .unset, .unset, .unset] [(.ref b)])) _
    refine XS.astoreN X41.here hx rfl (hb hby at_4) rfl rfl (l' := #[.val (.long q0), .second, .val (.ref b), .unset, .unset, .unset, .unset]) rfl ?_
    show Steps p.tables e below (T41.setTop (mkF m 5 #[.val (.long q0), .second, .val (.ref b), .unset, .unset, .unset, .unset] [])) _
    refine XS.aloadN X41.here hx rfl (hb hby at_5) rfl rfl ?_
    show Steps p.tables e below (T41.setTop (mkF m 6 #[.val (.long q0), .second, .val (.ref b), .unset, .unset, .unset, .unset] [(.ref b)])) _
    refine st44 _ ?_
    show Steps p.tables e below (T44.setTop (mkF m 9 #[.val (.long q0), .second, .val (.ref b), .unset, .unset, .unset, .unset] [(.long (own_f2 q0))])) _
    refine castTop (congrArg (fun z : Int64 => mkF m 9 #[.val (.long q0), .second, .val (.ref b), .unset, .unset, .unset, .unset] [(.long z)]) hv47.symm) ?_
    show Steps p.tables e below (T44.setTop (mkF m 9 #[.val (.long q0), .second, .val (.ref b), .unset, .unset, .unset, .unset] [(.long v47)])) _
    refine XS.lstoreN X44.here hx rfl (hb hby at_9) rfl (l' := #[.val (.long q0), .second, .val (.ref b), .val (.long v47), .second, .unset, .unset]) rfl ?_
    show Steps p.tables e below (T44.setTop (mkF m 10 #[.val (.long q0), .second, .val (.ref b), .val (.long v47), .second, .unset, .unset] [])) _
    refine XS.lloadN X44.here hx rfl (hb hby at_10) rfl ?_
    show Steps p.tables e below (T44.setTop (mkF m 11 #[.val (.long q0), .second, .val (.ref b), .val (.long v47), .second, .unset, .unset] [(.long v47)])) _
    refine X44.ldc2Long hx hown (mvT hZ (hw _ (List.mem_of_getElem? (i := 21) rfl))) (g := (mkF m 11 #[.val (.long q0), .second, .val (.ref b), .val (.long v47), .second, .unset, .unset] [(.long v47)])) rfl (hb hby at_11) _ ?_
    show Steps p.tables e below (T44.setTop (mkF m 14 #[.val (.long q0), .second, .val (.ref b), .val (.long v47), .second, .unset, .unset] [(.long (-1 : Int64)), (.long v47)])) _
    refine XS.lcmp X44.here hx rfl (hb hby at_14) rfl ?_
    show Steps p.tables e below (T44.setTop (mkF m 15 #[.val (.long q0), .second, .val (.ref b), .val (.long v47), .second, .unset, .unset] [(.int (lcmpW v47 (-1 : Int64)))])) _
    exact kk)
  obtain ⟨v50, hv50⟩ : ∃ z : Int32, z = (if v47 < (-1 : Int64) then (0 : Int32) else (1 : Int32)) := ⟨_, rfl⟩
  have pre51 : ∀ t, Steps p.tables e below (T44.setTop (mkF m 23 #[.val (.long q0), .second, .val (.ref b), .val (.long v47), .second, .unset, .unset] [(.int v50)])) t → Steps p.tables e below (s₁.setTop (entryFrame m #[(.long q0)] maxLocals)) t := fun t kk => pre48 t (by
    show Steps p.tables e below (T44.setTop (mkF m 15 #[.val (.long q0), .second, .val (.ref b), .val (.long v47), .second, .unset, .unset] [(.int (lcmpW v47 (-1 : Int64)))])) _
    by_cases hc49 : v47 < (-1 : Int64)
    · refine XS.ifYes X44.here hx rfl (pc0 := 15) (pc' := 22) rfl (hb hby at_15) rfl ((if0 _ _).trans (tlt ((lw_lt v47 (-1 : Int64)).mpr hc49)).1) (by decide) (by decide) ?_
      show Steps p.tables e below (T44.setTop (mkF m 22 #[.val (.long q0), .second, .val (.ref b), .val (.long v47), .second, .unset, .unset] [])) _
      refine XS.iconst X44.here hx rfl (hb hby at_22) ?_
      rw [show v50 = (0 : Int32) by rw [hv50, if_pos hc49]] at kk
      exact kk
    · refine XS.ifNo X44.here hx rfl (hb hby at_15) rfl ((if0 _ _).trans (flt (mt (lw_lt v47 (-1 : Int64)).mp hc49)).1) ?_
      show Steps p.tables e below (T44.setTop (mkF m 18 #[.val (.long q0), .second, .val (.ref b), .val (.long v47), .second, .unset, .unset] [])) _
      refine XS.iconst X44.here hx rfl (hb hby at_18) ?_
      show Steps p.tables e below (T44.setTop (mkF m 19 #[.val (.long q0), .second, .val (.ref b), .val (.long v47), .second, .unset, .unset] [(.int (1 : Int32))])) _
      refine XS.goto X44.here hx rfl (pc0 := 19) (pc' := 23) rfl (hb hby at_19) (by decide) (by decide) ?_
      rw [show v50 = (1 : Int32) by rw [hv50, if_neg hc49]] at kk
      exact kk)
  have pre52 : ∀ t, Steps p.tables e below (T44.setTop (mkF m 28 #[.val (.long q0), .second, .val (.ref b), .val (.long v47), .second, .val (.int v50), .unset] [(.int (lcmpW q0 (0 : Int64)))])) t → Steps p.tables e below (s₁.setTop (entryFrame m #[(.long q0)] maxLocals)) t := fun t kk => pre51 t (by
    show Steps p.tables e below (T44.setTop (mkF m 23 #[.val (.long q0), .second, .val (.ref b), .val (.long v47), .second, .unset, .unset] [(.int v50)])) _
    refine XS.istore X44.here hx rfl (hb hby at_23) rfl (l' := #[.val (.long q0), .second, .val (.ref b), .val (.long v47), .second, .val (.int v50), .unset]) rfl ?_
    show Steps p.tables e below (T44.setTop (mkF m 25 #[.val (.long q0), .second, .val (.ref b), .val (.long v47), .second, .val (.int v50), .unset] [])) _
    refine XS.lloadN X44.here hx rfl (hb hby at_25) rfl ?_
    show Steps p.tables e below (T44.setTop (mkF m 26 #[.val (.long q0), .second, .val (.ref b), .val (.long v47), .second, .val (.int v50), .unset] [(.long q0)])) _
    refine XS.lconst X44.here hx rfl (hb hby at_26) ?_
    show Steps p.tables e below (T44.setTop (mkF m 27 #[.val (.long q0), .second, .val (.ref b), .val (.long v47), .second, .val (.int v50), .unset] [(.long (0 : Int64)), (.long q0)])) _
    refine XS.lcmp X44.here hx rfl (hb hby at_27) rfl ?_
    show Steps p.tables e below (T44.setTop (mkF m 28 #[.val (.long q0), .second, .val (.ref b), .val (.long v47), .second, .val (.int v50), .unset] [(.int (lcmpW q0 (0 : Int64)))])) _
    exact kk)
  obtain ⟨v56, hv56⟩ : ∃ z : Int32, z = (if q0 < (0 : Int64) then (if v47 = (-1 : Int64) then (1 : Int32) else (0 : Int32)) else (if v47 = q0 then (1 : Int32) else (0 : Int32))) := ⟨_, rfl⟩
  have pre57 : ∀ t, Steps p.tables e below (T44.setTop (mkF m 62 #[.val (.long q0), .second, .val (.ref b), .val (.long v47), .second, .val (.int v50), .val (.int v56)] [])) t → Steps p.tables e below (s₁.setTop (entryFrame m #[(.long q0)] maxLocals)) t := fun t kk => pre52 t (by
    show Steps p.tables e below (T44.setTop (mkF m 28 #[.val (.long q0), .second, .val (.ref b), .val (.long v47), .second, .val (.int v50), .unset] [(.int (lcmpW q0 (0 : Int64)))])) _
    by_cases hc53 : q0 < (0 : Int64)
    · refine XS.ifYes X44.here hx rfl (pc0 := 28) (pc' := 47) rfl (hb hby at_28) rfl ((if0 _ _).trans (tlt ((lw_lt q0 (0 : Int64)).mpr hc53)).1) (by decide) (by decide) ?_
      show Steps p.tables e below (T44.setTop (mkF m 47 #[.val (.long q0), .second, .val (.ref b), .val (.long v47), .second, .val (.int v50), .unset] [])) _
      refine XS.lloadN X44.here hx rfl (hb hby at_47) rfl ?_
      show Steps p.tables e below (T44.setTop (mkF m 48 #[.val (.long q0), .second, .val (.ref b), .val (.long v47), .second, .val (.int v50), .unset] [(.long v47)])) _
      refine X44.ldc2Long hx hown (mvT hZ (hw _ (List.mem_of_getElem? (i := 21) rfl))) (g := (mkF m 48 #[.val (.long q0), .second, .val (.ref b), .val (.long v47), .second, .val (.int v50), .unset] [(.long v47)])) rfl (hb hby at_48) _ ?_
      show Steps p.tables e below (T44.setTop (mkF m 51 #[.val (.long q0), .second, .val (.ref b), .val (.long v47), .second, .val (.int v50), .unset] [(.long (-1 : Int64)), (.long v47)])) _
      refine XS.lcmp X44.here hx rfl (hb hby at_51) rfl ?_
      show Steps p.tables e below (T44.setTop (mkF m 52 #[.val (.long q0), .second, .val (.ref b), .val (.long v47), .second, .val (.int v50), .unset] [(.int (lcmpW v47 (-1 : Int64)))])) _
      by_cases hc54 : v47 = (-1 : Int64)
      · refine XS.ifNo X44.here hx rfl (hb hby at_52) rfl ((if0 _ _).trans (teq ((lw_eq v47 (-1 : Int64)).mpr hc54)).2) ?_
        show Steps p.tables e below (T44.setTop (mkF m 55 #[.val (.long q0), .second, .val (.ref b), .val (.long v47), .second, .val (.int v50), .unset] [])) _
        refine XS.iconst X44.here hx rfl (hb hby at_55) ?_
        show Steps p.tables e below (T44.setTop (mkF m 56 #[.val (.long q0), .second, .val (.ref b), .val (.long v47), .second, .val (.int v50), .unset] [(.int (1 : Int32))])) _
        refine XS.goto X44.here hx rfl (pc0 := 56) (pc' := 60) rfl (hb hby at_56) (by decide) (by decide) ?_
        show Steps p.tables e below (T44.setTop (mkF m 60 #[.val (.long q0), .second, .val (.ref b), .val (.long v47), .second, .val (.int v50), .unset] [(.int (1 : Int32))])) _
        refine XS.istore X44.here hx rfl (hb hby at_60) rfl (l' := #[.val (.long q0), .second, .val (.ref b), .val (.long v47), .second, .val (.int v50), .val (.int (1 : Int32))]) rfl ?_
        rw [show v56 = (1 : Int32) by rw [hv56, if_pos hc53, if_pos hc54]] at kk
        exact kk
      · refine XS.ifYes X44.here hx rfl (pc0 := 52) (pc' := 59) rfl (hb hby at_52) rfl ((if0 _ _).trans (feq (mt (lw_eq v47 (-1 : Int64)).mp hc54)).2) (by decide) (by decide) ?_
        show Steps p.tables e below (T44.setTop (mkF m 59 #[.val (.long q0), .second, .val (.ref b), .val (.long v47), .second, .val (.int v50), .unset] [])) _
        refine XS.iconst X44.here hx rfl (hb hby at_59) ?_
        show Steps p.tables e below (T44.setTop (mkF m 60 #[.val (.long q0), .second, .val (.ref b), .val (.long v47), .second, .val (.int v50), .unset] [(.int (0 : Int32))])) _
        refine XS.istore X44.here hx rfl (hb hby at_60) rfl (l' := #[.val (.long q0), .second, .val (.ref b), .val (.long v47), .second, .val (.int v50), .val (.int (0 : Int32))]) rfl ?_
        rw [show v56 = (0 : Int32) by rw [hv56, if_pos hc53, if_neg hc54]] at kk
        exact kk
    · refine XS.ifNo X44.here hx rfl (hb hby at_28) rfl ((if0 _ _).trans (flt (mt (lw_lt q0 (0 : Int64)).mp hc53)).1) ?_
      show Steps p.tables e below (T44.setTop (mkF m 31 #[.val (.long q0), .second, .val (.ref b), .val (.long v47), .second, .val (.int v50), .unset] [])) _
      refine XS.lloadN X44.here hx rfl (hb hby at_31) rfl ?_
      show Steps p.tables e below (T44.setTop (mkF m 32 #[.val (.long q0), .second, .val (.ref b), .val (.long v47), .second, .val (.int v50), .unset] [(.long v47)])) _
      refine XS.lloadN X44.here hx rfl (hb hby at_32) rfl ?_
      show Steps p.tables e below (T44.setTop (mkF m 33 #[.val (.long q0), .second, .val (.ref b), .val (.long v47), .second, .val (.int v50), .unset] [(.long q0), (.long v47)])) _
      refine XS.lcmp X44.here hx rfl (hb hby at_33) rfl ?_
      show Steps p.tables e below (T44.setTop (mkF m 34 #[.val (.long q0), .second, .val (.ref b), .val (.long v47), .second, .val (.int v50), .unset] [(.int (lcmpW v47 q0))])) _
      by_cases hc55 : v47 = q0
      · refine XS.ifNo X44.here hx rfl (hb hby at_34) rfl ((if0 _ _).trans (teq ((lw_eq v47 q0).mpr hc55)).2) ?_
        show Steps p.tables e below (T44.setTop (mkF m 37 #[.val (.long q0), .second, .val (.ref b), .val (.long v47), .second, .val (.int v50), .unset] [])) _
        refine XS.iconst X44.here hx rfl (hb hby at_37) ?_
        show Steps p.tables e below (T44.setTop (mkF m 38 #[.val (.long q0), .second, .val (.ref b), .val (.long v47), .second, .val (.int v50), .unset] [(.int (1 : Int32))])) _
        refine XS.goto X44.here hx rfl (pc0 := 38) (pc' := 42) rfl (hb hby at_38) (by decide) (by decide) ?_
        show Steps p.tables e below (T44.setTop (mkF m 42 #[.val (.long q0), .second, .val (.ref b), .val (.long v47), .second, .val (.int v50), .unset] [(.int (1 : Int32))])) _
        refine XS.istore X44.here hx rfl (hb hby at_42) rfl (l' := #[.val (.long q0), .second, .val (.ref b), .val (.long v47), .second, .val (.int v50), .val (.int (1 : Int32))]) rfl ?_
        show Steps p.tables e below (T44.setTop (mkF m 44 #[.val (.long q0), .second, .val (.ref b), .val (.long v47), .second, .val (.int v50), .val (.int (1 : Int32))] [])) _
        refine XS.goto X44.here hx rfl (pc0 := 44) (pc' := 62) rfl (hb hby at_44) (by decide) (by decide) ?_
        rw [show v56 = (1 : Int32) by rw [hv56, if_neg hc53, if_pos hc55]] at kk
        exact kk
      · refine XS.ifYes X44.here hx rfl (pc0 := 34) (pc' := 41) rfl (hb hby at_34) rfl ((if0 _ _).trans (feq (mt (lw_eq v47 q0).mp hc55)).2) (by decide) (by decide) ?_
        show Steps p.tables e below (T44.setTop (mkF m 41 #[.val (.long q0), .second, .val (.ref b), .val (.long v47), .second, .val (.int v50), .unset] [])) _
        refine XS.iconst X44.here hx rfl (hb hby at_41) ?_
        show Steps p.tables e below (T44.setTop (mkF m 42 #[.val (.long q0), .second, .val (.ref b), .val (.long v47), .second, .val (.int v50), .unset] [(.int (0 : Int32))])) _
        refine XS.istore X44.here hx rfl (hb hby at_42) rfl (l' := #[.val (.long q0), .second, .val (.ref b), .val (.long v47), .second, .val (.int v50), .val (.int (0 : Int32))]) rfl ?_
        show Steps p.tables e below (T44.setTop (mkF m 44 #[.val (.long q0), .second, .val (.ref b), .val (.long v47), .second, .val (.int v50), .val (.int (0 : Int32))] [])) _
        refine XS.goto X44.here hx rfl (pc0 := 44) (pc' := 62) rfl (hb hby at_44) (by decide) (by decide) ?_
        rw [show v56 = (0 : Int32) by rw [hv56, if_neg hc53, if_neg hc55]] at kk
        exact kk)
  have pre58 : ∀ t, Steps p.tables e below (T44.setTop (mkF m 64 #[.val (.long q0), .second, .val (.ref b), .val (.long v47), .second, .val (.int v50), .val (.int v56)] [(.int v50)])) t → Steps p.tables e below (s₁.setTop (entryFrame m #[(.long q0)] maxLocals)) t := fun t kk => pre57 t (by
    show Steps p.tables e below (T44.setTop (mkF m 62 #[.val (.long q0), .second, .val (.ref b), .val (.long v47), .second, .val (.int v50), .val (.int v56)] [])) _
    refine XS.iload X44.here hx rfl (hb hby at_62) rfl ?_
    show Steps p.tables e below (T44.setTop (mkF m 64 #[.val (.long q0), .second, .val (.ref b), .val (.long v47), .second, .val (.int v50), .val (.int v56)] [(.int v50)])) _
    exact kk)
  by_cases hc59 : v50 = (0 : Int32)
  · exact (own_leafc_1 q0 hc1 hc2 v47 hv47 v50 hv50 hc59).elim
  · have pre60 : ∀ t, Steps p.tables e below (T44.setTop (mkF m 69 #[.val (.long q0), .second, .val (.ref b), .val (.long v47), .second, .val (.int v50), .val (.int v56)] [(.int v56)])) t → Steps p.tables e below (s₁.setTop (entryFrame m #[(.long q0)] maxLocals)) t := fun t kk => pre58 t (by
      show Steps p.tables e below (T44.setTop (mkF m 64 #[.val (.long q0), .second, .val (.ref b), .val (.long v47), .second, .val (.int v50), .val (.int v56)] [(.int v50)])) _
      refine XS.ifNo X44.here hx rfl (hb hby at_64) rfl ((if0 _ _).trans (feq hc59).1) ?_
      show Steps p.tables e below (T44.setTop (mkF m 67 #[.val (.long q0), .second, .val (.ref b), .val (.long v47), .second, .val (.int v50), .val (.int v56)] [])) _
      refine XS.iload X44.here hx rfl (hb hby at_67) rfl ?_
      show Steps p.tables e below (T44.setTop (mkF m 69 #[.val (.long q0), .second, .val (.ref b), .val (.long v47), .second, .val (.int v50), .val (.int v56)] [(.int v56)])) _
      exact kk)
    by_cases hc61 : v56 = (0 : Int32)
    · exact (own_leafc_2 q0 hc1 hc2 v47 hv47 v56 hv56 hc61).elim
    · obtain ⟨fs, hr, hrun, hended, hW, hsame⟩ := X44.leave (v := some (.int (1 : Int32))) (fun h => by rw [Bd.returns] at h; cases h)
      refine ⟨_, _, pre60 _ ?_, hrun, hended, _, _, rfl, ?_, ⟨_, rfl⟩, hW, hsame.mono (by decide) (by decide)⟩
      · show Steps p.tables e below (T44.setTop (mkF m 69 #[.val (.long q0), .second, .val (.ref b), .val (.long v47), .second, .val (.int v50), .val (.int v56)] [(.int v56)])) _
        refine XS.ifNo X44.here hx rfl (hb hby at_69) rfl ((if0 _ _).trans (feq hc61).1) ?_
        show Steps p.tables e below (T44.setTop (mkF m 72 #[.val (.long q0), .second, .val (.ref b), .val (.long v47), .second, .val (.int v50), .val (.int v56)] [])) _
        refine XS.iconst X44.here hx rfl (hb hby at_72) ?_
        show Steps p.tables e below (T44.setTop (mkF m 73 #[.val (.long q0), .second, .val (.ref b), .val (.long v47), .second, .val (.int v50), .val (.int v56)] [(.int (1 : Int32))])) _
        refine XS.goto X44.here hx rfl (pc0 := 73) (pc' := 77) rfl (hb hby at_73) (by decide) (by decide) ?_
        show Steps p.tables e below (T44.setTop (mkF m 77 #[.val (.long q0), .second, .val (.ref b), .val (.long v47), .second, .val (.int v50), .val (.int v56)] [(.int (1 : Int32))])) _
        exact retN X44 hx (t := .boolean) Bd.returns (by simp) (hb hby at_77) hr
      · show own_Q0c Z q0 ca cl b h0 n0 _ T44.heap _
        rw [e46]
        exact ⟨rfl, N45⟩
set_option maxRecDepth 65536 in
set_option maxHeartbeats 40000000 in
theorem own_leaff_1 (q0 : Int64) (hf : q0 < (-128 : Int64) ∨ (127 : Int64) < q0) (v72 : Int64) (hv72 : v72 = (own_f2 q0)) (v75 : Int32) (hv75 : v75 = (if v72 < (-1 : Int64) then (0 : Int32) else (1 : Int32))) (hc84 : v75 = (0 : Int32)) : False := by
  have dv75 : (v72 < (-1 : Int64) ∧ (v75 = (0 : Int32))) ∨ (¬ (v72 < (-1 : Int64)) ∧ (v75 = (1 : Int32))) := (if cq0 : v72 < (-1 : Int64) then Or.inl ⟨cq0, (by rw [hv75, if_pos cq0])⟩ else Or.inr ⟨cq0, (by rw [hv75, if_neg cq0])⟩)
  clear hv75
  have fc1 := own_f2_cases q0
  generalize own_f2 q0 = ex1 at *
  try simp only [Int32.reduceAdd, Int32.reduceSub, Int32.reduceMul, Int64.reduceAdd, Int64.reduceSub, Int64.reduceMul, Int32.lt_iff_toInt_lt, Int64.lt_iff_toInt_lt, ← Int32.toInt_inj, ← Int64.toInt_inj, Int32.reduceToInt, Int64.reduceToInt, not_true_eq_false, not_false_eq_true, false_and, and_false, true_and, and_true, false_or, or_false, true_or, or_true] at dv75
  try simp only [Int32.reduceAdd, Int32.reduceSub, Int32.reduceMul, Int64.reduceAdd, Int64.reduceSub, Int64.reduceMul, Int32.lt_iff_toInt_lt, Int64.lt_iff_toInt_lt, ← Int32.toInt_inj, ← Int64.toInt_inj, Int32.reduceToInt, Int64.reduceToInt, not_true_eq_false, not_false_eq_true, false_and, and_false, true_and, and_true, false_or, or_false, true_or, or_true] at hf
  try simp only [Int32.reduceAdd, Int32.reduceSub, Int32.reduceMul, Int64.reduceAdd, Int64.reduceSub, Int64.reduceMul, Int32.lt_iff_toInt_lt, Int64.lt_iff_toInt_lt, ← Int32.toInt_inj, ← Int64.toInt_inj, Int32.reduceToInt, Int64.reduceToInt, not_true_eq_false, not_false_eq_true, false_and, and_false, true_and, and_true, false_or, or_false, true_or, or_true] at hv72
  try simp only [Int32.reduceAdd, Int32.reduceSub, Int32.reduceMul, Int64.reduceAdd, Int64.reduceSub, Int64.reduceMul, Int32.lt_iff_toInt_lt, Int64.lt_iff_toInt_lt, ← Int32.toInt_inj, ← Int64.toInt_inj, Int32.reduceToInt, Int64.reduceToInt, not_true_eq_false, not_false_eq_true, false_and, and_false, true_and, and_true, false_or, or_false, true_or, or_true] at hc84
  have := Int64.le_toInt q0; have := Int64.toInt_lt q0
  have := Int64.le_toInt v72; have := Int64.toInt_lt v72
  have := Int32.le_toInt v75; have := Int32.toInt_lt v75
  try simp only [Int32.reduceAdd, Int32.reduceSub, Int32.reduceMul, Int64.reduceAdd, Int64.reduceSub, Int64.reduceMul, Int32.lt_iff_toInt_lt, Int64.lt_iff_toInt_lt, ← Int32.toInt_inj, ← Int64.toInt_inj, Int32.reduceToInt, Int64.reduceToInt, not_true_eq_false, not_false_eq_true, false_and, and_false, true_and, and_true, false_or, or_false, true_or, or_true] at fc1
  all_goals omega
set_option maxRecDepth 65536 in
set_option maxHeartbeats 40000000 in
theorem own_leaff_2 (q0 : Int64) (hf : q0 < (-128 : Int64) ∨ (127 : Int64) < q0) (v72 : Int64) (hv72 : v72 = (own_f2 q0)) (v81 : Int32) (hv81 : v81 = (if q0 < (0 : Int64) then (if v72 = (-1 : Int64) then (1 : Int32) else (0 : Int32)) else (if v72 = q0 then (1 : Int32) else (0 : Int32)))) (hc86 : v81 = (0 : Int32)) : False := by
  have dv81 : (q0 < (0 : Int64) ∧ ((v72 = (-1 : Int64) ∧ (v81 = (1 : Int32))) ∨ (¬ (v72 = (-1 : Int64)) ∧ (v81 = (0 : Int32))))) ∨ (¬ (q0 < (0 : Int64)) ∧ ((v72 = q0 ∧ (v81 = (1 : Int32))) ∨ (¬ (v72 = q0) ∧ (v81 = (0 : Int32))))) := (if cq0 : q0 < (0 : Int64) then Or.inl ⟨cq0, (if cq1 : v72 = (-1 : Int64) then Or.inl ⟨cq1, (by rw [hv81, if_pos cq0, if_pos cq1])⟩ else Or.inr ⟨cq1, (by rw [hv81, if_pos cq0, if_neg cq1])⟩)⟩ else Or.inr ⟨cq0, (if cq1 : v72 = q0 then Or.inl ⟨cq1, (by rw [hv81, if_neg cq0, if_pos cq1])⟩ else Or.inr ⟨cq1, (by rw [hv81, if_neg cq0, if_neg cq1])⟩)⟩)
  clear hv81
  have fc1 := own_f2_cases q0
  generalize own_f2 q0 = ex1 at *
  try simp only [Int32.reduceAdd, Int32.reduceSub, Int32.reduceMul, Int64.reduceAdd, Int64.reduceSub, Int64.reduceMul, Int32.lt_iff_toInt_lt, Int64.lt_iff_toInt_lt, ← Int32.toInt_inj, ← Int64.toInt_inj, Int32.reduceToInt, Int64.reduceToInt, not_true_eq_false, not_false_eq_true, false_and, and_false, true_and, and_true, false_or, or_false, true_or, or_true] at dv81
  try simp only [Int32.reduceAdd, Int32.reduceSub, Int32.reduceMul, Int64.reduceAdd, Int64.reduceSub, Int64.reduceMul, Int32.lt_iff_toInt_lt, Int64.lt_iff_toInt_lt, ← Int32.toInt_inj, ← Int64.toInt_inj, Int32.reduceToInt, Int64.reduceToInt, not_true_eq_false, not_false_eq_true, false_and, and_false, true_and, and_true, false_or, or_false, true_or, or_true] at hf
  try simp only [Int32.reduceAdd, Int32.reduceSub, Int32.reduceMul, Int64.reduceAdd, Int64.reduceSub, Int64.reduceMul, Int32.lt_iff_toInt_lt, Int64.lt_iff_toInt_lt, ← Int32.toInt_inj, ← Int64.toInt_inj, Int32.reduceToInt, Int64.reduceToInt, not_true_eq_false, not_false_eq_true, false_and, and_false, true_and, and_true, false_or, or_false, true_or, or_true] at hv72
  try simp only [Int32.reduceAdd, Int32.reduceSub, Int32.reduceMul, Int64.reduceAdd, Int64.reduceSub, Int64.reduceMul, Int32.lt_iff_toInt_lt, Int64.lt_iff_toInt_lt, ← Int32.toInt_inj, ← Int64.toInt_inj, Int32.reduceToInt, Int64.reduceToInt, not_true_eq_false, not_false_eq_true, false_and, and_false, true_and, and_true, false_or, or_false, true_or, or_true] at hc86
  have := Int64.le_toInt q0; have := Int64.toInt_lt q0
  have := Int64.le_toInt v72; have := Int64.toInt_lt v72
  have := Int32.le_toInt v81; have := Int32.toInt_lt v81
  try simp only [Int32.reduceAdd, Int32.reduceSub, Int32.reduceMul, Int64.reduceAdd, Int64.reduceSub, Int64.reduceMul, Int32.lt_iff_toInt_lt, Int64.lt_iff_toInt_lt, ← Int32.toInt_inj, ← Int64.toInt_inj, Int32.reduceToInt, Int64.reduceToInt, not_true_eq_false, not_false_eq_true, false_and, and_false, true_and, and_true, false_or, or_false, true_or, or_true] at fc1
  all_goals omega
theorem own_ef0f (m : MethodId) (q0 : Int64) : entryFrame m #[(.long q0)] maxLocals = mkF m 0 #[.val (.long q0), .second, .unset, .unset, .unset, .unset, .unset] [] := by first | (simp [entryFrame, mkF, argsToLocals, Value.category, maxLocals]; done) | rfl
def own_Q0f (Z : State) (q0 : Int64) (h0 : Heap) (n0 : Nat) (v : Option Value) (h : Heap) (L : List Loc) : Prop := v = some (.int 1) ∧ Fr n0 L
set_option maxRecDepth 65536 in
set_option maxHeartbeats 40000000 in
theorem own_rm0f (l : Launch) (Z : State) (av : Array Value) (hw : ∀ d ∈ tables_1, d.before av Z = true) (ws : List Jvm.Cond) (q0 : Int64) (h0 : Heap) (n0 : Nat) (Z0 : n0 ≤ h0.size) (hf : q0 < (-128 : Int64) ∨ (127 : Int64) < q0) :
    MetFree l x (head1 (Jvm.Cond.code x code maxLocals ret :: ws) room_1) (fun a U => a = #[(.long q0)] ∧ Z.Warmed39 U.vm ∧ U.heap = h0) (fun _ _ _ _ _ => True) (fun _ U o U' => ∃ v L, o = .returned v ∧ own_Q0f Z q0 h0 n0 v U'.heap L ∧ FrameEnd U o U' L room_1.cells room_1.slots) := by
  refine MetFree.of_bodySF (plainFor_of_name own_pn49) hisR ?_
  intro p e s m args below meth c s₁ Bd hml0 hP hK
  obtain ⟨rfl, hZ, hh⟩ := hP
  have hx := Bd.exec
  have hby := Bd.bytes
  have hml : c.maxLocals = 7 := hml0
  have hown : s.vm.findClass "com/example/latchkey/latchkey/redis/PlaceStepsHolderLeasePinLaw" = some m.cls := findClass_of_methodNamed Bd.named
  have hnm := (name_of_methodNamed Bd.named Bd.method).1
  have X0 : Stand p l e room_1 s m #[(.long q0)] below meth c s₁ [] 0 0 := Stand.of_body Bd
  have e0 : s₁.heap = h0 := by rw [← hh, Bd.state]; rfl
  have N0 := Fr.nil n0
  have pre0 : ∀ t, Steps p.tables e below (s₁.setTop (mkF m 0 #[.val (.long q0), .second, .unset, .unset, .unset, .unset, .unset] [])) t → Steps p.tables e below (s₁.setTop (entryFrame m #[(.long q0)] maxLocals)) t := fun t k => castTop (own_ef0f m q0) k
  obtain ⟨_, _, ⟨T62, L62, k62, n62⟩, -, X62, ⟨Lc62, hQ62, l62, y62, z62⟩, st62⟩ := Jvm.LawKit.callS X0 hx (y := (⟨"java/lang/Long", "valueOf", "(J)Ljava/lang/Long;"⟩ : MethodName)) hown (mvT hZ (hw _ (List.mem_of_getElem? (i := 0) rfl))) (mvT hZ (hw _ (List.mem_of_getElem? (i := 1) rfl))) (mvT hZ (hw _ (List.mem_of_getElem? (i := 2) rfl))) (mvT hZ (hw _ (List.mem_of_getElem? (i := 3) rfl))) (by decide) (backOf (W := 0) (own_rmVf l Z av hw [] q0 h0 n0 Z0 (hf)) hZ (hw _ (List.mem_of_getElem? (i := 3) rfl)) (hw _ (List.mem_of_getElem? (i := 2) rfl)) (by decide) (by decide)) (g := (mkF m 1 #[.val (.long q0), .second, .unset, .unset, .unset, .unset, .unset] [(.long q0)])) rfl (by rw [hml]; rfl) (argsL := [(.long q0)]) (rest := []) (lenOf own_pd3 rfl) rfl (by show 2 * 0 + _ ≤ _; exact Nat.le_of_eq rfl) (hb hby at_1) (fun _ _ => ⟨rfl, e0, (by decide : 0 + 1 ≤ _), (by decide : 0 + 1 ≤ _)⟩)
  dsimp only [Pt.U, Pt.locs, Pt.cells, Pt.slots] at X62 l62 y62 z62 st62 hQ62
  subst l62 y62 z62
  obtain ⟨b63, rfl, N62q, K62, g_b63, sz62_b63, f65, f66⟩ := hQ62
  have sz_b63 : h0.size ≤ b63 := Nat.le_trans (Keep.refl h0 []).1 sz62_b63
  have K67 : Keep h0 T62.heap [] := (Keep.refl h0 []).trans K62 all0
  have z68 : n0 ≤ T62.heap.size := Nat.le_trans Z0 K62.1
  have N64 := Fr.app N0 N62q
  obtain ⟨_, _, ⟨T69, L69, k69, n69⟩, -, X69, ⟨Lc69, hQ69, l69, y69, z69⟩, st69⟩ := Jvm.LawKit.callS X62 hx (y := (⟨"com/example/latchkey/latchkey/redis/PlaceSteps", "holderLease", "(Ljava/lang/Object;)J"⟩ : MethodName)) hown (mvT hZ (hw _ (List.mem_of_getElem? (i := 8) rfl))) (mvT hZ (hw _ (List.mem_of_getElem? (i := 9) rfl))) (mvT hZ (hw _ (List.mem_of_getElem? (i := 10) rfl))) (mvT hZ (hw _ (List.mem_of_getElem? (i := 11) rfl))) (by decide) (backOf (W := 0) (own_rm2 l Z av hw [] b63 (q0) T62.heap n0 z68 f65 f66) hZ (hw _ (List.mem_of_getElem? (i := 11) rfl)) (hw _ (List.mem_of_getElem? (i := 10) rfl)) (by decide) (by decide)) (g := (mkF m 6 #[.val (.long q0), .second, .val (.ref b63), .unset, .unset, .unset, .unset] [(.ref b63)])) rfl (by rw [hml]; rfl) (argsL := [(.ref b63)]) (rest := []) (lenOf own_pd4 rfl) rfl (by show 2 * 0 + _ ≤ _; exact Nat.le_of_eq rfl) (hb hby at_6) (fun _ _ => ⟨rfl, rfl, (by decide : 1 + 0 ≤ _), (by decide : 1 + 0 ≤ _)⟩)
  dsimp only [Pt.U, Pt.locs, Pt.cells, Pt.slots] at X69 l69 y69 z69 st69 hQ69
  subst l69 y69 z69
  obtain ⟨rfl, N69q, e71⟩ := hQ69
  have N70 := Fr.app N64 N69q
  obtain ⟨v72, hv72⟩ : ∃ z : Int64, z = (own_f2 q0) := ⟨_, rfl⟩
  have pre73 : ∀ t, Steps p.tables e below (T69.setTop (mkF m 15 #[.val (.long q0), .second, .val (.ref b63), .val (.long v72), .second, .unset, .unset] [(.int (lcmpW v72 (-1 : Int64)))])) t → Steps p.tables e below (s₁.setTop (entryFrame m #[(.long q0)] maxLocals)) t := fun t kk => pre0 t (by
    show Steps p.tables e below (s₁.setTop (mkF m 0 #[.val (.long q0), .second, .unset, .unset, .unset, .unset, .unset] [])) _
    refine XS.lloadN X0.here hx rfl (hb hby at_0) rfl ?_
    show Steps p.tables e below (s₁.setTop (mkF m 1 #[.val (.long q0), .second, .unset, .unset, .unset, .unset, .unset] [(.long q0)])) _
    refine st62 _ ?_
    show Steps p.tables e below (T62.setTop (mkF m 4 #[.val (.long q0), .second, .unset, .unset, .unset, .unset, .unset] [(.ref b63)])) _
    refine XS.astoreN X62.here hx rfl (hb hby at_4) rfl rfl (l' := #[.val (.long q0), .second, .val (.ref b63), .unset, .unset, .unset, .unset]) rfl ?_
    show Steps p.tables e below (T62.setTop (mkF m 5 #[.val (.long q0), .second, .val (.ref b63), .unset, .unset, .unset, .unset] [])) _
    refine XS.aloadN X62.here hx rfl (hb hby at_5) rfl rfl ?_
    show Steps p.tables e below (T62.setTop (mkF m 6 #[.val (.long q0), .second, .val (.ref b63), .unset, .unset, .unset, .unset] [(.ref b63)])) _
    refine st69 _ ?_
    show Steps p.tables e below (T69.setTop (mkF m 9 #[.val (.long q0), .second, .val (.ref b63), .unset, .unset, .unset, .unset] [(.long (own_f2 q0))])) _
    refine castTop (congrArg (fun z : Int64 => mkF m 9 #[.val (.long q0), .second, .val (.ref b63), .unset, .unset, .unset, .unset] [(.long z)]) hv72.symm) ?_
    show Steps p.tables e below (T69.setTop (mkF m 9 #[.val (.long q0), .second, .val (.ref b63), .unset, .unset, .unset, .unset] [(.long v72)])) _
    refine XS.lstoreN X69.here hx rfl (hb hby at_9) rfl (l' := #[.val (.long q0), .second, .val (.ref b63), .val (.long v72), .second, .unset, .unset]) rfl ?_
    show Steps p.tables e below (T69.setTop (mkF m 10 #[.val (.long q0), .second, .val (.ref b63), .val (.long v72), .second, .unset, .unset] [])) _
    refine XS.lloadN X69.here hx rfl (hb hby at_10) rfl ?_
    show Steps p.tables e below (T69.setTop (mkF m 11 #[.val (.long q0), .second, .val (.ref b63), .val (.long v72), .second, .unset, .unset] [(.long v72)])) _
    refine X69.ldc2Long hx hown (mvT hZ (hw _ (List.mem_of_getElem? (i := 21) rfl))) (g := (mkF m 11 #[.val (.long q0), .second, .val (.ref b63), .val (.long v72), .second, .unset, .unset] [(.long v72)])) rfl (hb hby at_11) _ ?_
    show Steps p.tables e below (T69.setTop (mkF m 14 #[.val (.long q0), .second, .val (.ref b63), .val (.long v72), .second, .unset, .unset] [(.long (-1 : Int64)), (.long v72)])) _
    refine XS.lcmp X69.here hx rfl (hb hby at_14) rfl ?_
    show Steps p.tables e below (T69.setTop (mkF m 15 #[.val (.long q0), .second, .val (.ref b63), .val (.long v72), .second, .unset, .unset] [(.int (lcmpW v72 (-1 : Int64)))])) _
    exact kk)
  obtain ⟨v75, hv75⟩ : ∃ z : Int32, z = (if v72 < (-1 : Int64) then (0 : Int32) else (1 : Int32)) := ⟨_, rfl⟩
  have pre76 : ∀ t, Steps p.tables e below (T69.setTop (mkF m 23 #[.val (.long q0), .second, .val (.ref b63), .val (.long v72), .second, .unset, .unset] [(.int v75)])) t → Steps p.tables e below (s₁.setTop (entryFrame m #[(.long q0)] maxLocals)) t := fun t kk => pre73 t (by
    show Steps p.tables e below (T69.setTop (mkF m 15 #[.val (.long q0), .second, .val (.ref b63), .val (.long v72), .second, .unset, .unset] [(.int (lcmpW v72 (-1 : Int64)))])) _
    by_cases hc74 : v72 < (-1 : Int64)
    · refine XS.ifYes X69.here hx rfl (pc0 := 15) (pc' := 22) rfl (hb hby at_15) rfl ((if0 _ _).trans (tlt ((lw_lt v72 (-1 : Int64)).mpr hc74)).1) (by decide) (by decide) ?_
      show Steps p.tables e below (T69.setTop (mkF m 22 #[.val (.long q0), .second, .val (.ref b63), .val (.long v72), .second, .unset, .unset] [])) _
      refine XS.iconst X69.here hx rfl (hb hby at_22) ?_
      rw [show v75 = (0 : Int32) by rw [hv75, if_pos hc74]] at kk
      exact kk
    · refine XS.ifNo X69.here hx rfl (hb hby at_15) rfl ((if0 _ _).trans (flt (mt (lw_lt v72 (-1 : Int64)).mp hc74)).1) ?_
      show Steps p.tables e below (T69.setTop (mkF m 18 #[.val (.long q0), .second, .val (.ref b63), .val (.long v72), .second, .unset, .unset] [])) _
      refine XS.iconst X69.here hx rfl (hb hby at_18) ?_
      show Steps p.tables e below (T69.setTop (mkF m 19 #[.val (.long q0), .second, .val (.ref b63), .val (.long v72), .second, .unset, .unset] [(.int (1 : Int32))])) _
      refine XS.goto X69.here hx rfl (pc0 := 19) (pc' := 23) rfl (hb hby at_19) (by decide) (by decide) ?_
      rw [show v75 = (1 : Int32) by rw [hv75, if_neg hc74]] at kk
      exact kk)
  have pre77 : ∀ t, Steps p.tables e below (T69.setTop (mkF m 28 #[.val (.long q0), .second, .val (.ref b63), .val (.long v72), .second, .val (.int v75), .unset] [(.int (lcmpW q0 (0 : Int64)))])) t → Steps p.tables e below (s₁.setTop (entryFrame m #[(.long q0)] maxLocals)) t := fun t kk => pre76 t (by
    show Steps p.tables e below (T69.setTop (mkF m 23 #[.val (.long q0), .second, .val (.ref b63), .val (.long v72), .second, .unset, .unset] [(.int v75)])) _
    refine XS.istore X69.here hx rfl (hb hby at_23) rfl (l' := #[.val (.long q0), .second, .val (.ref b63), .val (.long v72), .second, .val (.int v75), .unset]) rfl ?_
    show Steps p.tables e below (T69.setTop (mkF m 25 #[.val (.long q0), .second, .val (.ref b63), .val (.long v72), .second, .val (.int v75), .unset] [])) _
    refine XS.lloadN X69.here hx rfl (hb hby at_25) rfl ?_
    show Steps p.tables e below (T69.setTop (mkF m 26 #[.val (.long q0), .second, .val (.ref b63), .val (.long v72), .second, .val (.int v75), .unset] [(.long q0)])) _
    refine XS.lconst X69.here hx rfl (hb hby at_26) ?_
    show Steps p.tables e below (T69.setTop (mkF m 27 #[.val (.long q0), .second, .val (.ref b63), .val (.long v72), .second, .val (.int v75), .unset] [(.long (0 : Int64)), (.long q0)])) _
    refine XS.lcmp X69.here hx rfl (hb hby at_27) rfl ?_
    show Steps p.tables e below (T69.setTop (mkF m 28 #[.val (.long q0), .second, .val (.ref b63), .val (.long v72), .second, .val (.int v75), .unset] [(.int (lcmpW q0 (0 : Int64)))])) _
    exact kk)
  obtain ⟨v81, hv81⟩ : ∃ z : Int32, z = (if q0 < (0 : Int64) then (if v72 = (-1 : Int64) then (1 : Int32) else (0 : Int32)) else (if v72 = q0 then (1 : Int32) else (0 : Int32))) := ⟨_, rfl⟩
  have pre82 : ∀ t, Steps p.tables e below (T69.setTop (mkF m 62 #[.val (.long q0), .second, .val (.ref b63), .val (.long v72), .second, .val (.int v75), .val (.int v81)] [])) t → Steps p.tables e below (s₁.setTop (entryFrame m #[(.long q0)] maxLocals)) t := fun t kk => pre77 t (by
    show Steps p.tables e below (T69.setTop (mkF m 28 #[.val (.long q0), .second, .val (.ref b63), .val (.long v72), .second, .val (.int v75), .unset] [(.int (lcmpW q0 (0 : Int64)))])) _
    by_cases hc78 : q0 < (0 : Int64)
    · refine XS.ifYes X69.here hx rfl (pc0 := 28) (pc' := 47) rfl (hb hby at_28) rfl ((if0 _ _).trans (tlt ((lw_lt q0 (0 : Int64)).mpr hc78)).1) (by decide) (by decide) ?_
      show Steps p.tables e below (T69.setTop (mkF m 47 #[.val (.long q0), .second, .val (.ref b63), .val (.long v72), .second, .val (.int v75), .unset] [])) _
      refine XS.lloadN X69.here hx rfl (hb hby at_47) rfl ?_
      show Steps p.tables e below (T69.setTop (mkF m 48 #[.val (.long q0), .second, .val (.ref b63), .val (.long v72), .second, .val (.int v75), .unset] [(.long v72)])) _
      refine X69.ldc2Long hx hown (mvT hZ (hw _ (List.mem_of_getElem? (i := 21) rfl))) (g := (mkF m 48 #[.val (.long q0), .second, .val (.ref b63), .val (.long v72), .second, .val (.int v75), .unset] [(.long v72)])) rfl (hb hby at_48) _ ?_
      show Steps p.tables e below (T69.setTop (mkF m 51 #[.val (.long q0), .second, .val (.ref b63), .val (.long v72), .second, .val (.int v75), .unset] [(.long (-1 : Int64)), (.long v72)])) _
      refine XS.lcmp X69.here hx rfl (hb hby at_51) rfl ?_
      show Steps p.tables e below (T69.setTop (mkF m 52 #[.val (.long q0), .second, .val (.ref b63), .val (.long v72), .second, .val (.int v75), .unset] [(.int (lcmpW v72 (-1 : Int64)))])) _
      by_cases hc79 : v72 = (-1 : Int64)
      · refine XS.ifNo X69.here hx rfl (hb hby at_52) rfl ((if0 _ _).trans (teq ((lw_eq v72 (-1 : Int64)).mpr hc79)).2) ?_
        show Steps p.tables e below (T69.setTop (mkF m 55 #[.val (.long q0), .second, .val (.ref b63), .val (.long v72), .second, .val (.int v75), .unset] [])) _
        refine XS.iconst X69.here hx rfl (hb hby at_55) ?_
        show Steps p.tables e below (T69.setTop (mkF m 56 #[.val (.long q0), .second, .val (.ref b63), .val (.long v72), .second, .val (.int v75), .unset] [(.int (1 : Int32))])) _
        refine XS.goto X69.here hx rfl (pc0 := 56) (pc' := 60) rfl (hb hby at_56) (by decide) (by decide) ?_
        show Steps p.tables e below (T69.setTop (mkF m 60 #[.val (.long q0), .second, .val (.ref b63), .val (.long v72), .second, .val (.int v75), .unset] [(.int (1 : Int32))])) _
        refine XS.istore X69.here hx rfl (hb hby at_60) rfl (l' := #[.val (.long q0), .second, .val (.ref b63), .val (.long v72), .second, .val (.int v75), .val (.int (1 : Int32))]) rfl ?_
        rw [show v81 = (1 : Int32) by rw [hv81, if_pos hc78, if_pos hc79]] at kk
        exact kk
      · refine XS.ifYes X69.here hx rfl (pc0 := 52) (pc' := 59) rfl (hb hby at_52) rfl ((if0 _ _).trans (feq (mt (lw_eq v72 (-1 : Int64)).mp hc79)).2) (by decide) (by decide) ?_
        show Steps p.tables e below (T69.setTop (mkF m 59 #[.val (.long q0), .second, .val (.ref b63), .val (.long v72), .second, .val (.int v75), .unset] [])) _
        refine XS.iconst X69.here hx rfl (hb hby at_59) ?_
        show Steps p.tables e below (T69.setTop (mkF m 60 #[.val (.long q0), .second, .val (.ref b63), .val (.long v72), .second, .val (.int v75), .unset] [(.int (0 : Int32))])) _
        refine XS.istore X69.here hx rfl (hb hby at_60) rfl (l' := #[.val (.long q0), .second, .val (.ref b63), .val (.long v72), .second, .val (.int v75), .val (.int (0 : Int32))]) rfl ?_
        rw [show v81 = (0 : Int32) by rw [hv81, if_pos hc78, if_neg hc79]] at kk
        exact kk
    · refine XS.ifNo X69.here hx rfl (hb hby at_28) rfl ((if0 _ _).trans (flt (mt (lw_lt q0 (0 : Int64)).mp hc78)).1) ?_
      show Steps p.tables e below (T69.setTop (mkF m 31 #[.val (.long q0), .second, .val (.ref b63), .val (.long v72), .second, .val (.int v75), .unset] [])) _
      refine XS.lloadN X69.here hx rfl (hb hby at_31) rfl ?_
      show Steps p.tables e below (T69.setTop (mkF m 32 #[.val (.long q0), .second, .val (.ref b63), .val (.long v72), .second, .val (.int v75), .unset] [(.long v72)])) _
      refine XS.lloadN X69.here hx rfl (hb hby at_32) rfl ?_
      show Steps p.tables e below (T69.setTop (mkF m 33 #[.val (.long q0), .second, .val (.ref b63), .val (.long v72), .second, .val (.int v75), .unset] [(.long q0), (.long v72)])) _
      refine XS.lcmp X69.here hx rfl (hb hby at_33) rfl ?_
      show Steps p.tables e below (T69.setTop (mkF m 34 #[.val (.long q0), .second, .val (.ref b63), .val (.long v72), .second, .val (.int v75), .unset] [(.int (lcmpW v72 q0))])) _
      by_cases hc80 : v72 = q0
      · refine XS.ifNo X69.here hx rfl (hb hby at_34) rfl ((if0 _ _).trans (teq ((lw_eq v72 q0).mpr hc80)).2) ?_
        show Steps p.tables e below (T69.setTop (mkF m 37 #[.val (.long q0), .second, .val (.ref b63), .val (.long v72), .second, .val (.int v75), .unset] [])) _
        refine XS.iconst X69.here hx rfl (hb hby at_37) ?_
        show Steps p.tables e below (T69.setTop (mkF m 38 #[.val (.long q0), .second, .val (.ref b63), .val (.long v72), .second, .val (.int v75), .unset] [(.int (1 : Int32))])) _
        refine XS.goto X69.here hx rfl (pc0 := 38) (pc' := 42) rfl (hb hby at_38) (by decide) (by decide) ?_
        show Steps p.tables e below (T69.setTop (mkF m 42 #[.val (.long q0), .second, .val (.ref b63), .val (.long v72), .second, .val (.int v75), .unset] [(.int (1 : Int32))])) _
        refine XS.istore X69.here hx rfl (hb hby at_42) rfl (l' := #[.val (.long q0), .second, .val (.ref b63), .val (.long v72), .second, .val (.int v75), .val (.int (1 : Int32))]) rfl ?_
        show Steps p.tables e below (T69.setTop (mkF m 44 #[.val (.long q0), .second, .val (.ref b63), .val (.long v72), .second, .val (.int v75), .val (.int (1 : Int32))] [])) _
        refine XS.goto X69.here hx rfl (pc0 := 44) (pc' := 62) rfl (hb hby at_44) (by decide) (by decide) ?_
        rw [show v81 = (1 : Int32) by rw [hv81, if_neg hc78, if_pos hc80]] at kk
        exact kk
      · refine XS.ifYes X69.here hx rfl (pc0 := 34) (pc' := 41) rfl (hb hby at_34) rfl ((if0 _ _).trans (feq (mt (lw_eq v72 q0).mp hc80)).2) (by decide) (by decide) ?_
        show Steps p.tables e below (T69.setTop (mkF m 41 #[.val (.long q0), .second, .val (.ref b63), .val (.long v72), .second, .val (.int v75), .unset] [])) _
        refine XS.iconst X69.here hx rfl (hb hby at_41) ?_
        show Steps p.tables e below (T69.setTop (mkF m 42 #[.val (.long q0), .second, .val (.ref b63), .val (.long v72), .second, .val (.int v75), .unset] [(.int (0 : Int32))])) _
        refine XS.istore X69.here hx rfl (hb hby at_42) rfl (l' := #[.val (.long q0), .second, .val (.ref b63), .val (.long v72), .second, .val (.int v75), .val (.int (0 : Int32))]) rfl ?_
        show Steps p.tables e below (T69.setTop (mkF m 44 #[.val (.long q0), .second, .val (.ref b63), .val (.long v72), .second, .val (.int v75), .val (.int (0 : Int32))] [])) _
        refine XS.goto X69.here hx rfl (pc0 := 44) (pc' := 62) rfl (hb hby at_44) (by decide) (by decide) ?_
        rw [show v81 = (0 : Int32) by rw [hv81, if_neg hc78, if_neg hc80]] at kk
        exact kk)
  have pre83 : ∀ t, Steps p.tables e below (T69.setTop (mkF m 64 #[.val (.long q0), .second, .val (.ref b63), .val (.long v72), .second, .val (.int v75), .val (.int v81)] [(.int v75)])) t → Steps p.tables e below (s₁.setTop (entryFrame m #[(.long q0)] maxLocals)) t := fun t kk => pre82 t (by
    show Steps p.tables e below (T69.setTop (mkF m 62 #[.val (.long q0), .second, .val (.ref b63), .val (.long v72), .second, .val (.int v75), .val (.int v81)] [])) _
    refine XS.iload X69.here hx rfl (hb hby at_62) rfl ?_
    show Steps p.tables e below (T69.setTop (mkF m 64 #[.val (.long q0), .second, .val (.ref b63), .val (.long v72), .second, .val (.int v75), .val (.int v81)] [(.int v75)])) _
    exact kk)
  by_cases hc84 : v75 = (0 : Int32)
  · exact (own_leaff_1 q0 hf v72 hv72 v75 hv75 hc84).elim
  · have pre85 : ∀ t, Steps p.tables e below (T69.setTop (mkF m 69 #[.val (.long q0), .second, .val (.ref b63), .val (.long v72), .second, .val (.int v75), .val (.int v81)] [(.int v81)])) t → Steps p.tables e below (s₁.setTop (entryFrame m #[(.long q0)] maxLocals)) t := fun t kk => pre83 t (by
      show Steps p.tables e below (T69.setTop (mkF m 64 #[.val (.long q0), .second, .val (.ref b63), .val (.long v72), .second, .val (.int v75), .val (.int v81)] [(.int v75)])) _
      refine XS.ifNo X69.here hx rfl (hb hby at_64) rfl ((if0 _ _).trans (feq hc84).1) ?_
      show Steps p.tables e below (T69.setTop (mkF m 67 #[.val (.long q0), .second, .val (.ref b63), .val (.long v72), .second, .val (.int v75), .val (.int v81)] [])) _
      refine XS.iload X69.here hx rfl (hb hby at_67) rfl ?_
      show Steps p.tables e below (T69.setTop (mkF m 69 #[.val (.long q0), .second, .val (.ref b63), .val (.long v72), .second, .val (.int v75), .val (.int v81)] [(.int v81)])) _
      exact kk)
    by_cases hc86 : v81 = (0 : Int32)
    · exact (own_leaff_2 q0 hf v72 hv72 v81 hv81 hc86).elim
    · obtain ⟨fs, hr, hrun, hended, hW, hsame⟩ := X69.leave (v := some (.int (1 : Int32))) (fun h => by rw [Bd.returns] at h; cases h)
      refine ⟨_, _, pre85 _ ?_, hrun, hended, _, _, rfl, ?_, ⟨_, rfl⟩, hW, hsame.mono (by decide) (by decide)⟩
      · show Steps p.tables e below (T69.setTop (mkF m 69 #[.val (.long q0), .second, .val (.ref b63), .val (.long v72), .second, .val (.int v75), .val (.int v81)] [(.int v81)])) _
        refine XS.ifNo X69.here hx rfl (hb hby at_69) rfl ((if0 _ _).trans (feq hc86).1) ?_
        show Steps p.tables e below (T69.setTop (mkF m 72 #[.val (.long q0), .second, .val (.ref b63), .val (.long v72), .second, .val (.int v75), .val (.int v81)] [])) _
        refine XS.iconst X69.here hx rfl (hb hby at_72) ?_
        show Steps p.tables e below (T69.setTop (mkF m 73 #[.val (.long q0), .second, .val (.ref b63), .val (.long v72), .second, .val (.int v75), .val (.int v81)] [(.int (1 : Int32))])) _
        refine XS.goto X69.here hx rfl (pc0 := 73) (pc' := 77) rfl (hb hby at_73) (by decide) (by decide) ?_
        show Steps p.tables e below (T69.setTop (mkF m 77 #[.val (.long q0), .second, .val (.ref b63), .val (.long v72), .second, .val (.int v75), .val (.int v81)] [(.int (1 : Int32))])) _
        exact retN X69 hx (t := .boolean) Bd.returns (by simp) (hb hby at_77) hr
      · show own_Q0f Z q0 h0 n0 _ T69.heap _
        rw [e71]
        exact ⟨rfl, N70⟩
def own_Q0 (Z : State) (q0 : Int64) (h0 : Heap) (n0 : Nat) (v : Option Value) (h : Heap) (L : List Loc) : Prop := v = some (.int 1) ∧ Fr n0 L
theorem own_rm0 (l : Launch) (Z : State) (a0 : Array Value) (hw : ∀ d ∈ tables_1, d.before a0 Z = true) (ws : List Jvm.Cond) (q0 : Int64) (h0 : Heap) (n0 : Nat) (Z0 : n0 ≤ h0.size) (HC : ¬ (q0 < (-128 : Int64)) → ¬ ((127 : Int64) < q0) → ∃ (ca : Addr) (cl : Cell) (b : Addr), Sta Z h0 "java/lang/Long$LongCache" "cache" "[Ljava/lang/Long;" (.ref ca) ∧ Exa Z h0 b "java/lang/Long" ∧ Fld Z h0 b "java/lang/Long" "value" "J" (.long q0) ∧ Arr Z h0 ca cl (.object "java/lang/Long") ∧ ¬ (((q0.toInt32) + (128 : Int32)) < 0 ∨ cl.slots.size ≤ (((q0.toInt32) + (128 : Int32))).toNatClampNeg) ∧ cl.slots[(((q0.toInt32) + (128 : Int32))).toNatClampNeg]? = some (.ref b)) :
    MetFree l x (head1 (Jvm.Cond.code x code maxLocals ret :: ws) room_1) (fun a U => a = #[(.long q0)] ∧ Z.Warmed39 U.vm ∧ U.heap = h0) (fun _ _ _ _ _ => True) (fun _ U o U' => ∃ v L, o = .returned v ∧ own_Q0 Z q0 h0 n0 v U'.heap L ∧ FrameEnd U o U' L room_1.cells room_1.slots) := by
  by_cases h1 : q0 < (-128 : Int64)
  · exact own_rm0f l Z a0 hw ws q0 h0 n0 Z0 (Or.inl h1)
  · by_cases h2 : (127 : Int64) < q0
    · exact own_rm0f l Z a0 hw ws q0 h0 n0 Z0 (Or.inr h2)
    · obtain ⟨ca, cl, b, f1, f2, f3, f4, f5, f6⟩ := HC h1 h2
      exact own_rm0c l Z a0 hw ws q0 ca cl b h0 n0 Z0 f1 f2 f3 f4 f5 f6 h1 h2
theorem own_cache {args a0 : Array Value} {s : State} {q0 : Int64} (w1 : (Jvm.Cond.initializedFor "java/lang/Long$LongCache" "cache" "[Ljava/lang/Long;").before args s = true) (w2 : (Jvm.Cond.arrayOf (.static "java/lang/Long$LongCache" "cache" "[Ljava/lang/Long;") (.object "java/lang/Long")).before args s = true)
    (w4 : (Jvm.Cond.eq (.length (.static "java/lang/Long$LongCache" "cache" "[Ljava/lang/Long;")) (.int 256)).before args s = true)
    (w5 : (Jvm.Cond.all (.static "java/lang/Long$LongCache" "cache" "[Ljava/lang/Long;") (.and (.exactly (.elem (.static "java/lang/Long$LongCache" "cache" "[Ljava/lang/Long;") (.index 0)) "java/lang/Long") (.eq (.field (.elem (.static "java/lang/Long$LongCache" "cache" "[Ljava/lang/Long;") (.index 0)) "java/lang/Long" "value" "J") (.op1 .i2l (.sub (.index 0) (.int 128)))))).before args s = true)
    (wl : (Jvm.Cond.laysFinal "java/lang/Long" "java/lang/Long" "value" "J").before a0 s = true) (h1 : ¬ (q0 < (-128 : Int64))) (h2 : ¬ ((127 : Int64) < q0)) :
    ∃ (ca : Addr) (cl : Cell) (b : Addr), Sta s s.heap "java/lang/Long$LongCache" "cache" "[Ljava/lang/Long;" (.ref ca) ∧ Exa s s.heap b "java/lang/Long" ∧ Fld s s.heap b "java/lang/Long" "value" "J" (.long q0) ∧ Arr s s.heap ca cl (.object "java/lang/Long") ∧ ¬ (((q0.toInt32) + (128 : Int32)) < 0 ∨ cl.slots.size ≤ (((q0.toInt32) + (128 : Int32))).toNatClampNeg) ∧ cl.slots[(((q0.toInt32) + (128 : Int32))).toNatClampNeg]? = some (.ref b) := by
  obtain ⟨ca, ev⟩ := arr_v (Cond.before_iff.mp w2)
  have St := Sta.start ev (Or.inl w1)
  obtain ⟨cl, Ar⟩ := Arr.start ev (Cond.before_iff.mp w2)
  have hat := Ar.fin (Vm.Alike.refl _)
  obtain ⟨lq, lz⟩ := IntBox.length_fwd w4 ev Ar.1 Ar.2.1 Ar.2.2
  have sz : cl.slots.size = 256 := by
    have e := len_toInt lq
    rw [lz] at e
    have e2 : (256 : Int32).toInt = 256 := by decide
    omega
  obtain ⟨hbnd, hlt⟩ := Jvm.Free.LongBox.place_okL q0 h1 h2
  have hj := Cond.all_elim ev hat (by simpa [Cond.holds, Cond.before] using w5) _ (by rw [sz]; exact hlt)
  have hval : (Jvm.Cond.and (.exactly (.elem (.static "java/lang/Long$LongCache" "cache" "[Ljava/lang/Long;") (.index 0)) "java/lang/Long") (.eq (.field (.elem (.static "java/lang/Long$LongCache" "cache" "[Ljava/lang/Long;") (.index 0)) "java/lang/Long" "value" "J") (.op1 .i2l (.sub (.index 0) (.int 128))))).holds args s none s [(q0.toInt32 + 128).toNatClampNeg] = true := by simpa [Cond.holds] using hj
  rw [Cond.holds_and, Bool.and_eq_true] at hval
  obtain ⟨hex, heq⟩ := hval
  obtain ⟨hnn, hback⟩ := IntBox.place_nonneg _ hlt
  have hltA : (q0.toInt32 + 128).toNatClampNeg < cl.slots.size := by rw [sz]; exact hlt
  have evC : (Term.static "java/lang/Long$LongCache" "cache" "[Ljava/lang/Long;").eval args s none [(q0.toInt32 + 128).toNatClampNeg] s = some (.ref ca) := by simpa [Term.eval] using ev
  have evE : (Term.elem (.static "java/lang/Long$LongCache" "cache" "[Ljava/lang/Long;") (.index 0)).eval args s none [(q0.toInt32 + 128).toNatClampNeg] s = some (cl.slots[(q0.toInt32 + 128).toNatClampNeg]'hltA) := by
    have : (Term.index 0).eval args s none [(q0.toInt32 + 128).toNatClampNeg] s = some (.int ((q0.toInt32 + 128).toNatClampNeg).toInt32) := rfl
    rw [elem_f evC this hat hnn, hback]; exact Array.getElem?_eq_getElem hltA
  obtain ⟨b, c', cell, k, e1, e2, e3, e4, e5, rfl, e7⟩ := Cond.exactly_spec hex
  have eb := Option.some.inj (evE.symm.trans e1)
  obtain ⟨c1, k1, cf, kf, i, f, a1, a2, a3, a4, -⟩ := Laid.spec (Or.inr wl)
  have hsub : (Term.op1 .i2l (.sub (.index 0) (.int 128))).eval args s none [(q0.toInt32 + 128).toNatClampNeg] s = some (.long q0) := by
    conv => rhs; rw [← Jvm.Free.LongBox.place_valL q0 h1 h2]
    rfl
  obtain ⟨b', cell', hb', g1, g2, g3, g4, g5⟩ := Jvm.Free.LongBox.fieldLong_fwd heq evE hsub a3 a4
  rw [eb] at hb'; cases hb'
  cases e3.symm.trans g1
  exact ⟨ca, cl, b, St, ⟨_, k, e3, e2, e4, e5, e7⟩, ⟨_, cf, kf, i, f, g1, a3, a4, g2, g3, g4, g5⟩, Ar, by rw [sz]; exact hbnd, by rw [Array.getElem?_eq_getElem hltA, eb]⟩

set_option maxRecDepth 65536 in
set_option maxHeartbeats 40000000 in
theorem comes_1 {Post : Tables → Env → Array Value → State → Outcome → State → Prop} (hpost : ∀ tb e args s v u, (limb_1_1.after args s (.returned v) u = true ∧ limb_1_2.after args s (.returned v) u = true ∧ True) → FrameEnd s (.returned v) u (Jvm.fieldLocs frame_1_writes args s ++ Jvm.arrayLocs frame_1_arrays args s ++ Jvm.staticLocs frame_1_statics s) 16 128 → Post tb e args s (.returned v) u) :
    ArmFor flags0 classFile x code maxLocals ret World_1 tables_1 room_1 Calls_1 rest_1 Pre_1 Post := by
  intro l hfl _ _ p e ha hc hk s m args below hf hA hF happ hP
  obtain ⟨hcalls, hrest, hpre⟩ := hP
  obtain ⟨-, -, -, hnamed, -, -, -, hat⟩ := (Spec.applies_iff hf).mp happ
  obtain ⟨hg, hn⟩ := and_e (Cond.before_iff.mp (show (Jvm.Cond.and given_1 narrow_1).before args s = true from hpre))
  obtain ⟨gg1, gg2⟩ := and_e hg
  obtain ⟨w0, rfl⟩ : ∃ w0 : Value, args = #[w0] := by
    have hs : args.size = 1 := by simpa [Cond.value, given_1] using gg1
    obtain ⟨L⟩ := args
    match L, hs with
    | [w0], _ => exact ⟨w0, rfl⟩
  have hw := fun d (hd : d ∈ tables_1) => atoms_spec (ws := Jvm.Cond.code x code maxLocals ret :: tables_1) hat d (List.mem_cons_of_mem _ hd)
  have hfit : Fit s := fun {y c} hc i hi => by
    obtain ⟨ha, rfl⟩ := Array.getElem?_eq_some_iff.mp hc
    have q := List.all_eq_true.mp ((Array.all_eq_true_iff_forall_mem.mp hF) _ (Array.getElem_mem ha)) i (List.mem_range.mpr hi)
    simpa [Array.getElem?_eq_getElem hi] using q
  obtain ⟨hsets, hown0⟩ := atoms_of _ (rest_1_c_eq ▸ (show rest_1_c.before _ s = true from hrest))
  have hr0 := Cond.before_iff.mp hown0
  obtain ⟨i0, ei0⟩ := isL_v gg2
  obtain rfl : w0 = (.long i0) := Option.some.inj ei0
  obtain ⟨n, o, h1, h2, h3, _, L, rfl, ⟨rfl, N⟩, hq⟩ := own_rm0 l s _ hw tables_1 i0 s.heap s.heap.size (Nat.le_refl _) (own_cache (hsets _ (List.mem_of_getElem? (i := 1) rfl)) (hsets _ (List.mem_of_getElem? (i := 2) rfl)) (hsets _ (List.mem_of_getElem? (i := 4) rfl)) (hsets _ (List.mem_of_getElem? (i := 5) rfl)) (hw _ (List.mem_of_getElem? (i := 20) rfl))) p e ha hc hk s m _ below hf ((Spec.applies_iff_loose hf).mp happ).1 ⟨rfl, State.Warmed39.refl s, rfl⟩ trivial
  refine ⟨n, _, h1, h2, h3, hpost _ _ _ _ _ _ ⟨Cond.after_iff.mpr rfl, Cond.after_iff.mpr (eq_i res_at (Term.int_eval (1)) rfl), trivial⟩ ⟨hq.1, hq.2.1, (hq.2.2.sift fun y hy => Or.inr (N y hy)).mono (by decide) (by decide)⟩⟩
theorem main_1_1 : Claimed_1_1 := comes_1 fun _ _ _ _ _ _ h hF => ⟨h.1, hF⟩
theorem main_1_2 : Claimed_1_2 := comes_1 fun _ _ _ _ _ _ h hF => ⟨h.2.1, hF⟩
end Jvm.Pilot.@@N@@
namespace Jvm.Pilot.@@N@@
open Jvm Jvm.ClassFile Sem Op Lib Jvm.Free Jvm.Stand Jvm.Pilot.@@N@@.Jvm.D
/-! MADE BY PROGRAM (witnessworld.py) out of the Statement's table words and the real class files: 16 classes; the members and pool entries that the words name. The judged class is class 1, her method 1. -/
namespace start1
open Jvm.ClassFile
def u (s : String) : CpInfo := .utf8 (stringToUtf16 s)
/-- a pool by its gaps: so many unusable entries, then the entry; so many at the end -/
def gap : Nat → List CpInfo → List CpInfo
  | 0, r => r
  | n + 1, r => .unusable :: gap n r
def poolList (es : List (Nat × CpInfo)) (last : Nat) : List CpInfo := es.foldr (fun e r => gap e.1 (e.2 :: r)) (gap last [])
def pool (es : List (Nat × CpInfo)) (last : Nat) : Array CpInfo := ⟨poolList es last⟩
def fileOf (pool : Array CpInfo) (this : Nat) (attrs : Array Attribute := #[]) (ms : Array MethodInfo := #[]) (fl : Nat := 33) (sup : Nat := 0) (ifs : Array Nat := #[]) (fds : Array FieldInfo := #[]) : ClassFile where
  minorVersion := 0
  majorVersion := 65
  constantPool := pool
  accessFlags := fl
  thisClass := this
  superClass := sup
  interfaces := ifs
  fields := fds
  methods := ms
  attributes := attrs
def plain (name : String) (sup : Option ClassId) : Class where
  name := name
  kind := .ordinary
  loader := none
  accessFlags := 33
  super := sup
  interfaces := #[]
  cf := none
  fields := #[]
  methods := #[]
  instanceTypes := #[]
  staticTypes := #[]
  resolved := #[]
  callSites := []
  init := .initialized
  statics := none
  mirror := none

def pool0 : Array CpInfo := pool [(5, u "<init>"), (0, u "()V"), (1, .class_ 10), (1, u "java/lang/Object")] 113

def k0c0 : Code := { maxStack := 0, maxLocals := 1, code := object_method_1_code, exceptionTable := #[], attributes := #[] }
def k0m0 : Method := { name := "<init>", desc := "()V", sig := { parameters := [], returnType := none }, accessFlags := 1, code := some k0c0 }
/-- java/lang/Object -/
def k0 : Class := { plain "java/lang/Object" none with
  accessFlags := 33
  interfaces := #[]
  cf := some (fileOf pool0 8 #[] #[{ accessFlags := 1, nameIndex := 5, descriptorIndex := 6, attributes := #[] }] 33 0 #[] #[])
  fields := #[]
  methods := #[k0m0]
  instanceTypes := #[]
  staticTypes := #[]
  resolved := Array.replicate 124 none
  statics := none }

def pool1 : Array CpInfo := pool [(2, .class_ 4), (1, u "java/lang/Object"), (0, u "<init>"), (0, u "()V"), (0, .methodref 8 9), (0, .class_ 10), (0, .nameAndType 11 12), (0, u "java/lang/Long"), (0, u "valueOf"), (0, u "(J)Ljava/lang/Long;"), (0, .interfaceMethodref 14 15), (0, .class_ 16), (0, .nameAndType 17 18), (0, u "com/example/latchkey/latchkey/redis/PlaceSteps"), (0, u "holderLease"), (0, u "(Ljava/lang/Object;)J"), (0, .long 18446744073709551615), (1, .class_ 22), (0, u "com/example/latchkey/latchkey/redis/PlaceStepsHolderLeasePinLaw"), (2, u "law"), (0, u "(J)Z")] 3

def k1m0 : Method := { name := "<init>", desc := "()V", sig := { parameters := [], returnType := none }, accessFlags := 2, code := none }
def k1c1 : Code := { maxStack := 4, maxLocals := 7, code := code, exceptionTable := #[], attributes := #[] }
def k1m1 : Method := { name := "law", desc := "(J)Z", sig := { parameters := [.long], returnType := some .boolean }, accessFlags := 9, code := some k1c1 }
/-- com/example/latchkey/latchkey/redis/PlaceStepsHolderLeasePinLaw -/
def k1 : Class := { plain "com/example/latchkey/latchkey/redis/PlaceStepsHolderLeasePinLaw" (some 0) with
  accessFlags := 49
  interfaces := #[]
  cf := some (fileOf pool1 21 #[] #[{ accessFlags := 2, nameIndex := 5, descriptorIndex := 6, attributes := #[] }, { accessFlags := 9, nameIndex := 25, descriptorIndex := 26, attributes := #[] }] 49 2 #[] #[])
  fields := #[]
  methods := #[k1m0, k1m1]
  instanceTypes := #[]
  staticTypes := #[]
  resolved := Array.replicate 30 none
  statics := none }

def pool2 : Array CpInfo := pool [(1, .class_ 2), (0, u "java/io/Serializable"), (0, .class_ 4), (0, u "java/lang/Object")] 2

/-- java/io/Serializable -/
def k2 : Class := { plain "java/io/Serializable" (some 0) with
  accessFlags := 1537
  interfaces := #[]
  cf := some (fileOf pool2 1 #[] #[] 1537 3 #[] #[])
  fields := #[]
  methods := #[]
  instanceTypes := #[]
  staticTypes := #[]
  resolved := Array.replicate 7 none
  statics := none }

def pool3 : Array CpInfo := pool [(1, .methodref 2 3), (0, .class_ 4), (0, .nameAndType 5 6), (0, u "java/lang/Object"), (0, u "<init>"), (0, u "()V"), (1, .class_ 10), (1, u "java/lang/Number"), (2, .class_ 14), (0, u "java/io/Serializable"), (0, u "serialVersionUID"), (0, u "J")] 20

def k3c0 : Code := { maxStack := 1, maxLocals := 1, code := jdk_18_method_1_code, exceptionTable := #[], attributes := #[] }
def k3m0 : Method := { name := "<init>", desc := "()V", sig := { parameters := [], returnType := none }, accessFlags := 1, code := some k3c0 }
/-- java/lang/Number -/
def k3 : Class := { plain "java/lang/Number" (some 0) with
  accessFlags := 1057
  interfaces := #[2]
  cf := some (fileOf pool3 8 #[] #[{ accessFlags := 1, nameIndex := 5, descriptorIndex := 6, attributes := #[] }] 1057 2 #[13] #[{ accessFlags := 26, nameIndex := 15, descriptorIndex := 16, attributes := #[] }])
  fields := #[{ name := "serialVersionUID", type := .long, accessFlags := 26, slot := 0, constantValue := 0 }]
  methods := #[k3m0]
  instanceTypes := #[]
  staticTypes := #[.long]
  resolved := Array.replicate 37 none
  statics := none }

def pool4 : Array CpInfo := pool [(1, .class_ 2), (0, u "java/lang/Comparable"), (0, .class_ 4), (0, u "java/lang/Object")] 7

/-- java/lang/Comparable -/
def k4 : Class := { plain "java/lang/Comparable" (some 0) with
  accessFlags := 1537
  interfaces := #[]
  cf := some (fileOf pool4 1 #[] #[] 1537 3 #[] #[])
  fields := #[]
  methods := #[]
  instanceTypes := #[]
  staticTypes := #[]
  resolved := Array.replicate 12 none
  statics := none }

def pool5 : Array CpInfo := pool [(1, .class_ 2), (0, u "java/lang/constant/Constable"), (0, .class_ 4), (0, u "java/lang/Object")] 6

/-- java/lang/constant/Constable -/
def k5 : Class := { plain "java/lang/constant/Constable" (some 0) with
  accessFlags := 1537
  interfaces := #[]
  cf := some (fileOf pool5 1 #[] #[] 1537 3 #[] #[])
  fields := #[]
  methods := #[]
  instanceTypes := #[]
  staticTypes := #[]
  resolved := Array.replicate 11 none
  statics := none }

def pool6 : Array CpInfo := pool [(1, .class_ 2), (0, u "java/lang/constant/ConstantDesc"), (0, .class_ 4), (0, u "java/lang/Object")] 32

/-- java/lang/constant/ConstantDesc -/
def k6 : Class := { plain "java/lang/constant/ConstantDesc" (some 0) with
  accessFlags := 1537
  interfaces := #[]
  cf := some (fileOf pool6 1 #[] #[] 1537 3 #[] #[])
  fields := #[]
  methods := #[]
  instanceTypes := #[]
  staticTypes := #[]
  resolved := Array.replicate 37 none
  statics := none }

def pool7 : Array CpInfo := pool [(1, .class_ 2), (0, u "java/lang/Long"), (55, .nameAndType 59 60), (0, u "<init>"), (0, u "()V"), (24, u "valueOf"), (143, u "(J)Ljava/lang/Long;"), (0, .long 18446744073709551488), (1, .long 127), (1, .fieldref 235 236), (0, .class_ 237), (0, .nameAndType 238 239), (0, u "java/lang/Long$LongCache"), (0, u "cache"), (0, u "[Ljava/lang/Long;"), (0, .methodref 1 241), (0, .nameAndType 59 242), (0, u "(J)V"), (27, .methodref 271 58), (0, .class_ 272), (0, u "java/lang/Number"), (0, .fieldref 1 274), (0, .nameAndType 275 276), (0, u "value"), (0, u "J"), (5, u "longValue"), (0, u "()J"), (77, u "TYPE"), (0, u "Ljava/lang/Class;"), (0, .class_ 364), (0, u "java/lang/Comparable"), (0, .class_ 366), (0, u "java/lang/constant/Constable"), (0, .class_ 368), (0, u "java/lang/constant/ConstantDesc"), (0, u "MIN_VALUE"), (1, u "MAX_VALUE"), (4, u "SIZE"), (0, u "I"), (1, u "BYTES"), (1, u "serialVersionUID")] 142

def k7c0 : Code := { maxStack := 4, maxLocals := 3, code := jdk_35_method_24_code, exceptionTable := #[], attributes := #[] }
def k7m0 : Method := { name := "valueOf", desc := "(J)Ljava/lang/Long;", sig := { parameters := [.long], returnType := some (.object "java/lang/Long") }, accessFlags := 9, code := some k7c0 }
def k7c1 : Code := { maxStack := 3, maxLocals := 3, code := jdk_35_method_26_code, exceptionTable := #[], attributes := #[] }
def k7m1 : Method := { name := "<init>", desc := "(J)V", sig := { parameters := [.long], returnType := none }, accessFlags := 1, code := some k7c1 }
def k7c2 : Code := { maxStack := 2, maxLocals := 1, code := jdk_35_method_31_code, exceptionTable := #[], attributes := #[] }
def k7m2 : Method := { name := "longValue", desc := "()J", sig := { parameters := [], returnType := some .long }, accessFlags := 1, code := some k7c2 }
/-- java/lang/Long -/
def k7 : Class := { plain "java/lang/Long" (some 3) with
  accessFlags := 49
  interfaces := #[4, 5, 6]
  cf := some (fileOf pool7 1 #[.nestMembers #[235]] #[{ accessFlags := 9, nameIndex := 85, descriptorIndex := 229, attributes := #[] }, { accessFlags := 1, nameIndex := 59, descriptorIndex := 242, attributes := #[] }, { accessFlags := 1, nameIndex := 282, descriptorIndex := 283, attributes := #[] }] 49 271 #[363, 365, 367] #[{ accessFlags := 25, nameIndex := 369, descriptorIndex := 276, attributes := #[] }, { accessFlags := 25, nameIndex := 371, descriptorIndex := 276, attributes := #[] }, { accessFlags := 25, nameIndex := 361, descriptorIndex := 362, attributes := #[] }, { accessFlags := 18, nameIndex := 275, descriptorIndex := 276, attributes := #[] }, { accessFlags := 25, nameIndex := 376, descriptorIndex := 377, attributes := #[] }, { accessFlags := 25, nameIndex := 379, descriptorIndex := 377, attributes := #[] }, { accessFlags := 26, nameIndex := 381, descriptorIndex := 276, attributes := #[] }])
  fields := #[{ name := "MIN_VALUE", type := .long, accessFlags := 25, slot := 0, constantValue := 0 }, { name := "MAX_VALUE", type := .long, accessFlags := 25, slot := 1, constantValue := 0 }, { name := "TYPE", type := (.object "java/lang/Class"), accessFlags := 25, slot := 2, constantValue := 0 }, { name := "value", type := .long, accessFlags := 18, slot := 0, constantValue := 0 }, { name := "SIZE", type := .int, accessFlags := 25, slot := 3, constantValue := 0 }, { name := "BYTES", type := .int, accessFlags := 25, slot := 4, constantValue := 0 }, { name := "serialVersionUID", type := .long, accessFlags := 26, slot := 5, constantValue := 0 }]
  methods := #[k7m0, k7m1, k7m2]
  instanceTypes := #[.long]
  staticTypes := #[.long, .long, (.object "java/lang/Class"), .int, .int, .long]
  resolved := Array.replicate 524 none
  statics := none }

def pool8 : Array CpInfo := pool [(2, .class_ 4), (1, u "java/lang/Object"), (0, u "<init>"), (0, u "()V"), (0, .class_ 8), (0, u "java/lang/Long"), (7, .class_ 18), (1, u "java/lang/Long$LongCache"), (0, u "$assertionsDisabled"), (0, u "Z"), (8, u "archivedCache"), (0, u "[Ljava/lang/Long;"), (7, u "cache")] 24

def k8m0 : Method := { name := "<init>", desc := "()V", sig := { parameters := [], returnType := none }, accessFlags := 2, code := none }
/-- java/lang/Long$LongCache -/
def k8 : Class := { plain "java/lang/Long$LongCache" (some 0) with
  accessFlags := 48
  interfaces := #[]
  cf := some (fileOf pool8 16 #[.nestHost 7] #[{ accessFlags := 2, nameIndex := 5, descriptorIndex := 6, attributes := #[] }] 48 2 #[] #[{ accessFlags := 24, nameIndex := 38, descriptorIndex := 30, attributes := #[] }, { accessFlags := 8, nameIndex := 29, descriptorIndex := 30, attributes := #[] }, { accessFlags := 4120, nameIndex := 19, descriptorIndex := 20, attributes := #[] }])
  fields := #[{ name := "cache", type := (.array (.object "java/lang/Long")), accessFlags := 24, slot := 0, constantValue := 0 }, { name := "archivedCache", type := (.array (.object "java/lang/Long")), accessFlags := 8, slot := 1, constantValue := 0 }, { name := "$assertionsDisabled", type := .boolean, accessFlags := 4120, slot := 2, constantValue := 0 }]
  methods := #[k8m0]
  instanceTypes := #[]
  staticTypes := #[(.array (.object "java/lang/Long")), (.array (.object "java/lang/Long")), .boolean]
  resolved := Array.replicate 63 none
  statics := some 0 }

def pool9 : Array CpInfo := pool [(2, .class_ 4), (1, u "java/lang/Long"), (29, .class_ 36), (1, u "com/example/latchkey/latchkey/redis/PlaceSteps"), (0, u "holderLease"), (0, u "(Ljava/lang/Object;)J"), (3, .methodref 2 43), (0, .nameAndType 44 45), (0, u "longValue"), (0, u "()J"), (0, .long 18446744073709551615), (1, .class_ 49), (0, u "java/lang/Object"), (19, .class_ 70), (0, u "com/example/latchkey/latchkey/redis/PlaceSteps$Look"), (0, .class_ 72), (0, u "com/example/latchkey/latchkey/redis/PlaceSteps$Look$Standing")] 3

def k9c0 : Code := { maxStack := 4, maxLocals := 3, code := prog_26_method_7_code, exceptionTable := #[], attributes := #[] }
def k9m0 : Method := { name := "holderLease", desc := "(Ljava/lang/Object;)J", sig := { parameters := [(.object "java/lang/Object")], returnType := some .long }, accessFlags := 9, code := some k9c0 }
/-- com/example/latchkey/latchkey/redis/PlaceSteps -/
def k9 : Class := { plain "com/example/latchkey/latchkey/redis/PlaceSteps" (some 0) with
  accessFlags := 1536
  interfaces := #[]
  cf := some (fileOf pool9 34 #[.nestMembers #[69, 71]] #[{ accessFlags := 9, nameIndex := 37, descriptorIndex := 38, attributes := #[] }] 1536 48 #[] #[])
  fields := #[]
  methods := #[k9m0]
  instanceTypes := #[]
  staticTypes := #[]
  resolved := Array.replicate 76 none
  statics := none }

def pool10 : Array CpInfo := pool [(1, u "java/lang/Cloneable"), (0, .class_ 1), (0, u "java/lang/Object"), (0, .class_ 3)] 3

/-- java/lang/Cloneable -/
def k10 : Class := { plain "java/lang/Cloneable" (some 0) with
  accessFlags := 1537
  interfaces := #[]
  cf := some (fileOf pool10 2 #[] #[] 1537 4 #[] #[])
  fields := #[]
  methods := #[]
  instanceTypes := #[]
  staticTypes := #[]
  resolved := Array.replicate 8 none
  statics := none }

/-- the primitive byte -/
def k11 : Class := { plain "byte" none with kind := .primitive 'B', accessFlags := 0x411 }
/-- [B -/
def k12 : Class := { plain "[B" (some 0) with kind := .array 11 .byte, interfaces := #[10, 2], accessFlags := 1041 }

/-- the primitive int -/
def k13 : Class := { plain "int" none with kind := .primitive 'I', accessFlags := 0x411 }
/-- [I -/
def k14 : Class := { plain "[I" (some 0) with kind := .array 13 .int, interfaces := #[10, 2], accessFlags := 1041 }

/-- [Ljava/lang/Long; -/
def k15 : Class := { plain "[Ljava/lang/Long;" (some 0) with kind := .array 7 (.object "java/lang/Long"), interfaces := #[10, 2], accessFlags := 1041 }

def heap : Heap := #[{ cls := 8, slots := #[.ref 1, .null, .int 0], vm := .statics 8 },
  { cls := 15, slots := #[.ref 2, .ref 3, .ref 4, .ref 5, .ref 6, .ref 7, .ref 8, .ref 9, .ref 10, .ref 11, .ref 12, .ref 13, .ref 14, .ref 15, .ref 16, .ref 17, .ref 18, .ref 19, .ref 20, .ref 21, .ref 22, .ref 23, .ref 24, .ref 25, .ref 26, .ref 27, .ref 28, .ref 29, .ref 30, .ref 31, .ref 32, .ref 33, .ref 34, .ref 35, .ref 36, .ref 37, .ref 38, .ref 39, .ref 40, .ref 41, .ref 42, .ref 43, .ref 44, .ref 45, .ref 46, .ref 47, .ref 48, .ref 49, .ref 50, .ref 51, .ref 52, .ref 53, .ref 54, .ref 55, .ref 56, .ref 57, .ref 58, .ref 59, .ref 60, .ref 61, .ref 62, .ref 63, .ref 64, .ref 65, .ref 66, .ref 67, .ref 68, .ref 69, .ref 70, .ref 71, .ref 72, .ref 73, .ref 74, .ref 75, .ref 76, .ref 77, .ref 78, .ref 79, .ref 80, .ref 81, .ref 82, .ref 83, .ref 84, .ref 85, .ref 86, .ref 87, .ref 88, .ref 89, .ref 90, .ref 91, .ref 92, .ref 93, .ref 94, .ref 95, .ref 96, .ref 97, .ref 98, .ref 99, .ref 100, .ref 101, .ref 102, .ref 103, .ref 104, .ref 105, .ref 106, .ref 107, .ref 108, .ref 109, .ref 110, .ref 111, .ref 112, .ref 113, .ref 114, .ref 115, .ref 116, .ref 117, .ref 118, .ref 119, .ref 120, .ref 121, .ref 122, .ref 123, .ref 124, .ref 125, .ref 126, .ref 127, .ref 128, .ref 129, .ref 130, .ref 131, .ref 132, .ref 133, .ref 134, .ref 135, .ref 136, .ref 137, .ref 138, .ref 139, .ref 140, .ref 141, .ref 142, .ref 143, .ref 144, .ref 145, .ref 146, .ref 147, .ref 148, .ref 149, .ref 150, .ref 151, .ref 152, .ref 153, .ref 154, .ref 155, .ref 156, .ref 157, .ref 158, .ref 159, .ref 160, .ref 161, .ref 162, .ref 163, .ref 164, .ref 165, .ref 166, .ref 167, .ref 168, .ref 169, .ref 170, .ref 171, .ref 172, .ref 173, .ref 174, .ref 175, .ref 176, .ref 177, .ref 178, .ref 179, .ref 180, .ref 181, .ref 182, .ref 183, .ref 184, .ref 185, .ref 186, .ref 187, .ref 188, .ref 189, .ref 190, .ref 191, .ref 192, .ref 193, .ref 194, .ref 195, .ref 196, .ref 197, .ref 198, .ref 199, .ref 200, .ref 201, .ref 202, .ref 203, .ref 204, .ref 205, .ref 206, .ref 207, .ref 208, .ref 209, .ref 210, .ref 211, .ref 212, .ref 213, .ref 214, .ref 215, .ref 216, .ref 217, .ref 218, .ref 219, .ref 220, .ref 221, .ref 222, .ref 223, .ref 224, .ref 225, .ref 226, .ref 227, .ref 228, .ref 229, .ref 230, .ref 231, .ref 232, .ref 233, .ref 234, .ref 235, .ref 236, .ref 237, .ref 238, .ref 239, .ref 240, .ref 241, .ref 242, .ref 243, .ref 244, .ref 245, .ref 246, .ref 247, .ref 248, .ref 249, .ref 250, .ref 251, .ref 252, .ref 253, .ref 254, .ref 255, .ref 256, .ref 257], vm := .none },
  { cls := 7, slots := #[.long (-128)], vm := .none },
  { cls := 7, slots := #[.long (-127)], vm := .none },
  { cls := 7, slots := #[.long (-126)], vm := .none },
  { cls := 7, slots := #[.long (-125)], vm := .none },
  { cls := 7, slots := #[.long (-124)], vm := .none },
  { cls := 7, slots := #[.long (-123)], vm := .none },
  { cls := 7, slots := #[.long (-122)], vm := .none },
  { cls := 7, slots := #[.long (-121)], vm := .none },
  { cls := 7, slots := #[.long (-120)], vm := .none },
  { cls := 7, slots := #[.long (-119)], vm := .none },
  { cls := 7, slots := #[.long (-118)], vm := .none },
  { cls := 7, slots := #[.long (-117)], vm := .none },
  { cls := 7, slots := #[.long (-116)], vm := .none },
  { cls := 7, slots := #[.long (-115)], vm := .none },
  { cls := 7, slots := #[.long (-114)], vm := .none },
  { cls := 7, slots := #[.long (-113)], vm := .none },
  { cls := 7, slots := #[.long (-112)], vm := .none },
  { cls := 7, slots := #[.long (-111)], vm := .none },
  { cls := 7, slots := #[.long (-110)], vm := .none },
  { cls := 7, slots := #[.long (-109)], vm := .none },
  { cls := 7, slots := #[.long (-108)], vm := .none },
  { cls := 7, slots := #[.long (-107)], vm := .none },
  { cls := 7, slots := #[.long (-106)], vm := .none },
  { cls := 7, slots := #[.long (-105)], vm := .none },
  { cls := 7, slots := #[.long (-104)], vm := .none },
  { cls := 7, slots := #[.long (-103)], vm := .none },
  { cls := 7, slots := #[.long (-102)], vm := .none },
  { cls := 7, slots := #[.long (-101)], vm := .none },
  { cls := 7, slots := #[.long (-100)], vm := .none },
  { cls := 7, slots := #[.long (-99)], vm := .none },
  { cls := 7, slots := #[.long (-98)], vm := .none },
  { cls := 7, slots := #[.long (-97)], vm := .none },
  { cls := 7, slots := #[.long (-96)], vm := .none },
  { cls := 7, slots := #[.long (-95)], vm := .none },
  { cls := 7, slots := #[.long (-94)], vm := .none },
  { cls := 7, slots := #[.long (-93)], vm := .none },
  { cls := 7, slots := #[.long (-92)], vm := .none },
  { cls := 7, slots := #[.long (-91)], vm := .none },
  { cls := 7, slots := #[.long (-90)], vm := .none },
  { cls := 7, slots := #[.long (-89)], vm := .none },
  { cls := 7, slots := #[.long (-88)], vm := .none },
  { cls := 7, slots := #[.long (-87)], vm := .none },
  { cls := 7, slots := #[.long (-86)], vm := .none },
  { cls := 7, slots := #[.long (-85)], vm := .none },
  { cls := 7, slots := #[.long (-84)], vm := .none },
  { cls := 7, slots := #[.long (-83)], vm := .none },
  { cls := 7, slots := #[.long (-82)], vm := .none },
  { cls := 7, slots := #[.long (-81)], vm := .none },
  { cls := 7, slots := #[.long (-80)], vm := .none },
  { cls := 7, slots := #[.long (-79)], vm := .none },
  { cls := 7, slots := #[.long (-78)], vm := .none },
  { cls := 7, slots := #[.long (-77)], vm := .none },
  { cls := 7, slots := #[.long (-76)], vm := .none },
  { cls := 7, slots := #[.long (-75)], vm := .none },
  { cls := 7, slots := #[.long (-74)], vm := .none },
  { cls := 7, slots := #[.long (-73)], vm := .none },
  { cls := 7, slots := #[.long (-72)], vm := .none },
  { cls := 7, slots := #[.long (-71)], vm := .none },
  { cls := 7, slots := #[.long (-70)], vm := .none },
  { cls := 7, slots := #[.long (-69)], vm := .none },
  { cls := 7, slots := #[.long (-68)], vm := .none },
  { cls := 7, slots := #[.long (-67)], vm := .none },
  { cls := 7, slots := #[.long (-66)], vm := .none },
  { cls := 7, slots := #[.long (-65)], vm := .none },
  { cls := 7, slots := #[.long (-64)], vm := .none },
  { cls := 7, slots := #[.long (-63)], vm := .none },
  { cls := 7, slots := #[.long (-62)], vm := .none },
  { cls := 7, slots := #[.long (-61)], vm := .none },
  { cls := 7, slots := #[.long (-60)], vm := .none },
  { cls := 7, slots := #[.long (-59)], vm := .none },
  { cls := 7, slots := #[.long (-58)], vm := .none },
  { cls := 7, slots := #[.long (-57)], vm := .none },
  { cls := 7, slots := #[.long (-56)], vm := .none },
  { cls := 7, slots := #[.long (-55)], vm := .none },
  { cls := 7, slots := #[.long (-54)], vm := .none },
  { cls := 7, slots := #[.long (-53)], vm := .none },
  { cls := 7, slots := #[.long (-52)], vm := .none },
  { cls := 7, slots := #[.long (-51)], vm := .none },
  { cls := 7, slots := #[.long (-50)], vm := .none },
  { cls := 7, slots := #[.long (-49)], vm := .none },
  { cls := 7, slots := #[.long (-48)], vm := .none },
  { cls := 7, slots := #[.long (-47)], vm := .none },
  { cls := 7, slots := #[.long (-46)], vm := .none },
  { cls := 7, slots := #[.long (-45)], vm := .none },
  { cls := 7, slots := #[.long (-44)], vm := .none },
  { cls := 7, slots := #[.long (-43)], vm := .none },
  { cls := 7, slots := #[.long (-42)], vm := .none },
  { cls := 7, slots := #[.long (-41)], vm := .none },
  { cls := 7, slots := #[.long (-40)], vm := .none },
  { cls := 7, slots := #[.long (-39)], vm := .none },
  { cls := 7, slots := #[.long (-38)], vm := .none },
  { cls := 7, slots := #[.long (-37)], vm := .none },
  { cls := 7, slots := #[.long (-36)], vm := .none },
  { cls := 7, slots := #[.long (-35)], vm := .none },
  { cls := 7, slots := #[.long (-34)], vm := .none },
  { cls := 7, slots := #[.long (-33)], vm := .none },
  { cls := 7, slots := #[.long (-32)], vm := .none },
  { cls := 7, slots := #[.long (-31)], vm := .none },
  { cls := 7, slots := #[.long (-30)], vm := .none },
  { cls := 7, slots := #[.long (-29)], vm := .none },
  { cls := 7, slots := #[.long (-28)], vm := .none },
  { cls := 7, slots := #[.long (-27)], vm := .none },
  { cls := 7, slots := #[.long (-26)], vm := .none },
  { cls := 7, slots := #[.long (-25)], vm := .none },
  { cls := 7, slots := #[.long (-24)], vm := .none },
  { cls := 7, slots := #[.long (-23)], vm := .none },
  { cls := 7, slots := #[.long (-22)], vm := .none },
  { cls := 7, slots := #[.long (-21)], vm := .none },
  { cls := 7, slots := #[.long (-20)], vm := .none },
  { cls := 7, slots := #[.long (-19)], vm := .none },
  { cls := 7, slots := #[.long (-18)], vm := .none },
  { cls := 7, slots := #[.long (-17)], vm := .none },
  { cls := 7, slots := #[.long (-16)], vm := .none },
  { cls := 7, slots := #[.long (-15)], vm := .none },
  { cls := 7, slots := #[.long (-14)], vm := .none },
  { cls := 7, slots := #[.long (-13)], vm := .none },
  { cls := 7, slots := #[.long (-12)], vm := .none },
  { cls := 7, slots := #[.long (-11)], vm := .none },
  { cls := 7, slots := #[.long (-10)], vm := .none },
  { cls := 7, slots := #[.long (-9)], vm := .none },
  { cls := 7, slots := #[.long (-8)], vm := .none },
  { cls := 7, slots := #[.long (-7)], vm := .none },
  { cls := 7, slots := #[.long (-6)], vm := .none },
  { cls := 7, slots := #[.long (-5)], vm := .none },
  { cls := 7, slots := #[.long (-4)], vm := .none },
  { cls := 7, slots := #[.long (-3)], vm := .none },
  { cls := 7, slots := #[.long (-2)], vm := .none },
  { cls := 7, slots := #[.long (-1)], vm := .none },
  { cls := 7, slots := #[.long 0], vm := .none },
  { cls := 7, slots := #[.long 1], vm := .none },
  { cls := 7, slots := #[.long 2], vm := .none },
  { cls := 7, slots := #[.long 3], vm := .none },
  { cls := 7, slots := #[.long 4], vm := .none },
  { cls := 7, slots := #[.long 5], vm := .none },
  { cls := 7, slots := #[.long 6], vm := .none },
  { cls := 7, slots := #[.long 7], vm := .none },
  { cls := 7, slots := #[.long 8], vm := .none },
  { cls := 7, slots := #[.long 9], vm := .none },
  { cls := 7, slots := #[.long 10], vm := .none },
  { cls := 7, slots := #[.long 11], vm := .none },
  { cls := 7, slots := #[.long 12], vm := .none },
  { cls := 7, slots := #[.long 13], vm := .none },
  { cls := 7, slots := #[.long 14], vm := .none },
  { cls := 7, slots := #[.long 15], vm := .none },
  { cls := 7, slots := #[.long 16], vm := .none },
  { cls := 7, slots := #[.long 17], vm := .none },
  { cls := 7, slots := #[.long 18], vm := .none },
  { cls := 7, slots := #[.long 19], vm := .none },
  { cls := 7, slots := #[.long 20], vm := .none },
  { cls := 7, slots := #[.long 21], vm := .none },
  { cls := 7, slots := #[.long 22], vm := .none },
  { cls := 7, slots := #[.long 23], vm := .none },
  { cls := 7, slots := #[.long 24], vm := .none },
  { cls := 7, slots := #[.long 25], vm := .none },
  { cls := 7, slots := #[.long 26], vm := .none },
  { cls := 7, slots := #[.long 27], vm := .none },
  { cls := 7, slots := #[.long 28], vm := .none },
  { cls := 7, slots := #[.long 29], vm := .none },
  { cls := 7, slots := #[.long 30], vm := .none },
  { cls := 7, slots := #[.long 31], vm := .none },
  { cls := 7, slots := #[.long 32], vm := .none },
  { cls := 7, slots := #[.long 33], vm := .none },
  { cls := 7, slots := #[.long 34], vm := .none },
  { cls := 7, slots := #[.long 35], vm := .none },
  { cls := 7, slots := #[.long 36], vm := .none },
  { cls := 7, slots := #[.long 37], vm := .none },
  { cls := 7, slots := #[.long 38], vm := .none },
  { cls := 7, slots := #[.long 39], vm := .none },
  { cls := 7, slots := #[.long 40], vm := .none },
  { cls := 7, slots := #[.long 41], vm := .none },
  { cls := 7, slots := #[.long 42], vm := .none },
  { cls := 7, slots := #[.long 43], vm := .none },
  { cls := 7, slots := #[.long 44], vm := .none },
  { cls := 7, slots := #[.long 45], vm := .none },
  { cls := 7, slots := #[.long 46], vm := .none },
  { cls := 7, slots := #[.long 47], vm := .none },
  { cls := 7, slots := #[.long 48], vm := .none },
  { cls := 7, slots := #[.long 49], vm := .none },
  { cls := 7, slots := #[.long 50], vm := .none },
  { cls := 7, slots := #[.long 51], vm := .none },
  { cls := 7, slots := #[.long 52], vm := .none },
  { cls := 7, slots := #[.long 53], vm := .none },
  { cls := 7, slots := #[.long 54], vm := .none },
  { cls := 7, slots := #[.long 55], vm := .none },
  { cls := 7, slots := #[.long 56], vm := .none },
  { cls := 7, slots := #[.long 57], vm := .none },
  { cls := 7, slots := #[.long 58], vm := .none },
  { cls := 7, slots := #[.long 59], vm := .none },
  { cls := 7, slots := #[.long 60], vm := .none },
  { cls := 7, slots := #[.long 61], vm := .none },
  { cls := 7, slots := #[.long 62], vm := .none },
  { cls := 7, slots := #[.long 63], vm := .none },
  { cls := 7, slots := #[.long 64], vm := .none },
  { cls := 7, slots := #[.long 65], vm := .none },
  { cls := 7, slots := #[.long 66], vm := .none },
  { cls := 7, slots := #[.long 67], vm := .none },
  { cls := 7, slots := #[.long 68], vm := .none },
  { cls := 7, slots := #[.long 69], vm := .none },
  { cls := 7, slots := #[.long 70], vm := .none },
  { cls := 7, slots := #[.long 71], vm := .none },
  { cls := 7, slots := #[.long 72], vm := .none },
  { cls := 7, slots := #[.long 73], vm := .none },
  { cls := 7, slots := #[.long 74], vm := .none },
  { cls := 7, slots := #[.long 75], vm := .none },
  { cls := 7, slots := #[.long 76], vm := .none },
  { cls := 7, slots := #[.long 77], vm := .none },
  { cls := 7, slots := #[.long 78], vm := .none },
  { cls := 7, slots := #[.long 79], vm := .none },
  { cls := 7, slots := #[.long 80], vm := .none },
  { cls := 7, slots := #[.long 81], vm := .none },
  { cls := 7, slots := #[.long 82], vm := .none },
  { cls := 7, slots := #[.long 83], vm := .none },
  { cls := 7, slots := #[.long 84], vm := .none },
  { cls := 7, slots := #[.long 85], vm := .none },
  { cls := 7, slots := #[.long 86], vm := .none },
  { cls := 7, slots := #[.long 87], vm := .none },
  { cls := 7, slots := #[.long 88], vm := .none },
  { cls := 7, slots := #[.long 89], vm := .none },
  { cls := 7, slots := #[.long 90], vm := .none },
  { cls := 7, slots := #[.long 91], vm := .none },
  { cls := 7, slots := #[.long 92], vm := .none },
  { cls := 7, slots := #[.long 93], vm := .none },
  { cls := 7, slots := #[.long 94], vm := .none },
  { cls := 7, slots := #[.long 95], vm := .none },
  { cls := 7, slots := #[.long 96], vm := .none },
  { cls := 7, slots := #[.long 97], vm := .none },
  { cls := 7, slots := #[.long 98], vm := .none },
  { cls := 7, slots := #[.long 99], vm := .none },
  { cls := 7, slots := #[.long 100], vm := .none },
  { cls := 7, slots := #[.long 101], vm := .none },
  { cls := 7, slots := #[.long 102], vm := .none },
  { cls := 7, slots := #[.long 103], vm := .none },
  { cls := 7, slots := #[.long 104], vm := .none },
  { cls := 7, slots := #[.long 105], vm := .none },
  { cls := 7, slots := #[.long 106], vm := .none },
  { cls := 7, slots := #[.long 107], vm := .none },
  { cls := 7, slots := #[.long 108], vm := .none },
  { cls := 7, slots := #[.long 109], vm := .none },
  { cls := 7, slots := #[.long 110], vm := .none },
  { cls := 7, slots := #[.long 111], vm := .none },
  { cls := 7, slots := #[.long 112], vm := .none },
  { cls := 7, slots := #[.long 113], vm := .none },
  { cls := 7, slots := #[.long 114], vm := .none },
  { cls := 7, slots := #[.long 115], vm := .none },
  { cls := 7, slots := #[.long 116], vm := .none },
  { cls := 7, slots := #[.long 117], vm := .none },
  { cls := 7, slots := #[.long 118], vm := .none },
  { cls := 7, slots := #[.long 119], vm := .none },
  { cls := 7, slots := #[.long 120], vm := .none },
  { cls := 7, slots := #[.long 121], vm := .none },
  { cls := 7, slots := #[.long 122], vm := .none },
  { cls := 7, slots := #[.long 123], vm := .none },
  { cls := 7, slots := #[.long 124], vm := .none },
  { cls := 7, slots := #[.long 125], vm := .none },
  { cls := 7, slots := #[.long 126], vm := .none },
  { cls := 7, slots := #[.long 127], vm := .none }]
def classes : Array Class := #[k0, k1, k2, k3, k4, k5, k6, k7, k8, k9, k10, k11, k12, k13, k14, k15]
def interned : List (Array UInt16 × Addr) := []
def slotsUsed : Nat := 515
def theMethod : MethodId := ⟨1, 1⟩
def args0 : Array Value := #[.long 500]
def aboutOver (below : List Frame) : State where
  vm := { classes := classes, interned := interned.toArray }
  heap := heap
  slotsUsed := slotsUsed
  threads := #[{ frames := .invoking theMethod args0 :: below }]
def below0 : List Frame := [.native { method := ⟨0, 0⟩, args := #[] }]
def about1 : State := aboutOver below0
def p0 : Program := .bare "" "" ""
def e0 : Env := launch0.env 0 0 0
theorem w_frames : about1.frames = Frame.invoking theMethod args0 :: below0 := rfl
set_option maxRecDepth 65536 in
theorem w_args : argsFit about1.vm theMethod args0 = true := by decide +kernel
set_option maxRecDepth 65536 in
theorem w_heap : heapFits about1 = true := by decide +kernel
set_option maxRecDepth 65536 in
theorem w_runnable : about1.curStatus? = some .runnable := by decide +kernel
set_option maxRecDepth 65536 in
theorem w_alone : about1.alone = true := by decide +kernel
set_option maxRecDepth 65536 in
theorem w_named : about1.methodNamed? x = some theMethod := by decide +kernel
set_option maxRecDepth 65536 in
theorem w_hears : about1.hears theMethod below0 = true := by decide +kernel
set_option maxRecDepth 65536 in
theorem w_ripe : about1.ripe theMethod args0 below0 = true := by decide +kernel
theorem w_running : about1.status = .running := rfl
set_option maxRecDepth 65536 in
theorem w_room : about1.hasRoom e0.platform room_1 = true :=
  launch0.hasRoom_least _ room_1 (by decide +kernel) (by decide +kernel) (by decide +kernel) (by decide +kernel) (by decide +kernel) (by decide +kernel)
theorem allAtoms_all (ts : List Jvm.Cond) (a : Array Jvm.Value) (st : Jvm.State) : (allAtoms ts).before a st = ts.all (fun c => c.before a st) := by
  induction ts with
  | nil => rfl
  | cons c t ih =>
    show (Jvm.Cond.and c (allAtoms t)).before a st = _
    rw [Jvm.Cond.before_and, ih, List.all_cons]
def words1 : List Jvm.Cond := Jvm.Cond.code x code maxLocals ret :: tables_1
/-- a 'code' word, met by the world's own term for the bytes: nothing is compared byte by byte -/
theorem code_word {y : MethodName} {bytes : ByteArray} {mx : Nat} {rt : Option FieldType} {a : Array Value} {s : State} {m : MethodId} {meth : Method} {c : Code} (h1 : s.methodNamed? y = some m) (h2 : s.vm.method? m = some meth) (h3 : meth.code = some c) (h4 : c.code = bytes)
    (h5 : (c.maxLocals == mx && c.exceptionTable.isEmpty && decide (c.maxStack ≤ mostOperands) && decide (meth.sig.returnType = rt) && !meth.locks && decide (parseMethodDescriptor y.desc = some meth.sig)) = true) : (Jvm.Cond.code y bytes mx rt).before a s = true := by
  simp only [Bool.and_eq_true, beq_iff_eq, Bool.not_eq_true', decide_eq_true_eq] at h5
  obtain ⟨⟨⟨⟨⟨g1, g2⟩, g3⟩, g4⟩, g5⟩, g6⟩ := h5
  simp [Cond.before, Cond.holds, Cond.value, h1, h2, h3, h4, g1, g2, g3, g4, g5, g6]
def isCode : Jvm.Cond → Bool
  | .code _ _ _ _ => true
  | _ => false
theorem all_split {L : List Jvm.Cond} {P : Jvm.Cond → Bool} (h1 : L.all (fun c => isCode c || P c) = true) (h2 : ∀ c ∈ L.filter isCode, P c = true) : L.all P = true := by
  refine List.all_eq_true.mpr fun c hc => ?_
  have h := List.all_eq_true.mp h1 c hc
  rcases Bool.eq_false_or_eq_true (isCode c) with hi | hi
  · exact h2 c (List.mem_filter.mpr ⟨hc, hi⟩)
  · simpa [hi] using h
set_option maxRecDepth 65536 in
theorem w_c0 : (Jvm.Cond.code x code maxLocals ret).before args0 about1 = true := code_word (m := ⟨1, 1⟩) (meth := k1m1) (c := k1c1) (by decide +kernel) rfl rfl rfl (by decide +kernel)
set_option maxRecDepth 65536 in
theorem w_c1 : (Jvm.Cond.code ({ cls := "java/lang/Long", name := "valueOf", desc := "(J)Ljava/lang/Long;" } : Jvm.MethodName) jdk_35_method_24_code (3 : Nat) (Option.some (Jvm.ClassFile.FieldType.object "java/lang/Long"))).before args0 about1 = true := code_word (m := ⟨7, 0⟩) (meth := k7m0) (c := k7c0) (by decide +kernel) rfl rfl rfl (by decide +kernel)
set_option maxRecDepth 65536 in
theorem w_c2 : (Jvm.Cond.code ({ cls := "com/example/latchkey/latchkey/redis/PlaceSteps", name := "holderLease", desc := "(Ljava/lang/Object;)J" } : Jvm.MethodName) prog_26_method_7_code (3 : Nat) (Option.some Jvm.ClassFile.FieldType.long)).before args0 about1 = true := code_word (m := ⟨9, 0⟩) (meth := k9m0) (c := k9c0) (by decide +kernel) rfl rfl rfl (by decide +kernel)
set_option maxRecDepth 65536 in
theorem w_c3 : (Jvm.Cond.code ({ cls := "java/lang/Long", name := "longValue", desc := "()J" } : Jvm.MethodName) jdk_35_method_31_code (1 : Nat) (Option.some Jvm.ClassFile.FieldType.long)).before args0 about1 = true := code_word (m := ⟨7, 2⟩) (meth := k7m2) (c := k7c2) (by decide +kernel) rfl rfl rfl (by decide +kernel)
set_option maxRecDepth 65536 in
theorem w_c4 : (Jvm.Cond.code ({ cls := "java/lang/Long", name := "<init>", desc := "(J)V" } : Jvm.MethodName) jdk_35_method_26_code (3 : Nat) (Option.none : Option Jvm.ClassFile.FieldType)).before args0 about1 = true := code_word (m := ⟨7, 1⟩) (meth := k7m1) (c := k7c1) (by decide +kernel) rfl rfl rfl (by decide +kernel)
set_option maxRecDepth 65536 in
theorem w_c5 : (Jvm.Cond.code ({ cls := "java/lang/Number", name := "<init>", desc := "()V" } : Jvm.MethodName) jdk_18_method_1_code (1 : Nat) (Option.none : Option Jvm.ClassFile.FieldType)).before args0 about1 = true := code_word (m := ⟨3, 0⟩) (meth := k3m0) (c := k3c0) (by decide +kernel) rfl rfl rfl (by decide +kernel)
set_option maxRecDepth 65536 in
theorem w_c6 : (Jvm.Cond.code ({ cls := "java/lang/Object", name := "<init>", desc := "()V" } : Jvm.MethodName) object_method_1_code (1 : Nat) (Option.none : Option Jvm.ClassFile.FieldType)).before args0 about1 = true := code_word (m := ⟨0, 0⟩) (meth := k0m0) (c := k0c0) (by decide +kernel) rfl rfl rfl (by decide +kernel)
def codes1 : List Jvm.Cond := [Jvm.Cond.code x code maxLocals ret, Jvm.Cond.code ({ cls := "java/lang/Long", name := "valueOf", desc := "(J)Ljava/lang/Long;" } : Jvm.MethodName) jdk_35_method_24_code (3 : Nat) (Option.some (Jvm.ClassFile.FieldType.object "java/lang/Long")), Jvm.Cond.code ({ cls := "com/example/latchkey/latchkey/redis/PlaceSteps", name := "holderLease", desc := "(Ljava/lang/Object;)J" } : Jvm.MethodName) prog_26_method_7_code (3 : Nat) (Option.some Jvm.ClassFile.FieldType.long), Jvm.Cond.code ({ cls := "java/lang/Long", name := "longValue", desc := "()J" } : Jvm.MethodName) jdk_35_method_31_code (1 : Nat) (Option.some Jvm.ClassFile.FieldType.long), Jvm.Cond.code ({ cls := "java/lang/Long", name := "<init>", desc := "(J)V" } : Jvm.MethodName) jdk_35_method_26_code (3 : Nat) (Option.none : Option Jvm.ClassFile.FieldType), Jvm.Cond.code ({ cls := "java/lang/Number", name := "<init>", desc := "()V" } : Jvm.MethodName) jdk_18_method_1_code (1 : Nat) (Option.none : Option Jvm.ClassFile.FieldType), Jvm.Cond.code ({ cls := "java/lang/Object", name := "<init>", desc := "()V" } : Jvm.MethodName) object_method_1_code (1 : Nat) (Option.none : Option Jvm.ClassFile.FieldType)]
set_option maxRecDepth 65536 in
theorem codes_eq : words1.filter isCode = codes1 := rfl
theorem w_codes : ∀ c ∈ words1.filter isCode, c.before args0 about1 = true := by
  rw [codes_eq]
  intro c hc
  simp only [codes1, List.mem_cons, List.not_mem_nil, or_false] at hc
  rcases hc with rfl | rfl | rfl | rfl | rfl | rfl | rfl
  · exact w_c0
  · exact w_c1
  · exact w_c2
  · exact w_c3
  · exact w_c4
  · exact w_c5
  · exact w_c6
set_option maxRecDepth 65536 in
theorem w_t1 : (words1.take 24).all (fun c => isCode c || c.before args0 about1) = true := by decide +kernel
set_option maxRecDepth 65536 in
theorem w_t2 : (words1.drop 24).all (fun c => isCode c || c.before args0 about1) = true := by decide +kernel
theorem w_tables : (allAtoms (Jvm.Cond.code x code maxLocals ret :: tables_1)).before args0 about1 = true := by
  rw [allAtoms_all]
  show words1.all (fun c => c.before args0 about1) = true
  refine all_split ?_ w_codes
  rw [← List.take_append_drop 24 words1, List.all_append, w_t1, w_t2]
  rfl
set_option maxRecDepth 65536 in
theorem w_rest : rest_1_c.before args0 about1 = true := by decide +kernel
set_option maxRecDepth 65536 in
theorem w_case : (Jvm.Cond.and given_1 narrow_1).before args0 about1 = true := by decide +kernel
theorem w_applies : (headSpec (Jvm.Cond.code x code maxLocals ret :: tables_1) room_1).applies x e0.platform about1 = true :=
  (Spec.applies_iff w_frames).mpr ⟨w_running, w_runnable, w_alone, w_named, w_hears, w_ripe, w_room, w_tables⟩
theorem atStart : AtStart classFile x code maxLocals ret World_1 tables_1 room_1 Calls_1 rest_1 Pre_1 launch0 p0 e0 about1 theMethod args0 below0 :=
  ⟨lists_1, trivial, launch0.admits_env _ _ _, launch0.least_env, fairChoices_fair.cas, fairChoices_fair.clock, w_frames, w_args, w_heap, w_applies, trivial, w_rest, w_case⟩
end start1
theorem witness_1 : WitnessClaimed_1 := ⟨start1.p0, start1.e0, start1.about1, start1.theMethod, start1.args0, start1.below0, start1.atStart⟩
end Jvm.Pilot.@@N@@
