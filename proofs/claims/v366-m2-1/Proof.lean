import JvmDerived
import JvmDerived.Pilot.@@N@@Statement
import JvmDerived.Pilot.@@N@@Code
set_option linter.unusedVariables false
set_option linter.unusedSimpArgs false
namespace Jvm.RoadKit
open Sem ClassFile Op Lib Jvm.Stand Jvm.Free Jvm.LawKit
section New
variable {p : Program} {l : Launch} {e : Env} {R : Room} {s : State} {m : MethodId} {args : Array Value} {below : List Frame} {meth : Method} {c : Code} {T : State} {locs : List Loc} {cells slots : Nat}
theorem retI (X : Stand p l e R s m args below meth c T locs cells slots) (hx : p.tables.exec = Jvm.exec) {pc : Nat} {Ls : Array Slot} {z : Int32} {rest : List Value} (hret : meth.sig.returnType = some .int) (hd : decode c.code pc = .ok (.ireturn, 1)) {fs : List Frame}
    (hl : ∀ (f : JFrame) (acts : List Action), f.method = m → f.locked = none → f.entered = [] → (doReturn e (T.setTop f) acts (some (.int z))).1 = T.setFrames fs) : Steps p.tables e below (T.setTop (mkF m pc Ls (.int z :: rest))) (T.setFrames fs) := by
  have hm' : T.vm.method? m = some meth := X.method'
  have hn : narrow .int (.int z) = .int z := rfl
  show Steps p.tables e below (T.setTop { method := m, pc := pc, locals := Ls, stack := _ :: rest, locked := none }) _
  jvm_step X.here [X.here.top, hx, hd, hm', hret, hn]
  first | (intro acts; rw [hl _ acts rfl rfl rfl]) | rw [hl _ _ rfl rfl rfl]
  exact Steps.refl _
end New
end Jvm.RoadKit
namespace Jvm.Pilot.@@N@@
open Jvm Jvm.ClassFile Sem Op Lib Jvm.Free Jvm.Stand Jvm.LawKit Jvm.RoadKit Bundle Jvm.Pilot.@@N@@.Jvm.D
theorem own_lrem (x y : Int64) : 0 ≤ x.toInt → 0 < y.toInt → 0 ≤ (x - (x / y) * y).toInt ∧ (x - (x / y) * y).toInt < y.toInt ∧ (x - (x / y) * y).toInt ≤ x.toInt := by
  intro h1 h2
  rw [(c_lrem x y y.toInt rfl).1 h1]
  have a1 := Int.emod_nonneg x.toInt (show y.toInt ≠ 0 by omega)
  have a2 := Int.emod_lt_of_pos x.toInt h2
  refine ⟨a1, a2, ?_⟩
  by_cases q : x.toInt < y.toInt
  · rw [Int.emod_eq_of_lt h1 q]; exact Int.le_refl _
  · omega
theorem own_d2_0 : decode jdk_30_method_1_code 0 = .ok (.aload_n 0, 1) := by decide +kernel
theorem own_d2_1 : decode jdk_30_method_1_code 1 = .ok (.invokespecial 1, 3) := by decide +kernel
theorem own_d2_4 : decode jdk_30_method_1_code 4 = .ok (.return_, 1) := by decide +kernel
theorem own_pn3 : plainName "java/lang/Record" = true := by first | (simp [plainName, overriddenIn]; done) | decide +kernel
theorem own_ef2 (m : MethodId) (a0 : Addr) : entryFrame m #[(.ref a0)] 1 = mkF m 0 #[.val (.ref a0)] [] := by first | (simp [entryFrame, mkF, argsToLocals, Value.category]; done) | rfl
def own_Q2 (Z : State) (a0 : Addr) (h0 : Heap) (n0 : Nat) (v : Option Value) (h : Heap) (L : List Loc) : Prop := v = none ∧ Fr n0 L ∧ h = h0
set_option maxRecDepth 65536 in
set_option maxHeartbeats 40000000 in
theorem own_rm2 (l : Launch) (Z : State) (av : Array Value) (hw : ∀ d ∈ tables_1, d.before av Z = true) (ws : List Jvm.Cond) (a0 : Addr) (h0 : Heap) (n0 : Nat) (Z0 : n0 ≤ h0.size) :
    MetFree l (⟨"java/lang/Record", "<init>", "()V"⟩ : MethodName) (head1 (Jvm.Cond.code (⟨"java/lang/Record", "<init>", "()V"⟩ : MethodName) jdk_30_method_1_code 1 none :: ws) ({ frames := 1, cells := 0, slots := 0, locals := 12 } : Room)) (fun a U => a = #[(.ref a0)] ∧ Z.Warmed39 U.vm ∧ U.heap = h0) (fun _ _ _ _ _ => True) (fun _ U o U' => ∃ v L, o = .returned v ∧ own_Q2 Z a0 h0 n0 v U'.heap L ∧ FrameEnd U o U' L ({ frames := 1, cells := 0, slots := 0, locals := 12 } : Room).cells ({ frames := 1, cells := 0, slots := 0, locals := 12 } : Room).slots) := by
  refine MetFree.of_bodySF (plainFor_of_name own_pn3) hisR ?_
  intro p e s m args below meth c s₁ Bd hml0 hP hK
  obtain ⟨rfl, hZ, hh⟩ := hP
  have hx := Bd.exec
  have hby := Bd.bytes
  have hml : c.maxLocals = 1 := hml0
  have hown : s.vm.findClass "java/lang/Record" = some m.cls := findClass_of_methodNamed Bd.named
  have hnm := (name_of_methodNamed Bd.named Bd.method).1
  have X0 : Stand p l e ({ frames := 1, cells := 0, slots := 0, locals := 12 } : Room) s m #[(.ref a0)] below meth c s₁ [] 0 0 := Stand.of_body Bd
  have e0 : s₁.heap = h0 := by rw [← hh, Bd.state]; rfl
  have N0 := Fr.nil n0
  have pre0 : ∀ t, Steps p.tables e below (s₁.setTop (mkF m 0 #[.val (.ref a0)] [])) t → Steps p.tables e below (s₁.setTop (entryFrame m #[(.ref a0)] 1)) t := fun t k => castTop (own_ef2 m a0) k
  obtain ⟨T1, X1, e1, st1⟩ := initO X0 hx hZ hown (hw _ (List.mem_of_getElem? (i := 12) rfl)) (hw _ (List.mem_of_getElem? (i := 13) rfl)) (hw _ (List.mem_of_getElem? (i := 14) rfl)) e0 (g := (mkF m 1 #[.val (.ref a0)] [(.ref a0)])) rfl (by rw [hml]; rfl) rfl (hb hby own_d2_1) (by decide) (W := 0) (by show 2 * 0 + _ ≤ _; exact Nat.le_of_eq rfl) (by decide)
  obtain ⟨fs, hr, hrun, hended, hW, hsame⟩ := X1.leave (v := none) (fun _ => rfl)
  refine ⟨_, _, pre0 _ ?_, hrun, hended, _, _, rfl, ?_, ⟨_, rfl⟩, hW, hsame.mono (by decide) (by decide)⟩
  · show Steps p.tables e below (s₁.setTop (mkF m 0 #[.val (.ref a0)] [])) _
    refine XS.aloadN X0.here hx rfl (hb hby own_d2_0) rfl rfl ?_
    show Steps p.tables e below (s₁.setTop (mkF m 1 #[.val (.ref a0)] [(.ref a0)])) _
    refine st1 _ ?_
    show Steps p.tables e below (T1.setTop (mkF m 4 #[.val (.ref a0)] [])) _
    exact X1.returnOut hx Bd.returns (hb hby own_d2_4) hr
  · show own_Q2 Z a0 h0 n0 _ T1.heap _
    rw [e1]
    exact ⟨rfl, N0, rfl⟩
theorem own_d1_0 : decode prog_65_method_1_code 0 = .ok (.aload_n 0, 1) := by decide +kernel
theorem own_pd0 : parseMethodDescriptor "()V" = some ⟨[], none⟩ := by decide +kernel
theorem own_d1_1 : decode prog_65_method_1_code 1 = .ok (.invokespecial 1, 3) := by decide +kernel
theorem own_d1_4 : decode prog_65_method_1_code 4 = .ok (.iload_n 1, 1) := by decide +kernel
theorem own_d1_5 : decode prog_65_method_1_code 5 = .ok (.ifCond .lt 13, 3) := by decide +kernel
theorem own_d1_8 : decode prog_65_method_1_code 8 = .ok (.iload_n 2, 1) := by decide +kernel
theorem own_d1_9 : decode prog_65_method_1_code 9 = .ok (.iconst (-1), 1) := by decide +kernel
theorem own_d1_10 : decode prog_65_method_1_code 10 = .ok (.if_icmp .eq 39, 3) := by decide +kernel
theorem own_d1_49 : decode prog_65_method_1_code 49 = .ok (.aload_n 0, 1) := by decide +kernel
theorem own_d1_50 : decode prog_65_method_1_code 50 = .ok (.iload_n 1, 1) := by decide +kernel
theorem own_d1_51 : decode prog_65_method_1_code 51 = .ok (.putfield 31, 3) := by decide +kernel
theorem own_d1_54 : decode prog_65_method_1_code 54 = .ok (.aload_n 0, 1) := by decide +kernel
theorem own_d1_55 : decode prog_65_method_1_code 55 = .ok (.iload_n 2, 1) := by decide +kernel
theorem own_d1_56 : decode prog_65_method_1_code 56 = .ok (.putfield 35, 3) := by decide +kernel
theorem own_d1_59 : decode prog_65_method_1_code 59 = .ok (.return_, 1) := by decide +kernel
theorem own_d1_13 : decode prog_65_method_1_code 13 = .ok (.iload_n 2, 1) := by decide +kernel
theorem own_d1_14 : decode prog_65_method_1_code 14 = .ok (.iload_n 1, 1) := by decide +kernel
theorem own_d1_15 : decode prog_65_method_1_code 15 = .ok (.if_icmp .ge 34, 3) := by decide +kernel
theorem own_pn21 : plainName "archetest/model/Multiplicity" = true := by first | (simp [plainName, overriddenIn]; done) | decide +kernel
theorem own_ef1 (m : MethodId) (a0 : Addr) (p1 : Int32) (p2 : Int32) : entryFrame m #[(.ref a0), (.int p1), (.int p2)] 3 = mkF m 0 #[.val (.ref a0), .val (.int p1), .val (.int p2)] [] := by first | (simp [entryFrame, mkF, argsToLocals, Value.category]; done) | rfl
def own_Q1 (Z : State) (a0 : Addr) (p1 : Int32) (p2 : Int32) (h0 : Heap) (n0 : Nat) (v : Option Value) (h : Heap) (L : List Loc) : Prop := v = none ∧ Fr n0 L ∧ Keep h0 h [a0] ∧ (Exa Z h a0 "archetest/model/Multiplicity") ∧ (Fld Z h a0 "archetest/model/Multiplicity" "lower" "I" (.int p1)) ∧ (Fld Z h a0 "archetest/model/Multiplicity" "upper" "I" (.int p2))
set_option maxRecDepth 65536 in
set_option maxHeartbeats 40000000 in
theorem own_rm1 (l : Launch) (Z : State) (av : Array Value) (hw : ∀ d ∈ tables_1, d.before av Z = true) (ws : List Jvm.Cond) (a0 : Addr) (p1 : Int32) (p2 : Int32) (h0 : Heap) (n0 : Nat) (Z0 : n0 ≤ h0.size) (pr0 : Exa Z h0 a0 "archetest/model/Multiplicity") (pr1 : Fld Z h0 a0 "archetest/model/Multiplicity" "lower" "I" (.int (0 : Int32))) (pr2 : Fld Z h0 a0 "archetest/model/Multiplicity" "upper" "I" (.int (0 : Int32))) (g_a0 : n0 ≤ a0) (hy1 : ¬ (p1 < (0 : Int32))) (hy2 : p2 = (-1 : Int32) ∨ ¬ (p2 < p1)) :
    MetFree l (⟨"archetest/model/Multiplicity", "<init>", "(II)V"⟩ : MethodName) (head1 (Jvm.Cond.code (⟨"archetest/model/Multiplicity", "<init>", "(II)V"⟩ : MethodName) prog_65_method_1_code 3 none :: ws) ({ frames := 2, cells := 0, slots := 0, locals := 24 } : Room)) (fun a U => a = #[(.ref a0), (.int p1), (.int p2)] ∧ Z.Warmed39 U.vm ∧ U.heap = h0) (fun _ _ _ _ _ => True) (fun _ U o U' => ∃ v L, o = .returned v ∧ own_Q1 Z a0 p1 p2 h0 n0 v U'.heap L ∧ FrameEnd U o U' L ({ frames := 2, cells := 0, slots := 0, locals := 24 } : Room).cells ({ frames := 2, cells := 0, slots := 0, locals := 24 } : Room).slots) := by
  refine MetFree.of_bodySF (plainFor_of_name own_pn21) hisR ?_
  intro p e s m args below meth c s₁ Bd hml0 hP hK
  obtain ⟨rfl, hZ, hh⟩ := hP
  have hx := Bd.exec
  have hby := Bd.bytes
  have hml : c.maxLocals = 3 := hml0
  have hown : s.vm.findClass "archetest/model/Multiplicity" = some m.cls := findClass_of_methodNamed Bd.named
  have hnm := (name_of_methodNamed Bd.named Bd.method).1
  have X0 : Stand p l e ({ frames := 2, cells := 0, slots := 0, locals := 24 } : Room) s m #[(.ref a0), (.int p1), (.int p2)] below meth c s₁ [] 0 0 := Stand.of_body Bd
  have e0 : s₁.heap = h0 := by rw [← hh, Bd.state]; rfl
  have N0 := Fr.nil n0
  have pre0 : ∀ t, Steps p.tables e below (s₁.setTop (mkF m 0 #[.val (.ref a0), .val (.int p1), .val (.int p2)] [])) t → Steps p.tables e below (s₁.setTop (entryFrame m #[(.ref a0), (.int p1), (.int p2)] 3)) t := fun t k => castTop (own_ef1 m a0 p1 p2) k
  obtain ⟨_, _, ⟨T2, L2, k2, n2⟩, -, X2, ⟨Lc2, hQ2, l2, y2, z2⟩, st2⟩ := X0.specialBack hx (y := (⟨"java/lang/Record", "<init>", "()V"⟩ : MethodName)) rfl hown (mvT hZ (hw _ (List.mem_of_getElem? (i := 7) rfl))) (mvT hZ (hw _ (List.mem_of_getElem? (i := 8) rfl))) (mvT hZ (hw _ (List.mem_of_getElem? (i := 11) rfl))) (by decide) (backOf (W := 0) (own_rm2 l Z av hw [] a0 h0 n0 Z0 ) hZ (hw _ (List.mem_of_getElem? (i := 11) rfl)) (hw _ (List.mem_of_getElem? (i := 10) rfl)) (by decide) (by decide)) (g := (mkF m 1 #[.val (.ref a0), .val (.int p1), .val (.int p2)] [(.ref a0)])) rfl (by rw [hml]; rfl) (Steps.refl _) (a := a0) (argsL := []) (rest := []) (lenOf own_pd0 rfl) rfl (by show 2 * 0 + _ ≤ _; exact Nat.le_of_eq rfl) (hb hby own_d1_1) (fun _ _ => ⟨rfl, e0, (by decide : 0 + 0 ≤ _), (by decide : 0 + 0 ≤ _)⟩)
  dsimp only [Pt.U, Pt.locs, Pt.cells, Pt.slots] at X2 l2 y2 z2 st2 hQ2
  subst l2 y2 z2
  obtain ⟨rfl, N2q, e4⟩ := hQ2
  have N3 := Fr.app N0 N2q
  have pre5 : ∀ t, Steps p.tables e below (T2.setTop (mkF m 10 #[.val (.ref a0), .val (.int p1), .val (.int p2)] [(.int (-1 : Int32)), (.int p2)])) t → Steps p.tables e below (s₁.setTop (entryFrame m #[(.ref a0), (.int p1), (.int p2)] 3)) t := fun t kk => pre0 t (by
    show Steps p.tables e below (s₁.setTop (mkF m 0 #[.val (.ref a0), .val (.int p1), .val (.int p2)] [])) _
    refine XS.aloadN X0.here hx rfl (hb hby own_d1_0) rfl rfl ?_
    show Steps p.tables e below (s₁.setTop (mkF m 1 #[.val (.ref a0), .val (.int p1), .val (.int p2)] [(.ref a0)])) _
    refine st2.trans ?_
    show Steps p.tables e below (T2.setTop (mkF m 4 #[.val (.ref a0), .val (.int p1), .val (.int p2)] [])) _
    refine XS.iloadN X2.here hx rfl (hb hby own_d1_4) rfl ?_
    show Steps p.tables e below (T2.setTop (mkF m 5 #[.val (.ref a0), .val (.int p1), .val (.int p2)] [(.int p1)])) _
    refine XS.ifNo X2.here hx rfl (hb hby own_d1_5) rfl ((if0 _ _).trans (flt (hy1 : ¬ (p1 < (0 : Int32)))).1) ?_
    show Steps p.tables e below (T2.setTop (mkF m 8 #[.val (.ref a0), .val (.int p1), .val (.int p2)] [])) _
    refine XS.iloadN X2.here hx rfl (hb hby own_d1_8) rfl ?_
    show Steps p.tables e below (T2.setTop (mkF m 9 #[.val (.ref a0), .val (.int p1), .val (.int p2)] [(.int p2)])) _
    refine XS.iconst X2.here hx rfl (hb hby own_d1_9) ?_
    show Steps p.tables e below (T2.setTop (mkF m 10 #[.val (.ref a0), .val (.int p1), .val (.int p2)] [(.int (-1 : Int32)), (.int p2)])) _
    exact kk)
  by_cases hc6 : p2 = (-1 : Int32)
  · obtain ⟨T7, h7, X7, e7, W7, st7⟩ := putF X2 hx hZ hown (host := "") (Or.inl (hw _ (List.mem_of_getElem? (i := 15) rfl))) Via.refl e4 pr1 pr0 (Or.inr ⟨(hw _ (List.mem_of_getElem? (i := 16) rfl)), rfl, hnm⟩) (hw _ (List.mem_of_getElem? (i := 2) rfl)) (ty := .int) (by decide) rfl rfl (g := (mkF m 51 #[.val (.ref a0), .val (.int p1), .val (.int p2)] [(.int p1), (.ref a0)])) rfl rfl (hb hby own_d1_51)
    have f8 := pr0.wr W7
    have f9 := pr2.other W7 (Or.inr (slot_ne (Or.inr (hw _ (List.mem_of_getElem? (i := 18) rfl))) (Or.inr (hw _ (List.mem_of_getElem? (i := 16) rfl))) (by decide) (t := .int) (t' := .int) (by decide) (by decide)))
    have K10 : Keep h0 h7 [a0] := (Keep.refl h0 [a0]).wr W7 (Or.inl (List.mem_of_getElem? (i := 0) rfl))
    have z11 : n0 ≤ h7.size := Nat.le_trans Z0 (Keep.of_wr W7).1
    have N12 := Fr.snoc X7 N3 g_a0
    have f13 : Fld Z h7 a0 "archetest/model/Multiplicity" "lower" "I" (.int p1) := pr1.same W7
    obtain ⟨T14, h14, X14, e14, W14, st14⟩ := putF X7 hx hZ hown (host := "") (Or.inl (hw _ (List.mem_of_getElem? (i := 17) rfl))) Via.refl e7 f9 f8 (Or.inr ⟨(hw _ (List.mem_of_getElem? (i := 18) rfl)), rfl, hnm⟩) (hw _ (List.mem_of_getElem? (i := 2) rfl)) (ty := .int) (by decide) rfl rfl (g := (mkF m 56 #[.val (.ref a0), .val (.int p1), .val (.int p2)] [(.int p2), (.ref a0)])) rfl rfl (hb hby own_d1_56)
    have f15 := f8.wr W14
    have f16 := f13.other W14 (Or.inr (slot_ne (Or.inr (hw _ (List.mem_of_getElem? (i := 16) rfl))) (Or.inr (hw _ (List.mem_of_getElem? (i := 18) rfl))) (by decide) (t := .int) (t' := .int) (by decide) (by decide)))
    have K17 : Keep h0 h14 [a0] := K10.wr W14 (Or.inl (List.mem_of_getElem? (i := 0) rfl))
    have z18 : n0 ≤ h14.size := Nat.le_trans z11 (Keep.of_wr W14).1
    have N19 := Fr.snoc X14 N12 g_a0
    have f20 : Fld Z h14 a0 "archetest/model/Multiplicity" "upper" "I" (.int p2) := f9.same W14
    obtain ⟨fs, hr, hrun, hended, hW, hsame⟩ := X14.leave (v := none) (fun _ => rfl)
    refine ⟨_, _, pre5 _ ?_, hrun, hended, _, _, rfl, ?_, ⟨_, rfl⟩, hW, hsame.mono (by decide) (by decide)⟩
    · show Steps p.tables e below (T2.setTop (mkF m 10 #[.val (.ref a0), .val (.int p1), .val (.int p2)] [(.int (-1 : Int32)), (.int p2)])) _
      refine XS.icmpYes X2.here hx rfl (pc0 := 10) (pc' := 49) rfl (hb hby own_d1_10) rfl (teq hc6).1 (by decide) (by decide) ?_
      show Steps p.tables e below (T2.setTop (mkF m 49 #[.val (.ref a0), .val (.int p1), .val (.int p2)] [])) _
      refine XS.aloadN X2.here hx rfl (hb hby own_d1_49) rfl rfl ?_
      show Steps p.tables e below (T2.setTop (mkF m 50 #[.val (.ref a0), .val (.int p1), .val (.int p2)] [(.ref a0)])) _
      refine XS.iloadN X2.here hx rfl (hb hby own_d1_50) rfl ?_
      show Steps p.tables e below (T2.setTop (mkF m 51 #[.val (.ref a0), .val (.int p1), .val (.int p2)] [(.int p1), (.ref a0)])) _
      refine st7 _ ?_
      show Steps p.tables e below (T7.setTop (mkF m 54 #[.val (.ref a0), .val (.int p1), .val (.int p2)] [])) _
      refine XS.aloadN X7.here hx rfl (hb hby own_d1_54) rfl rfl ?_
      show Steps p.tables e below (T7.setTop (mkF m 55 #[.val (.ref a0), .val (.int p1), .val (.int p2)] [(.ref a0)])) _
      refine XS.iloadN X7.here hx rfl (hb hby own_d1_55) rfl ?_
      show Steps p.tables e below (T7.setTop (mkF m 56 #[.val (.ref a0), .val (.int p1), .val (.int p2)] [(.int p2), (.ref a0)])) _
      refine st14 _ ?_
      show Steps p.tables e below (T14.setTop (mkF m 59 #[.val (.ref a0), .val (.int p1), .val (.int p2)] [])) _
      exact X14.returnOut hx Bd.returns (hb hby own_d1_59) hr
    · show own_Q1 Z a0 p1 p2 h0 n0 _ T14.heap _
      rw [e14]
      exact ⟨rfl, N19, K17, f15, f16, f20⟩
  · obtain ⟨T21, h21, X21, e21, W21, st21⟩ := putF X2 hx hZ hown (host := "") (Or.inl (hw _ (List.mem_of_getElem? (i := 15) rfl))) Via.refl e4 pr1 pr0 (Or.inr ⟨(hw _ (List.mem_of_getElem? (i := 16) rfl)), rfl, hnm⟩) (hw _ (List.mem_of_getElem? (i := 2) rfl)) (ty := .int) (by decide) rfl rfl (g := (mkF m 51 #[.val (.ref a0), .val (.int p1), .val (.int p2)] [(.int p1), (.ref a0)])) rfl rfl (hb hby own_d1_51)
    have f22 := pr0.wr W21
    have f23 := pr2.other W21 (Or.inr (slot_ne (Or.inr (hw _ (List.mem_of_getElem? (i := 18) rfl))) (Or.inr (hw _ (List.mem_of_getElem? (i := 16) rfl))) (by decide) (t := .int) (t' := .int) (by decide) (by decide)))
    have K24 : Keep h0 h21 [a0] := (Keep.refl h0 [a0]).wr W21 (Or.inl (List.mem_of_getElem? (i := 0) rfl))
    have z25 : n0 ≤ h21.size := Nat.le_trans Z0 (Keep.of_wr W21).1
    have N26 := Fr.snoc X21 N3 g_a0
    have f27 : Fld Z h21 a0 "archetest/model/Multiplicity" "lower" "I" (.int p1) := pr1.same W21
    obtain ⟨T28, h28, X28, e28, W28, st28⟩ := putF X21 hx hZ hown (host := "") (Or.inl (hw _ (List.mem_of_getElem? (i := 17) rfl))) Via.refl e21 f23 f22 (Or.inr ⟨(hw _ (List.mem_of_getElem? (i := 18) rfl)), rfl, hnm⟩) (hw _ (List.mem_of_getElem? (i := 2) rfl)) (ty := .int) (by decide) rfl rfl (g := (mkF m 56 #[.val (.ref a0), .val (.int p1), .val (.int p2)] [(.int p2), (.ref a0)])) rfl rfl (hb hby own_d1_56)
    have f29 := f22.wr W28
    have f30 := f27.other W28 (Or.inr (slot_ne (Or.inr (hw _ (List.mem_of_getElem? (i := 16) rfl))) (Or.inr (hw _ (List.mem_of_getElem? (i := 18) rfl))) (by decide) (t := .int) (t' := .int) (by decide) (by decide)))
    have K31 : Keep h0 h28 [a0] := K24.wr W28 (Or.inl (List.mem_of_getElem? (i := 0) rfl))
    have z32 : n0 ≤ h28.size := Nat.le_trans z25 (Keep.of_wr W28).1
    have N33 := Fr.snoc X28 N26 g_a0
    have f34 : Fld Z h28 a0 "archetest/model/Multiplicity" "upper" "I" (.int p2) := f23.same W28
    obtain ⟨fs, hr, hrun, hended, hW, hsame⟩ := X28.leave (v := none) (fun _ => rfl)
    refine ⟨_, _, pre5 _ ?_, hrun, hended, _, _, rfl, ?_, ⟨_, rfl⟩, hW, hsame.mono (by decide) (by decide)⟩
    · show Steps p.tables e below (T2.setTop (mkF m 10 #[.val (.ref a0), .val (.int p1), .val (.int p2)] [(.int (-1 : Int32)), (.int p2)])) _
      refine XS.icmpNo X2.here hx rfl (hb hby own_d1_10) rfl (feq hc6).1 ?_
      show Steps p.tables e below (T2.setTop (mkF m 13 #[.val (.ref a0), .val (.int p1), .val (.int p2)] [])) _
      refine XS.iloadN X2.here hx rfl (hb hby own_d1_13) rfl ?_
      show Steps p.tables e below (T2.setTop (mkF m 14 #[.val (.ref a0), .val (.int p1), .val (.int p2)] [(.int p2)])) _
      refine XS.iloadN X2.here hx rfl (hb hby own_d1_14) rfl ?_
      show Steps p.tables e below (T2.setTop (mkF m 15 #[.val (.ref a0), .val (.int p1), .val (.int p2)] [(.int p1), (.int p2)])) _
      refine XS.icmpYes X2.here hx rfl (pc0 := 15) (pc' := 49) rfl (hb hby own_d1_15) rfl (flt (hy2.resolve_left hc6 : ¬ (p2 < p1))).2.1 (by decide) (by decide) ?_
      show Steps p.tables e below (T2.setTop (mkF m 49 #[.val (.ref a0), .val (.int p1), .val (.int p2)] [])) _
      refine XS.aloadN X2.here hx rfl (hb hby own_d1_49) rfl rfl ?_
      show Steps p.tables e below (T2.setTop (mkF m 50 #[.val (.ref a0), .val (.int p1), .val (.int p2)] [(.ref a0)])) _
      refine XS.iloadN X2.here hx rfl (hb hby own_d1_50) rfl ?_
      show Steps p.tables e below (T2.setTop (mkF m 51 #[.val (.ref a0), .val (.int p1), .val (.int p2)] [(.int p1), (.ref a0)])) _
      refine st21 _ ?_
      show Steps p.tables e below (T21.setTop (mkF m 54 #[.val (.ref a0), .val (.int p1), .val (.int p2)] [])) _
      refine XS.aloadN X21.here hx rfl (hb hby own_d1_54) rfl rfl ?_
      show Steps p.tables e below (T21.setTop (mkF m 55 #[.val (.ref a0), .val (.int p1), .val (.int p2)] [(.ref a0)])) _
      refine XS.iloadN X21.here hx rfl (hb hby own_d1_55) rfl ?_
      show Steps p.tables e below (T21.setTop (mkF m 56 #[.val (.ref a0), .val (.int p1), .val (.int p2)] [(.int p2), (.ref a0)])) _
      refine st28 _ ?_
      show Steps p.tables e below (T28.setTop (mkF m 59 #[.val (.ref a0), .val (.int p1), .val (.int p2)] [])) _
      exact X28.returnOut hx Bd.returns (hb hby own_d1_59) hr
    · show own_Q1 Z a0 p1 p2 h0 n0 _ T28.heap _
      rw [e28]
      exact ⟨rfl, N33, K31, f29, f30, f34⟩
theorem own_d4_0 : decode jdk_29_method_69_code 0 = .ok (.iload_n 0, 1) := by decide +kernel
theorem own_d4_1 : decode jdk_29_method_69_code 1 = .ok (.iload_n 1, 1) := by decide +kernel
theorem own_d4_2 : decode jdk_29_method_69_code 2 = .ok (.if_icmp .gt 7, 3) := by decide +kernel
theorem own_d4_9 : decode jdk_29_method_69_code 9 = .ok (.iload_n 1, 1) := by decide +kernel
theorem own_d4_10 : decode jdk_29_method_69_code 10 = .ok (.ireturn, 1) := by decide +kernel
theorem own_d4_5 : decode jdk_29_method_69_code 5 = .ok (.iload_n 0, 1) := by decide +kernel
theorem own_d4_6 : decode jdk_29_method_69_code 6 = .ok (.goto 4, 3) := by decide +kernel
def own_f4 (p0 : Int32) (p1 : Int32) : Int32 := if p1 < p0 then p1 else p0
theorem own_ef4 (m : MethodId) (p0 : Int32) (p1 : Int32) : entryFrame m #[(.int p0), (.int p1)] 2 = mkF m 0 #[.val (.int p0), .val (.int p1)] [] := by first | (simp [entryFrame, mkF, argsToLocals, Value.category]; done) | rfl
def own_Q4 (Z : State) (p0 : Int32) (p1 : Int32) (h0 : Heap) (n0 : Nat) (v : Option Value) (h : Heap) (L : List Loc) : Prop := v = some (.int (own_f4 p0 p1)) ∧ Fr n0 L ∧ h = h0
set_option maxRecDepth 65536 in
set_option maxHeartbeats 40000000 in
theorem own_rm4 (l : Launch) (Z : State) (av : Array Value) (hw : ∀ d ∈ tables_1, d.before av Z = true) (ws : List Jvm.Cond) (p0 : Int32) (p1 : Int32) (h0 : Heap) (n0 : Nat) (Z0 : n0 ≤ h0.size) :
    MetFree l (⟨"java/lang/Math", "min", "(II)I"⟩ : MethodName) (head1 (Jvm.Cond.code (⟨"java/lang/Math", "min", "(II)I"⟩ : MethodName) jdk_29_method_69_code 2 (some .int) :: ws) ({ frames := 0, cells := 0, slots := 0, locals := 0 } : Room)) (fun a U => a = #[(.int p0), (.int p1)] ∧ Z.Warmed39 U.vm ∧ U.heap = h0) (fun _ _ _ _ _ => True) (fun _ U o U' => ∃ v L, o = .returned v ∧ own_Q4 Z p0 p1 h0 n0 v U'.heap L ∧ FrameEnd U o U' L ({ frames := 0, cells := 0, slots := 0, locals := 0 } : Room).cells ({ frames := 0, cells := 0, slots := 0, locals := 0 } : Room).slots) := by
  refine MetFree.of_bodySF (Jvm.Free.JP.mathPlain rfl (by decide +kernel)) hisR ?_
  intro p e s m args below meth c s₁ Bd hml0 hP hK
  obtain ⟨rfl, hZ, hh⟩ := hP
  have hx := Bd.exec
  have hby := Bd.bytes
  have hml : c.maxLocals = 2 := hml0
  have hown : s.vm.findClass "java/lang/Math" = some m.cls := findClass_of_methodNamed Bd.named
  have hnm := (name_of_methodNamed Bd.named Bd.method).1
  have X0 : Stand p l e ({ frames := 0, cells := 0, slots := 0, locals := 0 } : Room) s m #[(.int p0), (.int p1)] below meth c s₁ [] 0 0 := Stand.of_body Bd
  have e0 : s₁.heap = h0 := by rw [← hh, Bd.state]; rfl
  have N0 := Fr.nil n0
  have pre0 : ∀ t, Steps p.tables e below (s₁.setTop (mkF m 0 #[.val (.int p0), .val (.int p1)] [])) t → Steps p.tables e below (s₁.setTop (entryFrame m #[(.int p0), (.int p1)] 2)) t := fun t k => castTop (own_ef4 m p0 p1) k
  have pre35 : ∀ t, Steps p.tables e below (s₁.setTop (mkF m 2 #[.val (.int p0), .val (.int p1)] [(.int p1), (.int p0)])) t → Steps p.tables e below (s₁.setTop (entryFrame m #[(.int p0), (.int p1)] 2)) t := fun t kk => pre0 t (by
    show Steps p.tables e below (s₁.setTop (mkF m 0 #[.val (.int p0), .val (.int p1)] [])) _
    refine XS.iloadN X0.here hx rfl (hb hby own_d4_0) rfl ?_
    show Steps p.tables e below (s₁.setTop (mkF m 1 #[.val (.int p0), .val (.int p1)] [(.int p0)])) _
    refine XS.iloadN X0.here hx rfl (hb hby own_d4_1) rfl ?_
    show Steps p.tables e below (s₁.setTop (mkF m 2 #[.val (.int p0), .val (.int p1)] [(.int p1), (.int p0)])) _
    exact kk)
  by_cases hc36 : p1 < p0
  · obtain ⟨fs, hr, hrun, hended, hW, hsame⟩ := X0.leave (v := some (.int p1)) (fun h => by rw [Bd.returns] at h; cases h)
    refine ⟨_, _, pre35 _ ?_, hrun, hended, _, _, rfl, ?_, ⟨_, rfl⟩, hW, hsame.mono (by decide) (by decide)⟩
    · show Steps p.tables e below (s₁.setTop (mkF m 2 #[.val (.int p0), .val (.int p1)] [(.int p1), (.int p0)])) _
      refine XS.icmpYes X0.here hx rfl (pc0 := 2) (pc' := 9) rfl (hb hby own_d4_2) rfl (tlt hc36).2.2.1 (by decide) (by decide) ?_
      show Steps p.tables e below (s₁.setTop (mkF m 9 #[.val (.int p0), .val (.int p1)] [])) _
      refine XS.iloadN X0.here hx rfl (hb hby own_d4_9) rfl ?_
      show Steps p.tables e below (s₁.setTop (mkF m 10 #[.val (.int p0), .val (.int p1)] [(.int p1)])) _
      exact retI X0 hx Bd.returns (hb hby own_d4_10) hr
    · show own_Q4 Z p0 p1 h0 n0 _ s₁.heap _
      rw [e0]
      have hv : own_f4 p0 p1 = p1 := by unfold own_f4; rw [if_pos hc36]
      exact ⟨by rw [hv], N0, rfl⟩
  · obtain ⟨fs, hr, hrun, hended, hW, hsame⟩ := X0.leave (v := some (.int p0)) (fun h => by rw [Bd.returns] at h; cases h)
    refine ⟨_, _, pre35 _ ?_, hrun, hended, _, _, rfl, ?_, ⟨_, rfl⟩, hW, hsame.mono (by decide) (by decide)⟩
    · show Steps p.tables e below (s₁.setTop (mkF m 2 #[.val (.int p0), .val (.int p1)] [(.int p1), (.int p0)])) _
      refine XS.icmpNo X0.here hx rfl (hb hby own_d4_2) rfl (flt hc36).2.2.1 ?_
      show Steps p.tables e below (s₁.setTop (mkF m 5 #[.val (.int p0), .val (.int p1)] [])) _
      refine XS.iloadN X0.here hx rfl (hb hby own_d4_5) rfl ?_
      show Steps p.tables e below (s₁.setTop (mkF m 6 #[.val (.int p0), .val (.int p1)] [(.int p0)])) _
      refine XS.goto X0.here hx rfl (pc0 := 6) (pc' := 10) rfl (hb hby own_d4_6) (by decide) (by decide) ?_
      show Steps p.tables e below (s₁.setTop (mkF m 10 #[.val (.int p0), .val (.int p1)] [(.int p0)])) _
      exact retI X0 hx Bd.returns (hb hby own_d4_10) hr
    · show own_Q4 Z p0 p1 h0 n0 _ s₁.heap _
      rw [e0]
      have hv : own_f4 p0 p1 = p0 := by unfold own_f4; rw [if_neg hc36]
      exact ⟨by rw [hv], N0, rfl⟩
theorem own_f4_cases (p0 : Int32) (p1 : Int32) : (p1 < p0 ∧ (own_f4 p0 p1 = p1)) ∨ (¬ (p1 < p0) ∧ (own_f4 p0 p1 = p0)) := by
  by_cases cs0 : p1 < p0
  · refine Or.inl ⟨cs0, ?_⟩
    unfold own_f4; rw [if_pos cs0]
  · refine Or.inr ⟨cs0, ?_⟩
    unfold own_f4; rw [if_neg cs0]
theorem own_d6_0 : decode jdk_29_method_65_code 0 = .ok (.iload_n 0, 1) := by decide +kernel
theorem own_d6_1 : decode jdk_29_method_65_code 1 = .ok (.iload_n 1, 1) := by decide +kernel
theorem own_d6_2 : decode jdk_29_method_65_code 2 = .ok (.if_icmp .lt 7, 3) := by decide +kernel
theorem own_d6_9 : decode jdk_29_method_65_code 9 = .ok (.iload_n 1, 1) := by decide +kernel
theorem own_d6_10 : decode jdk_29_method_65_code 10 = .ok (.ireturn, 1) := by decide +kernel
theorem own_d6_5 : decode jdk_29_method_65_code 5 = .ok (.iload_n 0, 1) := by decide +kernel
theorem own_d6_6 : decode jdk_29_method_65_code 6 = .ok (.goto 4, 3) := by decide +kernel
def own_f6 (p0 : Int32) (p1 : Int32) : Int32 := if p0 < p1 then p1 else p0
theorem own_ef6 (m : MethodId) (p0 : Int32) (p1 : Int32) : entryFrame m #[(.int p0), (.int p1)] 2 = mkF m 0 #[.val (.int p0), .val (.int p1)] [] := by first | (simp [entryFrame, mkF, argsToLocals, Value.category]; done) | rfl
def own_Q6 (Z : State) (p0 : Int32) (p1 : Int32) (h0 : Heap) (n0 : Nat) (v : Option Value) (h : Heap) (L : List Loc) : Prop := v = some (.int (own_f6 p0 p1)) ∧ Fr n0 L ∧ h = h0
set_option maxRecDepth 65536 in
set_option maxHeartbeats 40000000 in
theorem own_rm6 (l : Launch) (Z : State) (av : Array Value) (hw : ∀ d ∈ tables_1, d.before av Z = true) (ws : List Jvm.Cond) (p0 : Int32) (p1 : Int32) (h0 : Heap) (n0 : Nat) (Z0 : n0 ≤ h0.size) :
    MetFree l (⟨"java/lang/Math", "max", "(II)I"⟩ : MethodName) (head1 (Jvm.Cond.code (⟨"java/lang/Math", "max", "(II)I"⟩ : MethodName) jdk_29_method_65_code 2 (some .int) :: ws) ({ frames := 0, cells := 0, slots := 0, locals := 0 } : Room)) (fun a U => a = #[(.int p0), (.int p1)] ∧ Z.Warmed39 U.vm ∧ U.heap = h0) (fun _ _ _ _ _ => True) (fun _ U o U' => ∃ v L, o = .returned v ∧ own_Q6 Z p0 p1 h0 n0 v U'.heap L ∧ FrameEnd U o U' L ({ frames := 0, cells := 0, slots := 0, locals := 0 } : Room).cells ({ frames := 0, cells := 0, slots := 0, locals := 0 } : Room).slots) := by
  refine MetFree.of_bodySF (Jvm.Free.JP.mathPlain rfl (by decide +kernel)) hisR ?_
  intro p e s m args below meth c s₁ Bd hml0 hP hK
  obtain ⟨rfl, hZ, hh⟩ := hP
  have hx := Bd.exec
  have hby := Bd.bytes
  have hml : c.maxLocals = 2 := hml0
  have hown : s.vm.findClass "java/lang/Math" = some m.cls := findClass_of_methodNamed Bd.named
  have hnm := (name_of_methodNamed Bd.named Bd.method).1
  have X0 : Stand p l e ({ frames := 0, cells := 0, slots := 0, locals := 0 } : Room) s m #[(.int p0), (.int p1)] below meth c s₁ [] 0 0 := Stand.of_body Bd
  have e0 : s₁.heap = h0 := by rw [← hh, Bd.state]; rfl
  have N0 := Fr.nil n0
  have pre0 : ∀ t, Steps p.tables e below (s₁.setTop (mkF m 0 #[.val (.int p0), .val (.int p1)] [])) t → Steps p.tables e below (s₁.setTop (entryFrame m #[(.int p0), (.int p1)] 2)) t := fun t k => castTop (own_ef6 m p0 p1) k
  have pre37 : ∀ t, Steps p.tables e below (s₁.setTop (mkF m 2 #[.val (.int p0), .val (.int p1)] [(.int p1), (.int p0)])) t → Steps p.tables e below (s₁.setTop (entryFrame m #[(.int p0), (.int p1)] 2)) t := fun t kk => pre0 t (by
    show Steps p.tables e below (s₁.setTop (mkF m 0 #[.val (.int p0), .val (.int p1)] [])) _
    refine XS.iloadN X0.here hx rfl (hb hby own_d6_0) rfl ?_
    show Steps p.tables e below (s₁.setTop (mkF m 1 #[.val (.int p0), .val (.int p1)] [(.int p0)])) _
    refine XS.iloadN X0.here hx rfl (hb hby own_d6_1) rfl ?_
    show Steps p.tables e below (s₁.setTop (mkF m 2 #[.val (.int p0), .val (.int p1)] [(.int p1), (.int p0)])) _
    exact kk)
  by_cases hc38 : p0 < p1
  · obtain ⟨fs, hr, hrun, hended, hW, hsame⟩ := X0.leave (v := some (.int p1)) (fun h => by rw [Bd.returns] at h; cases h)
    refine ⟨_, _, pre37 _ ?_, hrun, hended, _, _, rfl, ?_, ⟨_, rfl⟩, hW, hsame.mono (by decide) (by decide)⟩
    · show Steps p.tables e below (s₁.setTop (mkF m 2 #[.val (.int p0), .val (.int p1)] [(.int p1), (.int p0)])) _
      refine XS.icmpYes X0.here hx rfl (pc0 := 2) (pc' := 9) rfl (hb hby own_d6_2) rfl (tlt hc38).1 (by decide) (by decide) ?_
      show Steps p.tables e below (s₁.setTop (mkF m 9 #[.val (.int p0), .val (.int p1)] [])) _
      refine XS.iloadN X0.here hx rfl (hb hby own_d6_9) rfl ?_
      show Steps p.tables e below (s₁.setTop (mkF m 10 #[.val (.int p0), .val (.int p1)] [(.int p1)])) _
      exact retI X0 hx Bd.returns (hb hby own_d6_10) hr
    · show own_Q6 Z p0 p1 h0 n0 _ s₁.heap _
      rw [e0]
      have hv : own_f6 p0 p1 = p1 := by unfold own_f6; rw [if_pos hc38]
      exact ⟨by rw [hv], N0, rfl⟩
  · obtain ⟨fs, hr, hrun, hended, hW, hsame⟩ := X0.leave (v := some (.int p0)) (fun h => by rw [Bd.returns] at h; cases h)
    refine ⟨_, _, pre37 _ ?_, hrun, hended, _, _, rfl, ?_, ⟨_, rfl⟩, hW, hsame.mono (by decide) (by decide)⟩
    · show Steps p.tables e below (s₁.setTop (mkF m 2 #[.val (.int p0), .val (.int p1)] [(.int p1), (.int p0)])) _
      refine XS.icmpNo X0.here hx rfl (hb hby own_d6_2) rfl (flt hc38).1 ?_
      show Steps p.tables e below (s₁.setTop (mkF m 5 #[.val (.int p0), .val (.int p1)] [])) _
      refine XS.iloadN X0.here hx rfl (hb hby own_d6_5) rfl ?_
      show Steps p.tables e below (s₁.setTop (mkF m 6 #[.val (.int p0), .val (.int p1)] [(.int p0)])) _
      refine XS.goto X0.here hx rfl (pc0 := 6) (pc' := 10) rfl (hb hby own_d6_6) (by decide) (by decide) ?_
      show Steps p.tables e below (s₁.setTop (mkF m 10 #[.val (.int p0), .val (.int p1)] [(.int p0)])) _
      exact retI X0 hx Bd.returns (hb hby own_d6_10) hr
    · show own_Q6 Z p0 p1 h0 n0 _ s₁.heap _
      rw [e0]
      have hv : own_f6 p0 p1 = p0 := by unfold own_f6; rw [if_neg hc38]
      exact ⟨by rw [hv], N0, rfl⟩
theorem own_f6_cases (p0 : Int32) (p1 : Int32) : (p0 < p1 ∧ (own_f6 p0 p1 = p1)) ∨ (¬ (p0 < p1) ∧ (own_f6 p0 p1 = p0)) := by
  by_cases cs0 : p0 < p1
  · refine Or.inl ⟨cs0, ?_⟩
    unfold own_f6; rw [if_pos cs0]
  · refine Or.inr ⟨cs0, ?_⟩
    unfold own_f6; rw [if_neg cs0]
theorem own_d5_0 : decode prog_65_method_2_code 0 = .ok (.iload_n 1, 1) := by decide +kernel
theorem own_d5_1 : decode prog_65_method_2_code 1 = .ok (.aload_n 0, 1) := by decide +kernel
theorem own_d5_2 : decode prog_65_method_2_code 2 = .ok (.getfield 31, 3) := by decide +kernel
theorem own_d5_5 : decode prog_65_method_2_code 5 = .ok (.if_icmp .lt 23, 3) := by decide +kernel
theorem own_d5_28 : decode prog_65_method_2_code 28 = .ok (.iconst 0, 1) := by decide +kernel
theorem own_d5_29 : decode prog_65_method_2_code 29 = .ok (.ireturn, 1) := by decide +kernel
theorem own_d5_8 : decode prog_65_method_2_code 8 = .ok (.aload_n 0, 1) := by decide +kernel
theorem own_d5_9 : decode prog_65_method_2_code 9 = .ok (.getfield 35, 3) := by decide +kernel
theorem own_d5_12 : decode prog_65_method_2_code 12 = .ok (.iconst (-1), 1) := by decide +kernel
theorem own_d5_13 : decode prog_65_method_2_code 13 = .ok (.if_icmp .eq 11, 3) := by decide +kernel
theorem own_d5_24 : decode prog_65_method_2_code 24 = .ok (.iconst 1, 1) := by decide +kernel
theorem own_d5_25 : decode prog_65_method_2_code 25 = .ok (.goto 4, 3) := by decide +kernel
theorem own_d5_16 : decode prog_65_method_2_code 16 = .ok (.iload_n 1, 1) := by decide +kernel
theorem own_d5_17 : decode prog_65_method_2_code 17 = .ok (.aload_n 0, 1) := by decide +kernel
theorem own_d5_18 : decode prog_65_method_2_code 18 = .ok (.getfield 35, 3) := by decide +kernel
theorem own_d5_21 : decode prog_65_method_2_code 21 = .ok (.if_icmp .gt 7, 3) := by decide +kernel
def own_f5 (lo : Int32) (up : Int32) (p1 : Int32) : Int32 := if p1 < lo then (0 : Int32) else if up = (-1 : Int32) then (1 : Int32) else if up < p1 then (0 : Int32) else (1 : Int32)
theorem own_ef5 (m : MethodId) (a0 : Addr) (p1 : Int32) : entryFrame m #[(.ref a0), (.int p1)] 2 = mkF m 0 #[.val (.ref a0), .val (.int p1)] [] := by first | (simp [entryFrame, mkF, argsToLocals, Value.category]; done) | rfl
def own_Q5 (Z : State) (a0 : Addr) (p1 : Int32) (lo : Int32) (up : Int32) (h0 : Heap) (n0 : Nat) (v : Option Value) (h : Heap) (L : List Loc) : Prop := v = some (.int (own_f5 lo up p1)) ∧ Fr n0 L ∧ h = h0
set_option maxRecDepth 65536 in
set_option maxHeartbeats 40000000 in
theorem own_rm5 (l : Launch) (Z : State) (av : Array Value) (hw : ∀ d ∈ tables_1, d.before av Z = true) (ws : List Jvm.Cond) (a0 : Addr) (p1 : Int32) (lo : Int32) (up : Int32) (h0 : Heap) (n0 : Nat) (Z0 : n0 ≤ h0.size) (pr0 : Fld Z h0 a0 "archetest/model/Multiplicity" "lower" "I" (.int lo)) (pr1 : Fld Z h0 a0 "archetest/model/Multiplicity" "upper" "I" (.int up)) :
    MetFree l (⟨"archetest/model/Multiplicity", "contains", "(I)Z"⟩ : MethodName) (head1 (Jvm.Cond.code (⟨"archetest/model/Multiplicity", "contains", "(I)Z"⟩ : MethodName) prog_65_method_2_code 2 (some .boolean) :: ws) ({ frames := 0, cells := 0, slots := 0, locals := 0 } : Room)) (fun a U => a = #[(.ref a0), (.int p1)] ∧ Z.Warmed39 U.vm ∧ U.heap = h0) (fun _ _ _ _ _ => True) (fun _ U o U' => ∃ v L, o = .returned v ∧ own_Q5 Z a0 p1 lo up h0 n0 v U'.heap L ∧ FrameEnd U o U' L ({ frames := 0, cells := 0, slots := 0, locals := 0 } : Room).cells ({ frames := 0, cells := 0, slots := 0, locals := 0 } : Room).slots) := by
  refine MetFree.of_bodySF (plainFor_of_name own_pn21) hisR ?_
  intro p e s m args below meth c s₁ Bd hml0 hP hK
  obtain ⟨rfl, hZ, hh⟩ := hP
  have hx := Bd.exec
  have hby := Bd.bytes
  have hml : c.maxLocals = 2 := hml0
  have hown : s.vm.findClass "archetest/model/Multiplicity" = some m.cls := findClass_of_methodNamed Bd.named
  have hnm := (name_of_methodNamed Bd.named Bd.method).1
  have X0 : Stand p l e ({ frames := 0, cells := 0, slots := 0, locals := 0 } : Room) s m #[(.ref a0), (.int p1)] below meth c s₁ [] 0 0 := Stand.of_body Bd
  have e0 : s₁.heap = h0 := by rw [← hh, Bd.state]; rfl
  have N0 := Fr.nil n0
  have pre0 : ∀ t, Steps p.tables e below (s₁.setTop (mkF m 0 #[.val (.ref a0), .val (.int p1)] [])) t → Steps p.tables e below (s₁.setTop (entryFrame m #[(.ref a0), (.int p1)] 2)) t := fun t k => castTop (own_ef5 m a0 p1) k
  obtain ⟨T39, X39, e39, st39⟩ := getF X0 hx hZ hown (host := "") (Or.inl (hw _ (List.mem_of_getElem? (i := 15) rfl))) Via.refl e0 pr0 (g := (mkF m 2 #[.val (.ref a0), .val (.int p1)] [(.ref a0), (.int p1)])) rfl rfl (hb hby own_d5_2)
  have pre40 : ∀ t, Steps p.tables e below (T39.setTop (mkF m 5 #[.val (.ref a0), .val (.int p1)] [(.int lo), (.int p1)])) t → Steps p.tables e below (s₁.setTop (entryFrame m #[(.ref a0), (.int p1)] 2)) t := fun t kk => pre0 t (by
    show Steps p.tables e below (s₁.setTop (mkF m 0 #[.val (.ref a0), .val (.int p1)] [])) _
    refine XS.iloadN X0.here hx rfl (hb hby own_d5_0) rfl ?_
    show Steps p.tables e below (s₁.setTop (mkF m 1 #[.val (.ref a0), .val (.int p1)] [(.int p1)])) _
    refine XS.aloadN X0.here hx rfl (hb hby own_d5_1) rfl rfl ?_
    show Steps p.tables e below (s₁.setTop (mkF m 2 #[.val (.ref a0), .val (.int p1)] [(.ref a0), (.int p1)])) _
    refine st39 _ ?_
    show Steps p.tables e below (T39.setTop (mkF m 5 #[.val (.ref a0), .val (.int p1)] [(.int lo), (.int p1)])) _
    exact kk)
  by_cases hc41 : p1 < lo
  · obtain ⟨fs, hr, hrun, hended, hW, hsame⟩ := X39.leave (v := some (.int (0 : Int32))) (fun h => by rw [Bd.returns] at h; cases h)
    refine ⟨_, _, pre40 _ ?_, hrun, hended, _, _, rfl, ?_, ⟨_, rfl⟩, hW, hsame.mono (by decide) (by decide)⟩
    · show Steps p.tables e below (T39.setTop (mkF m 5 #[.val (.ref a0), .val (.int p1)] [(.int lo), (.int p1)])) _
      refine XS.icmpYes X39.here hx rfl (pc0 := 5) (pc' := 28) rfl (hb hby own_d5_5) rfl (tlt hc41).1 (by decide) (by decide) ?_
      show Steps p.tables e below (T39.setTop (mkF m 28 #[.val (.ref a0), .val (.int p1)] [])) _
      refine XS.iconst X39.here hx rfl (hb hby own_d5_28) ?_
      show Steps p.tables e below (T39.setTop (mkF m 29 #[.val (.ref a0), .val (.int p1)] [(.int (0 : Int32))])) _
      exact retN X39 hx (t := .boolean) Bd.returns (by simp) (hb hby own_d5_29) hr
    · show own_Q5 Z a0 p1 lo up h0 n0 _ T39.heap _
      rw [e39]
      have hv : own_f5 lo up p1 = (0 : Int32) := by unfold own_f5; rw [if_pos hc41]
      exact ⟨by rw [hv], N0, rfl⟩
  · obtain ⟨T42, X42, e42, st42⟩ := getF X39 hx hZ hown (host := "") (Or.inl (hw _ (List.mem_of_getElem? (i := 17) rfl))) Via.refl e39 pr1 (g := (mkF m 9 #[.val (.ref a0), .val (.int p1)] [(.ref a0)])) rfl rfl (hb hby own_d5_9)
    have pre43 : ∀ t, Steps p.tables e below (T42.setTop (mkF m 13 #[.val (.ref a0), .val (.int p1)] [(.int (-1 : Int32)), (.int up)])) t → Steps p.tables e below (s₁.setTop (entryFrame m #[(.ref a0), (.int p1)] 2)) t := fun t kk => pre40 t (by
      show Steps p.tables e below (T39.setTop (mkF m 5 #[.val (.ref a0), .val (.int p1)] [(.int lo), (.int p1)])) _
      refine XS.icmpNo X39.here hx rfl (hb hby own_d5_5) rfl (flt hc41).1 ?_
      show Steps p.tables e below (T39.setTop (mkF m 8 #[.val (.ref a0), .val (.int p1)] [])) _
      refine XS.aloadN X39.here hx rfl (hb hby own_d5_8) rfl rfl ?_
      show Steps p.tables e below (T39.setTop (mkF m 9 #[.val (.ref a0), .val (.int p1)] [(.ref a0)])) _
      refine st42 _ ?_
      show Steps p.tables e below (T42.setTop (mkF m 12 #[.val (.ref a0), .val (.int p1)] [(.int up)])) _
      refine XS.iconst X42.here hx rfl (hb hby own_d5_12) ?_
      show Steps p.tables e below (T42.setTop (mkF m 13 #[.val (.ref a0), .val (.int p1)] [(.int (-1 : Int32)), (.int up)])) _
      exact kk)
    by_cases hc44 : up = (-1 : Int32)
    · obtain ⟨fs, hr, hrun, hended, hW, hsame⟩ := X42.leave (v := some (.int (1 : Int32))) (fun h => by rw [Bd.returns] at h; cases h)
      refine ⟨_, _, pre43 _ ?_, hrun, hended, _, _, rfl, ?_, ⟨_, rfl⟩, hW, hsame.mono (by decide) (by decide)⟩
      · show Steps p.tables e below (T42.setTop (mkF m 13 #[.val (.ref a0), .val (.int p1)] [(.int (-1 : Int32)), (.int up)])) _
        refine XS.icmpYes X42.here hx rfl (pc0 := 13) (pc' := 24) rfl (hb hby own_d5_13) rfl (teq hc44).1 (by decide) (by decide) ?_
        show Steps p.tables e below (T42.setTop (mkF m 24 #[.val (.ref a0), .val (.int p1)] [])) _
        refine XS.iconst X42.here hx rfl (hb hby own_d5_24) ?_
        show Steps p.tables e below (T42.setTop (mkF m 25 #[.val (.ref a0), .val (.int p1)] [(.int (1 : Int32))])) _
        refine XS.goto X42.here hx rfl (pc0 := 25) (pc' := 29) rfl (hb hby own_d5_25) (by decide) (by decide) ?_
        show Steps p.tables e below (T42.setTop (mkF m 29 #[.val (.ref a0), .val (.int p1)] [(.int (1 : Int32))])) _
        exact retN X42 hx (t := .boolean) Bd.returns (by simp) (hb hby own_d5_29) hr
      · show own_Q5 Z a0 p1 lo up h0 n0 _ T42.heap _
        rw [e42]
        have hv : own_f5 lo up p1 = (1 : Int32) := by unfold own_f5; rw [if_neg hc41, if_pos hc44]
        exact ⟨by rw [hv], N0, rfl⟩
    · obtain ⟨T45, X45, e45, st45⟩ := getF X42 hx hZ hown (host := "") (Or.inl (hw _ (List.mem_of_getElem? (i := 17) rfl))) Via.refl e42 pr1 (g := (mkF m 18 #[.val (.ref a0), .val (.int p1)] [(.ref a0), (.int p1)])) rfl rfl (hb hby own_d5_18)
      have pre46 : ∀ t, Steps p.tables e below (T45.setTop (mkF m 21 #[.val (.ref a0), .val (.int p1)] [(.int up), (.int p1)])) t → Steps p.tables e below (s₁.setTop (entryFrame m #[(.ref a0), (.int p1)] 2)) t := fun t kk => pre43 t (by
        show Steps p.tables e below (T42.setTop (mkF m 13 #[.val (.ref a0), .val (.int p1)] [(.int (-1 : Int32)), (.int up)])) _
        refine XS.icmpNo X42.here hx rfl (hb hby own_d5_13) rfl (feq hc44).1 ?_
        show Steps p.tables e below (T42.setTop (mkF m 16 #[.val (.ref a0), .val (.int p1)] [])) _
        refine XS.iloadN X42.here hx rfl (hb hby own_d5_16) rfl ?_
        show Steps p.tables e below (T42.setTop (mkF m 17 #[.val (.ref a0), .val (.int p1)] [(.int p1)])) _
        refine XS.aloadN X42.here hx rfl (hb hby own_d5_17) rfl rfl ?_
        show Steps p.tables e below (T42.setTop (mkF m 18 #[.val (.ref a0), .val (.int p1)] [(.ref a0), (.int p1)])) _
        refine st45 _ ?_
        show Steps p.tables e below (T45.setTop (mkF m 21 #[.val (.ref a0), .val (.int p1)] [(.int up), (.int p1)])) _
        exact kk)
      by_cases hc47 : up < p1
      · obtain ⟨fs, hr, hrun, hended, hW, hsame⟩ := X45.leave (v := some (.int (0 : Int32))) (fun h => by rw [Bd.returns] at h; cases h)
        refine ⟨_, _, pre46 _ ?_, hrun, hended, _, _, rfl, ?_, ⟨_, rfl⟩, hW, hsame.mono (by decide) (by decide)⟩
        · show Steps p.tables e below (T45.setTop (mkF m 21 #[.val (.ref a0), .val (.int p1)] [(.int up), (.int p1)])) _
          refine XS.icmpYes X45.here hx rfl (pc0 := 21) (pc' := 28) rfl (hb hby own_d5_21) rfl (tlt hc47).2.2.1 (by decide) (by decide) ?_
          show Steps p.tables e below (T45.setTop (mkF m 28 #[.val (.ref a0), .val (.int p1)] [])) _
          refine XS.iconst X45.here hx rfl (hb hby own_d5_28) ?_
          show Steps p.tables e below (T45.setTop (mkF m 29 #[.val (.ref a0), .val (.int p1)] [(.int (0 : Int32))])) _
          exact retN X45 hx (t := .boolean) Bd.returns (by simp) (hb hby own_d5_29) hr
        · show own_Q5 Z a0 p1 lo up h0 n0 _ T45.heap _
          rw [e45]
          have hv : own_f5 lo up p1 = (0 : Int32) := by unfold own_f5; rw [if_neg hc41, if_neg hc44, if_pos hc47]
          exact ⟨by rw [hv], N0, rfl⟩
      · obtain ⟨fs, hr, hrun, hended, hW, hsame⟩ := X45.leave (v := some (.int (1 : Int32))) (fun h => by rw [Bd.returns] at h; cases h)
        refine ⟨_, _, pre46 _ ?_, hrun, hended, _, _, rfl, ?_, ⟨_, rfl⟩, hW, hsame.mono (by decide) (by decide)⟩
        · show Steps p.tables e below (T45.setTop (mkF m 21 #[.val (.ref a0), .val (.int p1)] [(.int up), (.int p1)])) _
          refine XS.icmpNo X45.here hx rfl (hb hby own_d5_21) rfl (flt hc47).2.2.1 ?_
          show Steps p.tables e below (T45.setTop (mkF m 24 #[.val (.ref a0), .val (.int p1)] [])) _
          refine XS.iconst X45.here hx rfl (hb hby own_d5_24) ?_
          show Steps p.tables e below (T45.setTop (mkF m 25 #[.val (.ref a0), .val (.int p1)] [(.int (1 : Int32))])) _
          refine XS.goto X45.here hx rfl (pc0 := 25) (pc' := 29) rfl (hb hby own_d5_25) (by decide) (by decide) ?_
          show Steps p.tables e below (T45.setTop (mkF m 29 #[.val (.ref a0), .val (.int p1)] [(.int (1 : Int32))])) _
          exact retN X45 hx (t := .boolean) Bd.returns (by simp) (hb hby own_d5_29) hr
        · show own_Q5 Z a0 p1 lo up h0 n0 _ T45.heap _
          rw [e45]
          have hv : own_f5 lo up p1 = (1 : Int32) := by unfold own_f5; rw [if_neg hc41, if_neg hc44, if_neg hc47]
          exact ⟨by rw [hv], N0, rfl⟩
theorem own_f5_cases (lo : Int32) (up : Int32) (p1 : Int32) : (p1 < lo ∧ (own_f5 lo up p1 = (0 : Int32))) ∨ (¬ (p1 < lo) ∧ ((up = (-1 : Int32) ∧ (own_f5 lo up p1 = (1 : Int32))) ∨ (¬ (up = (-1 : Int32)) ∧ ((up < p1 ∧ (own_f5 lo up p1 = (0 : Int32))) ∨ (¬ (up < p1) ∧ (own_f5 lo up p1 = (1 : Int32))))))) := by
  by_cases cs0 : p1 < lo
  · refine Or.inl ⟨cs0, ?_⟩
    unfold own_f5; rw [if_pos cs0]
  · refine Or.inr ⟨cs0, ?_⟩
    by_cases cs1 : up = (-1 : Int32)
    · refine Or.inl ⟨cs1, ?_⟩
      unfold own_f5; rw [if_neg cs0, if_pos cs1]
    · refine Or.inr ⟨cs1, ?_⟩
      by_cases cs2 : up < p1
      · refine Or.inl ⟨cs2, ?_⟩
        unfold own_f5; rw [if_neg cs0, if_neg cs1, if_pos cs2]
      · refine Or.inr ⟨cs2, ?_⟩
        unfold own_f5; rw [if_neg cs0, if_neg cs1, if_neg cs2]
theorem own_pd1 : parseMethodDescriptor "(II)V" = some ⟨[.int, .int], none⟩ := by decide +kernel
theorem own_pd2 : parseMethodDescriptor "(II)I" = some ⟨[.int, .int], some .int⟩ := by decide +kernel
theorem own_pd3 : parseMethodDescriptor "(I)Z" = some ⟨[.int], some .boolean⟩ := by decide +kernel
set_option maxRecDepth 65536 in
set_option maxHeartbeats 40000000 in
theorem own_side52 (p0 : Int32) (v48 : Int32) (hv48 : v48 = (p0 &&& (2147483647 : Int32))) (v51 : Int64) (hv51 : v51 = ((2147483647 : Int64) - (v48.toInt64))) : ¬ ((v51 + (1 : Int64)) = (0 : Int64)) := by
  have := c_mask p0 (2147483647 : Int32) 31 (by decide) (by decide)
  generalize (p0 &&& (2147483647 : Int32)) = ex1 at *
  have := Int32.le_toInt ex1; have := Int32.toInt_lt ex1
  have := c_i2l v48
  generalize (v48.toInt64) = ex2 at *
  have := Int64.le_toInt ex2; have := Int64.toInt_lt ex2
  have := c_lsub (2147483647 : Int64) ex2
  generalize ((2147483647 : Int64) - ex2) = ex3 at *
  have := Int64.le_toInt ex3; have := Int64.toInt_lt ex3
  have := c_ladd v51 (1 : Int64)
  generalize (v51 + (1 : Int64)) = ex4 at *
  have := Int64.le_toInt ex4; have := Int64.toInt_lt ex4
  have := Int32.le_toInt p0; have := Int32.toInt_lt p0
  have := Int32.le_toInt v48; have := Int32.toInt_lt v48
  have := Int64.le_toInt v51; have := Int64.toInt_lt v51
  simp only [Int32.lt_iff_toInt_lt, Int64.lt_iff_toInt_lt, ← Int32.toInt_inj, ← Int64.toInt_inj, Int32.reduceToInt, Int64.reduceToInt, not_true_eq_false, not_false_eq_true, false_and, and_false, true_and, and_true, false_or, or_false, true_or, or_true] at *
  all_goals omega
set_option maxRecDepth 65536 in
set_option maxHeartbeats 40000000 in
theorem own_side60 (p0 : Int32) (v48 : Int32) (hv48 : v48 = (p0 &&& (2147483647 : Int32))) : ¬ (v48 < (0 : Int32)) := by
  have := c_mask p0 (2147483647 : Int32) 31 (by decide) (by decide)
  generalize (p0 &&& (2147483647 : Int32)) = ex1 at *
  have := Int32.le_toInt ex1; have := Int32.toInt_lt ex1
  have := Int32.le_toInt p0; have := Int32.toInt_lt p0
  have := Int32.le_toInt v48; have := Int32.toInt_lt v48
  simp only [Int32.lt_iff_toInt_lt, Int64.lt_iff_toInt_lt, ← Int32.toInt_inj, ← Int64.toInt_inj, Int32.reduceToInt, Int64.reduceToInt, not_true_eq_false, not_false_eq_true, false_and, and_false, true_and, and_true, false_or, or_false, true_or, or_true] at *
  all_goals omega
set_option maxRecDepth 65536 in
set_option maxHeartbeats 40000000 in
theorem own_side61 (p0 : Int32) (p1 : Int32) (v48 : Int32) (hv48 : v48 = (p0 &&& (2147483647 : Int32))) (v51 : Int64) (hv51 : v51 = ((2147483647 : Int64) - (v48.toInt64))) (v53 : Int32) (hv53 : v53 = (v48 + ((((p1 &&& (2147483647 : Int32)).toInt64) - (((p1 &&& (2147483647 : Int32)).toInt64) / (v51 + (1 : Int64))) * (v51 + (1 : Int64))).toInt32))) : v53 = (-1 : Int32) ∨ ¬ (v53 < v48) := by
  have := c_mask p0 (2147483647 : Int32) 31 (by decide) (by decide)
  generalize (p0 &&& (2147483647 : Int32)) = ex1 at *
  have := Int32.le_toInt ex1; have := Int32.toInt_lt ex1
  have := c_i2l v48
  generalize (v48.toInt64) = ex2 at *
  have := Int64.le_toInt ex2; have := Int64.toInt_lt ex2
  have := c_lsub (2147483647 : Int64) ex2
  generalize ((2147483647 : Int64) - ex2) = ex3 at *
  have := Int64.le_toInt ex3; have := Int64.toInt_lt ex3
  have := c_ladd v51 (1 : Int64)
  generalize (v51 + (1 : Int64)) = ex4 at *
  have := Int64.le_toInt ex4; have := Int64.toInt_lt ex4
  have := c_mask p1 (2147483647 : Int32) 31 (by decide) (by decide)
  generalize (p1 &&& (2147483647 : Int32)) = ex5 at *
  have := Int32.le_toInt ex5; have := Int32.toInt_lt ex5
  have := c_i2l ex5
  generalize (ex5.toInt64) = ex6 at *
  have := Int64.le_toInt ex6; have := Int64.toInt_lt ex6
  have := own_lrem ex6 ex4
  generalize (ex6 - (ex6 / ex4) * ex4) = ex7 at *
  have := Int64.le_toInt ex7; have := Int64.toInt_lt ex7
  have := c_l2i ex7
  generalize (ex7.toInt32) = ex8 at *
  have := Int32.le_toInt ex8; have := Int32.toInt_lt ex8
  have := c_iadd v48 ex8
  generalize (v48 + ex8) = ex9 at *
  have := Int32.le_toInt ex9; have := Int32.toInt_lt ex9
  have := Int32.le_toInt p0; have := Int32.toInt_lt p0
  have := Int32.le_toInt p1; have := Int32.toInt_lt p1
  have := Int32.le_toInt v48; have := Int32.toInt_lt v48
  have := Int64.le_toInt v51; have := Int64.toInt_lt v51
  have := Int32.le_toInt v53; have := Int32.toInt_lt v53
  simp only [Int32.lt_iff_toInt_lt, Int64.lt_iff_toInt_lt, ← Int32.toInt_inj, ← Int64.toInt_inj, Int32.reduceToInt, Int64.reduceToInt, not_true_eq_false, not_false_eq_true, false_and, and_false, true_and, and_true, false_or, or_false, true_or, or_true] at *
  all_goals omega
set_option maxRecDepth 65536 in
set_option maxHeartbeats 40000000 in
theorem own_leaf0_2 (p0 : Int32) (p1 : Int32) (p2 : Int32) (p3 : Int32) (v48 : Int32) (hv48 : v48 = (p0 &&& (2147483647 : Int32))) (hc50 : (p3 &&& (1 : Int32)) = (0 : Int32)) (v51 : Int64) (hv51 : v51 = ((2147483647 : Int64) - (v48.toInt64))) (v53 : Int32) (hv53 : v53 = (v48 + ((((p1 &&& (2147483647 : Int32)).toInt64) - (((p1 &&& (2147483647 : Int32)).toInt64) / (v51 + (1 : Int64))) * (v51 + (1 : Int64))).toInt32))) (v68 : Int32) (hv68 : v68 = (((p3.toUInt32 >>> ((1 : Int32) &&& 31).toUInt32).toInt32) &&& (3 : Int32))) (hc70 : v68 = (0 : Int32)) (v74 : Int32) (hv74 : v74 = (own_f4 p2 (v48 - (1 : Int32)))) (hc79 : ¬ ((own_f5 v48 v53 v74) = (0 : Int32))) : False := by
  have := c_mask p0 (2147483647 : Int32) 31 (by decide) (by decide)
  generalize (p0 &&& (2147483647 : Int32)) = ex1 at *
  have := Int32.le_toInt ex1; have := Int32.toInt_lt ex1
  have := c_mask p3 (1 : Int32) 1 (by decide) (by decide)
  generalize (p3 &&& (1 : Int32)) = ex2 at *
  have := Int32.le_toInt ex2; have := Int32.toInt_lt ex2
  have := c_i2l v48
  generalize (v48.toInt64) = ex3 at *
  have := Int64.le_toInt ex3; have := Int64.toInt_lt ex3
  have := c_lsub (2147483647 : Int64) ex3
  generalize ((2147483647 : Int64) - ex3) = ex4 at *
  have := Int64.le_toInt ex4; have := Int64.toInt_lt ex4
  have := c_ladd v51 (1 : Int64)
  generalize (v51 + (1 : Int64)) = ex5 at *
  have := Int64.le_toInt ex5; have := Int64.toInt_lt ex5
  have := c_mask p1 (2147483647 : Int32) 31 (by decide) (by decide)
  generalize (p1 &&& (2147483647 : Int32)) = ex6 at *
  have := Int32.le_toInt ex6; have := Int32.toInt_lt ex6
  have := c_i2l ex6
  generalize (ex6.toInt64) = ex7 at *
  have := Int64.le_toInt ex7; have := Int64.toInt_lt ex7
  have := own_lrem ex7 ex5
  generalize (ex7 - (ex7 / ex5) * ex5) = ex8 at *
  have := Int64.le_toInt ex8; have := Int64.toInt_lt ex8
  have := c_l2i ex8
  generalize (ex8.toInt32) = ex9 at *
  have := Int32.le_toInt ex9; have := Int32.toInt_lt ex9
  have := c_iadd v48 ex9
  generalize (v48 + ex9) = ex10 at *
  have := Int32.le_toInt ex10; have := Int32.toInt_lt ex10
  have := c_iushr p3 (1 : Int32) 1 (by decide) (by decide)
  generalize ((p3.toUInt32 >>> ((1 : Int32) &&& 31).toUInt32).toInt32) = ex11 at *
  have := Int32.le_toInt ex11; have := Int32.toInt_lt ex11
  have := c_mask ex11 (3 : Int32) 2 (by decide) (by decide)
  generalize (ex11 &&& (3 : Int32)) = ex12 at *
  have := Int32.le_toInt ex12; have := Int32.toInt_lt ex12
  have := c_isub v48 (1 : Int32)
  generalize (v48 - (1 : Int32)) = ex13 at *
  have := Int32.le_toInt ex13; have := Int32.toInt_lt ex13
  have := own_f4_cases p2 ex13
  generalize own_f4 p2 ex13 = ex14 at *
  have := own_f5_cases v48 v53 v74
  generalize own_f5 v48 v53 v74 = ex15 at *
  have := Int32.le_toInt p0; have := Int32.toInt_lt p0
  have := Int32.le_toInt p1; have := Int32.toInt_lt p1
  have := Int32.le_toInt p2; have := Int32.toInt_lt p2
  have := Int32.le_toInt p3; have := Int32.toInt_lt p3
  have := Int32.le_toInt v48; have := Int32.toInt_lt v48
  have := Int64.le_toInt v51; have := Int64.toInt_lt v51
  have := Int32.le_toInt v53; have := Int32.toInt_lt v53
  have := Int32.le_toInt v68; have := Int32.toInt_lt v68
  have := Int32.le_toInt v74; have := Int32.toInt_lt v74
  simp only [Int32.lt_iff_toInt_lt, Int64.lt_iff_toInt_lt, ← Int32.toInt_inj, ← Int64.toInt_inj, Int32.reduceToInt, Int64.reduceToInt, not_true_eq_false, not_false_eq_true, false_and, and_false, true_and, and_true, false_or, or_false, true_or, or_true] at *
  all_goals omega
set_option maxRecDepth 65536 in
set_option maxHeartbeats 40000000 in
theorem own_side82 (p0 : Int32) (p1 : Int32) (v48 : Int32) (hv48 : v48 = (p0 &&& (2147483647 : Int32))) (v51 : Int64) (hv51 : v51 = ((2147483647 : Int64) - (v48.toInt64))) (v53 : Int32) (hv53 : v53 = (v48 + ((((p1 &&& (2147483647 : Int32)).toInt64) - (((p1 &&& (2147483647 : Int32)).toInt64) / (v51 + (1 : Int64))) * (v51 + (1 : Int64))).toInt32))) : ¬ ((((v53 - v48).toInt64) + (1 : Int64)) = (0 : Int64)) := by
  have := c_mask p0 (2147483647 : Int32) 31 (by decide) (by decide)
  generalize (p0 &&& (2147483647 : Int32)) = ex1 at *
  have := Int32.le_toInt ex1; have := Int32.toInt_lt ex1
  have := c_i2l v48
  generalize (v48.toInt64) = ex2 at *
  have := Int64.le_toInt ex2; have := Int64.toInt_lt ex2
  have := c_lsub (2147483647 : Int64) ex2
  generalize ((2147483647 : Int64) - ex2) = ex3 at *
  have := Int64.le_toInt ex3; have := Int64.toInt_lt ex3
  have := c_ladd v51 (1 : Int64)
  generalize (v51 + (1 : Int64)) = ex4 at *
  have := Int64.le_toInt ex4; have := Int64.toInt_lt ex4
  have := c_mask p1 (2147483647 : Int32) 31 (by decide) (by decide)
  generalize (p1 &&& (2147483647 : Int32)) = ex5 at *
  have := Int32.le_toInt ex5; have := Int32.toInt_lt ex5
  have := c_i2l ex5
  generalize (ex5.toInt64) = ex6 at *
  have := Int64.le_toInt ex6; have := Int64.toInt_lt ex6
  have := own_lrem ex6 ex4
  generalize (ex6 - (ex6 / ex4) * ex4) = ex7 at *
  have := Int64.le_toInt ex7; have := Int64.toInt_lt ex7
  have := c_l2i ex7
  generalize (ex7.toInt32) = ex8 at *
  have := Int32.le_toInt ex8; have := Int32.toInt_lt ex8
  have := c_iadd v48 ex8
  generalize (v48 + ex8) = ex9 at *
  have := Int32.le_toInt ex9; have := Int32.toInt_lt ex9
  have := c_isub v53 v48
  generalize (v53 - v48) = ex10 at *
  have := Int32.le_toInt ex10; have := Int32.toInt_lt ex10
  have := c_i2l ex10
  generalize (ex10.toInt64) = ex11 at *
  have := Int64.le_toInt ex11; have := Int64.toInt_lt ex11
  have := c_ladd ex11 (1 : Int64)
  generalize (ex11 + (1 : Int64)) = ex12 at *
  have := Int64.le_toInt ex12; have := Int64.toInt_lt ex12
  have := Int32.le_toInt p0; have := Int32.toInt_lt p0
  have := Int32.le_toInt p1; have := Int32.toInt_lt p1
  have := Int32.le_toInt v48; have := Int32.toInt_lt v48
  have := Int64.le_toInt v51; have := Int64.toInt_lt v51
  have := Int32.le_toInt v53; have := Int32.toInt_lt v53
  simp only [Int32.lt_iff_toInt_lt, Int64.lt_iff_toInt_lt, ← Int32.toInt_inj, ← Int64.toInt_inj, Int32.reduceToInt, Int64.reduceToInt, not_true_eq_false, not_false_eq_true, false_and, and_false, true_and, and_true, false_or, or_false, true_or, or_true] at *
  all_goals omega
set_option maxRecDepth 65536 in
set_option maxHeartbeats 40000000 in
theorem own_side87 (p0 : Int32) (p1 : Int32) (p2 : Int32) (v48 : Int32) (hv48 : v48 = (p0 &&& (2147483647 : Int32))) (v51 : Int64) (hv51 : v51 = ((2147483647 : Int64) - (v48.toInt64))) (v53 : Int32) (hv53 : v53 = (v48 + ((((p1 &&& (2147483647 : Int32)).toInt64) - (((p1 &&& (2147483647 : Int32)).toInt64) / (v51 + (1 : Int64))) * (v51 + (1 : Int64))).toInt32))) (v83 : Int32) (hv83 : v83 = ((((p2 &&& (2147483647 : Int32)).toInt64) - (((p2 &&& (2147483647 : Int32)).toInt64) / (((v53 - v48).toInt64) + (1 : Int64))) * (((v53 - v48).toInt64) + (1 : Int64))).toInt32)) : (own_f5 v48 v53 (v48 + v83)) = (1 : Int32) := by
  have := c_mask p0 (2147483647 : Int32) 31 (by decide) (by decide)
  generalize (p0 &&& (2147483647 : Int32)) = ex1 at *
  have := Int32.le_toInt ex1; have := Int32.toInt_lt ex1
  have := c_i2l v48
  generalize (v48.toInt64) = ex2 at *
  have := Int64.le_toInt ex2; have := Int64.toInt_lt ex2
  have := c_lsub (2147483647 : Int64) ex2
  generalize ((2147483647 : Int64) - ex2) = ex3 at *
  have := Int64.le_toInt ex3; have := Int64.toInt_lt ex3
  have := c_ladd v51 (1 : Int64)
  generalize (v51 + (1 : Int64)) = ex4 at *
  have := Int64.le_toInt ex4; have := Int64.toInt_lt ex4
  have := c_mask p1 (2147483647 : Int32) 31 (by decide) (by decide)
  generalize (p1 &&& (2147483647 : Int32)) = ex5 at *
  have := Int32.le_toInt ex5; have := Int32.toInt_lt ex5
  have := c_i2l ex5
  generalize (ex5.toInt64) = ex6 at *
  have := Int64.le_toInt ex6; have := Int64.toInt_lt ex6
  have := own_lrem ex6 ex4
  generalize (ex6 - (ex6 / ex4) * ex4) = ex7 at *
  have := Int64.le_toInt ex7; have := Int64.toInt_lt ex7
  have := c_l2i ex7
  generalize (ex7.toInt32) = ex8 at *
  have := Int32.le_toInt ex8; have := Int32.toInt_lt ex8
  have := c_iadd v48 ex8
  generalize (v48 + ex8) = ex9 at *
  have := Int32.le_toInt ex9; have := Int32.toInt_lt ex9
  have := c_isub v53 v48
  generalize (v53 - v48) = ex10 at *
  have := Int32.le_toInt ex10; have := Int32.toInt_lt ex10
  have := c_i2l ex10
  generalize (ex10.toInt64) = ex11 at *
  have := Int64.le_toInt ex11; have := Int64.toInt_lt ex11
  have := c_mask p2 (2147483647 : Int32) 31 (by decide) (by decide)
  generalize (p2 &&& (2147483647 : Int32)) = ex12 at *
  have := Int32.le_toInt ex12; have := Int32.toInt_lt ex12
  have := c_ladd ex11 (1 : Int64)
  generalize (ex11 + (1 : Int64)) = ex13 at *
  have := Int64.le_toInt ex13; have := Int64.toInt_lt ex13
  have := c_i2l ex12
  generalize (ex12.toInt64) = ex14 at *
  have := Int64.le_toInt ex14; have := Int64.toInt_lt ex14
  have := own_lrem ex14 ex13
  generalize (ex14 - (ex14 / ex13) * ex13) = ex15 at *
  have := Int64.le_toInt ex15; have := Int64.toInt_lt ex15
  have := c_l2i ex15
  generalize (ex15.toInt32) = ex16 at *
  have := Int32.le_toInt ex16; have := Int32.toInt_lt ex16
  have := c_iadd v48 v83
  generalize (v48 + v83) = ex17 at *
  have := Int32.le_toInt ex17; have := Int32.toInt_lt ex17
  have := own_f5_cases v48 v53 ex17
  generalize own_f5 v48 v53 ex17 = ex18 at *
  have := Int32.le_toInt p0; have := Int32.toInt_lt p0
  have := Int32.le_toInt p1; have := Int32.toInt_lt p1
  have := Int32.le_toInt p2; have := Int32.toInt_lt p2
  have := Int32.le_toInt v48; have := Int32.toInt_lt v48
  have := Int64.le_toInt v51; have := Int64.toInt_lt v51
  have := Int32.le_toInt v53; have := Int32.toInt_lt v53
  have := Int32.le_toInt v83; have := Int32.toInt_lt v83
  simp only [Int32.lt_iff_toInt_lt, Int64.lt_iff_toInt_lt, ← Int32.toInt_inj, ← Int64.toInt_inj, Int32.reduceToInt, Int64.reduceToInt, not_true_eq_false, not_false_eq_true, false_and, and_false, true_and, and_true, false_or, or_false, true_or, or_true] at *
  all_goals omega
set_option maxRecDepth 65536 in
set_option maxHeartbeats 40000000 in
theorem own_leaf0_4 (p0 : Int32) (p1 : Int32) (p2 : Int32) (p3 : Int32) (v48 : Int32) (hv48 : v48 = (p0 &&& (2147483647 : Int32))) (hc50 : (p3 &&& (1 : Int32)) = (0 : Int32)) (v51 : Int64) (hv51 : v51 = ((2147483647 : Int64) - (v48.toInt64))) (v53 : Int32) (hv53 : v53 = (v48 + ((((p1 &&& (2147483647 : Int32)).toInt64) - (((p1 &&& (2147483647 : Int32)).toInt64) / (v51 + (1 : Int64))) * (v51 + (1 : Int64))).toInt32))) (v68 : Int32) (hv68 : v68 = (((p3.toUInt32 >>> ((1 : Int32) &&& 31).toUInt32).toInt32) &&& (3 : Int32))) (hc70 : ¬ (v68 = (0 : Int32))) (hc81 : ¬ (v68 = (1 : Int32))) (hc89 : v68 = (2 : Int32)) (hc91 : v53 = (2147483647 : Int32)) (hc96 : (own_f5 v48 v53 (2147483647 : Int32)) = (0 : Int32)) : False := by
  have := c_mask p0 (2147483647 : Int32) 31 (by decide) (by decide)
  generalize (p0 &&& (2147483647 : Int32)) = ex1 at *
  have := Int32.le_toInt ex1; have := Int32.toInt_lt ex1
  have := c_mask p3 (1 : Int32) 1 (by decide) (by decide)
  generalize (p3 &&& (1 : Int32)) = ex2 at *
  have := Int32.le_toInt ex2; have := Int32.toInt_lt ex2
  have := c_i2l v48
  generalize (v48.toInt64) = ex3 at *
  have := Int64.le_toInt ex3; have := Int64.toInt_lt ex3
  have := c_lsub (2147483647 : Int64) ex3
  generalize ((2147483647 : Int64) - ex3) = ex4 at *
  have := Int64.le_toInt ex4; have := Int64.toInt_lt ex4
  have := c_ladd v51 (1 : Int64)
  generalize (v51 + (1 : Int64)) = ex5 at *
  have := Int64.le_toInt ex5; have := Int64.toInt_lt ex5
  have := c_mask p1 (2147483647 : Int32) 31 (by decide) (by decide)
  generalize (p1 &&& (2147483647 : Int32)) = ex6 at *
  have := Int32.le_toInt ex6; have := Int32.toInt_lt ex6
  have := c_i2l ex6
  generalize (ex6.toInt64) = ex7 at *
  have := Int64.le_toInt ex7; have := Int64.toInt_lt ex7
  have := own_lrem ex7 ex5
  generalize (ex7 - (ex7 / ex5) * ex5) = ex8 at *
  have := Int64.le_toInt ex8; have := Int64.toInt_lt ex8
  have := c_l2i ex8
  generalize (ex8.toInt32) = ex9 at *
  have := Int32.le_toInt ex9; have := Int32.toInt_lt ex9
  have := c_iadd v48 ex9
  generalize (v48 + ex9) = ex10 at *
  have := Int32.le_toInt ex10; have := Int32.toInt_lt ex10
  have := c_iushr p3 (1 : Int32) 1 (by decide) (by decide)
  generalize ((p3.toUInt32 >>> ((1 : Int32) &&& 31).toUInt32).toInt32) = ex11 at *
  have := Int32.le_toInt ex11; have := Int32.toInt_lt ex11
  have := c_mask ex11 (3 : Int32) 2 (by decide) (by decide)
  generalize (ex11 &&& (3 : Int32)) = ex12 at *
  have := Int32.le_toInt ex12; have := Int32.toInt_lt ex12
  have := own_f5_cases v48 v53 (2147483647 : Int32)
  generalize own_f5 v48 v53 (2147483647 : Int32) = ex13 at *
  have := Int32.le_toInt p0; have := Int32.toInt_lt p0
  have := Int32.le_toInt p1; have := Int32.toInt_lt p1
  have := Int32.le_toInt p2; have := Int32.toInt_lt p2
  have := Int32.le_toInt p3; have := Int32.toInt_lt p3
  have := Int32.le_toInt v48; have := Int32.toInt_lt v48
  have := Int64.le_toInt v51; have := Int64.toInt_lt v51
  have := Int32.le_toInt v53; have := Int32.toInt_lt v53
  have := Int32.le_toInt v68; have := Int32.toInt_lt v68
  simp only [Int32.lt_iff_toInt_lt, Int64.lt_iff_toInt_lt, ← Int32.toInt_inj, ← Int64.toInt_inj, Int32.reduceToInt, Int64.reduceToInt, not_true_eq_false, not_false_eq_true, false_and, and_false, true_and, and_true, false_or, or_false, true_or, or_true] at *
  all_goals omega
set_option maxRecDepth 65536 in
set_option maxHeartbeats 40000000 in
theorem own_leaf0_6 (p0 : Int32) (p1 : Int32) (p2 : Int32) (p3 : Int32) (v48 : Int32) (hv48 : v48 = (p0 &&& (2147483647 : Int32))) (hc50 : (p3 &&& (1 : Int32)) = (0 : Int32)) (v51 : Int64) (hv51 : v51 = ((2147483647 : Int64) - (v48.toInt64))) (v53 : Int32) (hv53 : v53 = (v48 + ((((p1 &&& (2147483647 : Int32)).toInt64) - (((p1 &&& (2147483647 : Int32)).toInt64) / (v51 + (1 : Int64))) * (v51 + (1 : Int64))).toInt32))) (v68 : Int32) (hv68 : v68 = (((p3.toUInt32 >>> ((1 : Int32) &&& 31).toUInt32).toInt32) &&& (3 : Int32))) (hc70 : ¬ (v68 = (0 : Int32))) (hc81 : ¬ (v68 = (1 : Int32))) (hc89 : v68 = (2 : Int32)) (hc91 : v53 = (2147483647 : Int32)) (hc96 : ¬ ((own_f5 v48 v53 (2147483647 : Int32)) = (0 : Int32))) (hc101 : ¬ ((own_f5 v48 v53 (-2147483648 : Int32)) = (0 : Int32))) : False := by
  have := c_mask p0 (2147483647 : Int32) 31 (by decide) (by decide)
  generalize (p0 &&& (2147483647 : Int32)) = ex1 at *
  have := Int32.le_toInt ex1; have := Int32.toInt_lt ex1
  have := c_mask p3 (1 : Int32) 1 (by decide) (by decide)
  generalize (p3 &&& (1 : Int32)) = ex2 at *
  have := Int32.le_toInt ex2; have := Int32.toInt_lt ex2
  have := c_i2l v48
  generalize (v48.toInt64) = ex3 at *
  have := Int64.le_toInt ex3; have := Int64.toInt_lt ex3
  have := c_lsub (2147483647 : Int64) ex3
  generalize ((2147483647 : Int64) - ex3) = ex4 at *
  have := Int64.le_toInt ex4; have := Int64.toInt_lt ex4
  have := c_ladd v51 (1 : Int64)
  generalize (v51 + (1 : Int64)) = ex5 at *
  have := Int64.le_toInt ex5; have := Int64.toInt_lt ex5
  have := c_mask p1 (2147483647 : Int32) 31 (by decide) (by decide)
  generalize (p1 &&& (2147483647 : Int32)) = ex6 at *
  have := Int32.le_toInt ex6; have := Int32.toInt_lt ex6
  have := c_i2l ex6
  generalize (ex6.toInt64) = ex7 at *
  have := Int64.le_toInt ex7; have := Int64.toInt_lt ex7
  have := own_lrem ex7 ex5
  generalize (ex7 - (ex7 / ex5) * ex5) = ex8 at *
  have := Int64.le_toInt ex8; have := Int64.toInt_lt ex8
  have := c_l2i ex8
  generalize (ex8.toInt32) = ex9 at *
  have := Int32.le_toInt ex9; have := Int32.toInt_lt ex9
  have := c_iadd v48 ex9
  generalize (v48 + ex9) = ex10 at *
  have := Int32.le_toInt ex10; have := Int32.toInt_lt ex10
  have := c_iushr p3 (1 : Int32) 1 (by decide) (by decide)
  generalize ((p3.toUInt32 >>> ((1 : Int32) &&& 31).toUInt32).toInt32) = ex11 at *
  have := Int32.le_toInt ex11; have := Int32.toInt_lt ex11
  have := c_mask ex11 (3 : Int32) 2 (by decide) (by decide)
  generalize (ex11 &&& (3 : Int32)) = ex12 at *
  have := Int32.le_toInt ex12; have := Int32.toInt_lt ex12
  have := own_f5_cases v48 v53 (2147483647 : Int32)
  generalize own_f5 v48 v53 (2147483647 : Int32) = ex13 at *
  have := own_f5_cases v48 v53 (-2147483648 : Int32)
  generalize own_f5 v48 v53 (-2147483648 : Int32) = ex14 at *
  have := Int32.le_toInt p0; have := Int32.toInt_lt p0
  have := Int32.le_toInt p1; have := Int32.toInt_lt p1
  have := Int32.le_toInt p2; have := Int32.toInt_lt p2
  have := Int32.le_toInt p3; have := Int32.toInt_lt p3
  have := Int32.le_toInt v48; have := Int32.toInt_lt v48
  have := Int64.le_toInt v51; have := Int64.toInt_lt v51
  have := Int32.le_toInt v53; have := Int32.toInt_lt v53
  have := Int32.le_toInt v68; have := Int32.toInt_lt v68
  simp only [Int32.lt_iff_toInt_lt, Int64.lt_iff_toInt_lt, ← Int32.toInt_inj, ← Int64.toInt_inj, Int32.reduceToInt, Int64.reduceToInt, not_true_eq_false, not_false_eq_true, false_and, and_false, true_and, and_true, false_or, or_false, true_or, or_true] at *
  all_goals omega
set_option maxRecDepth 65536 in
set_option maxHeartbeats 40000000 in
theorem own_leaf0_8 (p0 : Int32) (p1 : Int32) (p2 : Int32) (p3 : Int32) (v48 : Int32) (hv48 : v48 = (p0 &&& (2147483647 : Int32))) (hc50 : (p3 &&& (1 : Int32)) = (0 : Int32)) (v51 : Int64) (hv51 : v51 = ((2147483647 : Int64) - (v48.toInt64))) (v53 : Int32) (hv53 : v53 = (v48 + ((((p1 &&& (2147483647 : Int32)).toInt64) - (((p1 &&& (2147483647 : Int32)).toInt64) / (v51 + (1 : Int64))) * (v51 + (1 : Int64))).toInt32))) (v68 : Int32) (hv68 : v68 = (((p3.toUInt32 >>> ((1 : Int32) &&& 31).toUInt32).toInt32) &&& (3 : Int32))) (hc70 : ¬ (v68 = (0 : Int32))) (hc81 : ¬ (v68 = (1 : Int32))) (hc89 : v68 = (2 : Int32)) (hc91 : ¬ (v53 = (2147483647 : Int32))) (v105 : Int32) (hv105 : v105 = (own_f6 p2 (v53 + (1 : Int32)))) (hc110 : ¬ ((own_f5 v48 v53 v105) = (0 : Int32))) : False := by
  have := c_mask p0 (2147483647 : Int32) 31 (by decide) (by decide)
  generalize (p0 &&& (2147483647 : Int32)) = ex1 at *
  have := Int32.le_toInt ex1; have := Int32.toInt_lt ex1
  have := c_mask p3 (1 : Int32) 1 (by decide) (by decide)
  generalize (p3 &&& (1 : Int32)) = ex2 at *
  have := Int32.le_toInt ex2; have := Int32.toInt_lt ex2
  have := c_i2l v48
  generalize (v48.toInt64) = ex3 at *
  have := Int64.le_toInt ex3; have := Int64.toInt_lt ex3
  have := c_lsub (2147483647 : Int64) ex3
  generalize ((2147483647 : Int64) - ex3) = ex4 at *
  have := Int64.le_toInt ex4; have := Int64.toInt_lt ex4
  have := c_ladd v51 (1 : Int64)
  generalize (v51 + (1 : Int64)) = ex5 at *
  have := Int64.le_toInt ex5; have := Int64.toInt_lt ex5
  have := c_mask p1 (2147483647 : Int32) 31 (by decide) (by decide)
  generalize (p1 &&& (2147483647 : Int32)) = ex6 at *
  have := Int32.le_toInt ex6; have := Int32.toInt_lt ex6
  have := c_i2l ex6
  generalize (ex6.toInt64) = ex7 at *
  have := Int64.le_toInt ex7; have := Int64.toInt_lt ex7
  have := own_lrem ex7 ex5
  generalize (ex7 - (ex7 / ex5) * ex5) = ex8 at *
  have := Int64.le_toInt ex8; have := Int64.toInt_lt ex8
  have := c_l2i ex8
  generalize (ex8.toInt32) = ex9 at *
  have := Int32.le_toInt ex9; have := Int32.toInt_lt ex9
  have := c_iadd v48 ex9
  generalize (v48 + ex9) = ex10 at *
  have := Int32.le_toInt ex10; have := Int32.toInt_lt ex10
  have := c_iushr p3 (1 : Int32) 1 (by decide) (by decide)
  generalize ((p3.toUInt32 >>> ((1 : Int32) &&& 31).toUInt32).toInt32) = ex11 at *
  have := Int32.le_toInt ex11; have := Int32.toInt_lt ex11
  have := c_mask ex11 (3 : Int32) 2 (by decide) (by decide)
  generalize (ex11 &&& (3 : Int32)) = ex12 at *
  have := Int32.le_toInt ex12; have := Int32.toInt_lt ex12
  have := c_iadd v53 (1 : Int32)
  generalize (v53 + (1 : Int32)) = ex13 at *
  have := Int32.le_toInt ex13; have := Int32.toInt_lt ex13
  have := own_f6_cases p2 ex13
  generalize own_f6 p2 ex13 = ex14 at *
  have := own_f5_cases v48 v53 v105
  generalize own_f5 v48 v53 v105 = ex15 at *
  have := Int32.le_toInt p0; have := Int32.toInt_lt p0
  have := Int32.le_toInt p1; have := Int32.toInt_lt p1
  have := Int32.le_toInt p2; have := Int32.toInt_lt p2
  have := Int32.le_toInt p3; have := Int32.toInt_lt p3
  have := Int32.le_toInt v48; have := Int32.toInt_lt v48
  have := Int64.le_toInt v51; have := Int64.toInt_lt v51
  have := Int32.le_toInt v53; have := Int32.toInt_lt v53
  have := Int32.le_toInt v68; have := Int32.toInt_lt v68
  have := Int32.le_toInt v105; have := Int32.toInt_lt v105
  simp only [Int32.lt_iff_toInt_lt, Int64.lt_iff_toInt_lt, ← Int32.toInt_inj, ← Int64.toInt_inj, Int32.reduceToInt, Int64.reduceToInt, not_true_eq_false, not_false_eq_true, false_and, and_false, true_and, and_true, false_or, or_false, true_or, or_true] at *
  all_goals omega
set_option maxRecDepth 65536 in
set_option maxHeartbeats 40000000 in
theorem own_leaf0_9 (p0 : Int32) (p1 : Int32) (p2 : Int32) (p3 : Int32) (v48 : Int32) (hv48 : v48 = (p0 &&& (2147483647 : Int32))) (hc50 : (p3 &&& (1 : Int32)) = (0 : Int32)) (v51 : Int64) (hv51 : v51 = ((2147483647 : Int64) - (v48.toInt64))) (v53 : Int32) (hv53 : v53 = (v48 + ((((p1 &&& (2147483647 : Int32)).toInt64) - (((p1 &&& (2147483647 : Int32)).toInt64) / (v51 + (1 : Int64))) * (v51 + (1 : Int64))).toInt32))) (v68 : Int32) (hv68 : v68 = (((p3.toUInt32 >>> ((1 : Int32) &&& 31).toUInt32).toInt32) &&& (3 : Int32))) (hc70 : ¬ (v68 = (0 : Int32))) (hc81 : ¬ (v68 = (1 : Int32))) (hc89 : ¬ (v68 = (2 : Int32))) (hc115 : (own_f5 v48 v53 v48) = (0 : Int32)) : False := by
  have := c_mask p0 (2147483647 : Int32) 31 (by decide) (by decide)
  generalize (p0 &&& (2147483647 : Int32)) = ex1 at *
  have := Int32.le_toInt ex1; have := Int32.toInt_lt ex1
  have := c_mask p3 (1 : Int32) 1 (by decide) (by decide)
  generalize (p3 &&& (1 : Int32)) = ex2 at *
  have := Int32.le_toInt ex2; have := Int32.toInt_lt ex2
  have := c_i2l v48
  generalize (v48.toInt64) = ex3 at *
  have := Int64.le_toInt ex3; have := Int64.toInt_lt ex3
  have := c_lsub (2147483647 : Int64) ex3
  generalize ((2147483647 : Int64) - ex3) = ex4 at *
  have := Int64.le_toInt ex4; have := Int64.toInt_lt ex4
  have := c_ladd v51 (1 : Int64)
  generalize (v51 + (1 : Int64)) = ex5 at *
  have := Int64.le_toInt ex5; have := Int64.toInt_lt ex5
  have := c_mask p1 (2147483647 : Int32) 31 (by decide) (by decide)
  generalize (p1 &&& (2147483647 : Int32)) = ex6 at *
  have := Int32.le_toInt ex6; have := Int32.toInt_lt ex6
  have := c_i2l ex6
  generalize (ex6.toInt64) = ex7 at *
  have := Int64.le_toInt ex7; have := Int64.toInt_lt ex7
  have := own_lrem ex7 ex5
  generalize (ex7 - (ex7 / ex5) * ex5) = ex8 at *
  have := Int64.le_toInt ex8; have := Int64.toInt_lt ex8
  have := c_l2i ex8
  generalize (ex8.toInt32) = ex9 at *
  have := Int32.le_toInt ex9; have := Int32.toInt_lt ex9
  have := c_iadd v48 ex9
  generalize (v48 + ex9) = ex10 at *
  have := Int32.le_toInt ex10; have := Int32.toInt_lt ex10
  have := c_iushr p3 (1 : Int32) 1 (by decide) (by decide)
  generalize ((p3.toUInt32 >>> ((1 : Int32) &&& 31).toUInt32).toInt32) = ex11 at *
  have := Int32.le_toInt ex11; have := Int32.toInt_lt ex11
  have := c_mask ex11 (3 : Int32) 2 (by decide) (by decide)
  generalize (ex11 &&& (3 : Int32)) = ex12 at *
  have := Int32.le_toInt ex12; have := Int32.toInt_lt ex12
  have := own_f5_cases v48 v53 v48
  generalize own_f5 v48 v53 v48 = ex13 at *
  have := Int32.le_toInt p0; have := Int32.toInt_lt p0
  have := Int32.le_toInt p1; have := Int32.toInt_lt p1
  have := Int32.le_toInt p2; have := Int32.toInt_lt p2
  have := Int32.le_toInt p3; have := Int32.toInt_lt p3
  have := Int32.le_toInt v48; have := Int32.toInt_lt v48
  have := Int64.le_toInt v51; have := Int64.toInt_lt v51
  have := Int32.le_toInt v53; have := Int32.toInt_lt v53
  have := Int32.le_toInt v68; have := Int32.toInt_lt v68
  simp only [Int32.lt_iff_toInt_lt, Int64.lt_iff_toInt_lt, ← Int32.toInt_inj, ← Int64.toInt_inj, Int32.reduceToInt, Int64.reduceToInt, not_true_eq_false, not_false_eq_true, false_and, and_false, true_and, and_true, false_or, or_false, true_or, or_true] at *
  all_goals omega
set_option maxRecDepth 65536 in
set_option maxHeartbeats 40000000 in
theorem own_leaf0_10 (p0 : Int32) (p1 : Int32) (p2 : Int32) (p3 : Int32) (v48 : Int32) (hv48 : v48 = (p0 &&& (2147483647 : Int32))) (hc50 : (p3 &&& (1 : Int32)) = (0 : Int32)) (v51 : Int64) (hv51 : v51 = ((2147483647 : Int64) - (v48.toInt64))) (v53 : Int32) (hv53 : v53 = (v48 + ((((p1 &&& (2147483647 : Int32)).toInt64) - (((p1 &&& (2147483647 : Int32)).toInt64) / (v51 + (1 : Int64))) * (v51 + (1 : Int64))).toInt32))) (v68 : Int32) (hv68 : v68 = (((p3.toUInt32 >>> ((1 : Int32) &&& 31).toUInt32).toInt32) &&& (3 : Int32))) (hc70 : ¬ (v68 = (0 : Int32))) (hc81 : ¬ (v68 = (1 : Int32))) (hc89 : ¬ (v68 = (2 : Int32))) (hc115 : ¬ ((own_f5 v48 v53 v48) = (0 : Int32))) (hc120 : (own_f5 v48 v53 v53) = (0 : Int32)) : False := by
  have := c_mask p0 (2147483647 : Int32) 31 (by decide) (by decide)
  generalize (p0 &&& (2147483647 : Int32)) = ex1 at *
  have := Int32.le_toInt ex1; have := Int32.toInt_lt ex1
  have := c_mask p3 (1 : Int32) 1 (by decide) (by decide)
  generalize (p3 &&& (1 : Int32)) = ex2 at *
  have := Int32.le_toInt ex2; have := Int32.toInt_lt ex2
  have := c_i2l v48
  generalize (v48.toInt64) = ex3 at *
  have := Int64.le_toInt ex3; have := Int64.toInt_lt ex3
  have := c_lsub (2147483647 : Int64) ex3
  generalize ((2147483647 : Int64) - ex3) = ex4 at *
  have := Int64.le_toInt ex4; have := Int64.toInt_lt ex4
  have := c_ladd v51 (1 : Int64)
  generalize (v51 + (1 : Int64)) = ex5 at *
  have := Int64.le_toInt ex5; have := Int64.toInt_lt ex5
  have := c_mask p1 (2147483647 : Int32) 31 (by decide) (by decide)
  generalize (p1 &&& (2147483647 : Int32)) = ex6 at *
  have := Int32.le_toInt ex6; have := Int32.toInt_lt ex6
  have := c_i2l ex6
  generalize (ex6.toInt64) = ex7 at *
  have := Int64.le_toInt ex7; have := Int64.toInt_lt ex7
  have := own_lrem ex7 ex5
  generalize (ex7 - (ex7 / ex5) * ex5) = ex8 at *
  have := Int64.le_toInt ex8; have := Int64.toInt_lt ex8
  have := c_l2i ex8
  generalize (ex8.toInt32) = ex9 at *
  have := Int32.le_toInt ex9; have := Int32.toInt_lt ex9
  have := c_iadd v48 ex9
  generalize (v48 + ex9) = ex10 at *
  have := Int32.le_toInt ex10; have := Int32.toInt_lt ex10
  have := c_iushr p3 (1 : Int32) 1 (by decide) (by decide)
  generalize ((p3.toUInt32 >>> ((1 : Int32) &&& 31).toUInt32).toInt32) = ex11 at *
  have := Int32.le_toInt ex11; have := Int32.toInt_lt ex11
  have := c_mask ex11 (3 : Int32) 2 (by decide) (by decide)
  generalize (ex11 &&& (3 : Int32)) = ex12 at *
  have := Int32.le_toInt ex12; have := Int32.toInt_lt ex12
  have := own_f5_cases v48 v53 v48
  generalize own_f5 v48 v53 v48 = ex13 at *
  have := own_f5_cases v48 v53 v53
  generalize own_f5 v48 v53 v53 = ex14 at *
  have := Int32.le_toInt p0; have := Int32.toInt_lt p0
  have := Int32.le_toInt p1; have := Int32.toInt_lt p1
  have := Int32.le_toInt p2; have := Int32.toInt_lt p2
  have := Int32.le_toInt p3; have := Int32.toInt_lt p3
  have := Int32.le_toInt v48; have := Int32.toInt_lt v48
  have := Int64.le_toInt v51; have := Int64.toInt_lt v51
  have := Int32.le_toInt v53; have := Int32.toInt_lt v53
  have := Int32.le_toInt v68; have := Int32.toInt_lt v68
  simp only [Int32.lt_iff_toInt_lt, Int64.lt_iff_toInt_lt, ← Int32.toInt_inj, ← Int64.toInt_inj, Int32.reduceToInt, Int64.reduceToInt, not_true_eq_false, not_false_eq_true, false_and, and_false, true_and, and_true, false_or, or_false, true_or, or_true] at *
  all_goals omega
set_option maxRecDepth 65536 in
set_option maxHeartbeats 40000000 in
theorem own_leaf0_12 (p0 : Int32) (p1 : Int32) (p2 : Int32) (p3 : Int32) (v48 : Int32) (hv48 : v48 = (p0 &&& (2147483647 : Int32))) (hc50 : (p3 &&& (1 : Int32)) = (0 : Int32)) (v51 : Int64) (hv51 : v51 = ((2147483647 : Int64) - (v48.toInt64))) (v53 : Int32) (hv53 : v53 = (v48 + ((((p1 &&& (2147483647 : Int32)).toInt64) - (((p1 &&& (2147483647 : Int32)).toInt64) / (v51 + (1 : Int64))) * (v51 + (1 : Int64))).toInt32))) (v68 : Int32) (hv68 : v68 = (((p3.toUInt32 >>> ((1 : Int32) &&& 31).toUInt32).toInt32) &&& (3 : Int32))) (hc70 : ¬ (v68 = (0 : Int32))) (hc81 : ¬ (v68 = (1 : Int32))) (hc89 : ¬ (v68 = (2 : Int32))) (hc115 : ¬ ((own_f5 v48 v53 v48) = (0 : Int32))) (hc120 : ¬ ((own_f5 v48 v53 v53) = (0 : Int32))) (hc125 : ¬ ((own_f5 v48 v53 (v48 - (1 : Int32))) = (0 : Int32))) : False := by
  have := c_mask p0 (2147483647 : Int32) 31 (by decide) (by decide)
  generalize (p0 &&& (2147483647 : Int32)) = ex1 at *
  have := Int32.le_toInt ex1; have := Int32.toInt_lt ex1
  have := c_mask p3 (1 : Int32) 1 (by decide) (by decide)
  generalize (p3 &&& (1 : Int32)) = ex2 at *
  have := Int32.le_toInt ex2; have := Int32.toInt_lt ex2
  have := c_i2l v48
  generalize (v48.toInt64) = ex3 at *
  have := Int64.le_toInt ex3; have := Int64.toInt_lt ex3
  have := c_lsub (2147483647 : Int64) ex3
  generalize ((2147483647 : Int64) - ex3) = ex4 at *
  have := Int64.le_toInt ex4; have := Int64.toInt_lt ex4
  have := c_ladd v51 (1 : Int64)
  generalize (v51 + (1 : Int64)) = ex5 at *
  have := Int64.le_toInt ex5; have := Int64.toInt_lt ex5
  have := c_mask p1 (2147483647 : Int32) 31 (by decide) (by decide)
  generalize (p1 &&& (2147483647 : Int32)) = ex6 at *
  have := Int32.le_toInt ex6; have := Int32.toInt_lt ex6
  have := c_i2l ex6
  generalize (ex6.toInt64) = ex7 at *
  have := Int64.le_toInt ex7; have := Int64.toInt_lt ex7
  have := own_lrem ex7 ex5
  generalize (ex7 - (ex7 / ex5) * ex5) = ex8 at *
  have := Int64.le_toInt ex8; have := Int64.toInt_lt ex8
  have := c_l2i ex8
  generalize (ex8.toInt32) = ex9 at *
  have := Int32.le_toInt ex9; have := Int32.toInt_lt ex9
  have := c_iadd v48 ex9
  generalize (v48 + ex9) = ex10 at *
  have := Int32.le_toInt ex10; have := Int32.toInt_lt ex10
  have := c_iushr p3 (1 : Int32) 1 (by decide) (by decide)
  generalize ((p3.toUInt32 >>> ((1 : Int32) &&& 31).toUInt32).toInt32) = ex11 at *
  have := Int32.le_toInt ex11; have := Int32.toInt_lt ex11
  have := c_mask ex11 (3 : Int32) 2 (by decide) (by decide)
  generalize (ex11 &&& (3 : Int32)) = ex12 at *
  have := Int32.le_toInt ex12; have := Int32.toInt_lt ex12
  have := own_f5_cases v48 v53 v48
  generalize own_f5 v48 v53 v48 = ex13 at *
  have := own_f5_cases v48 v53 v53
  generalize own_f5 v48 v53 v53 = ex14 at *
  have := c_isub v48 (1 : Int32)
  generalize (v48 - (1 : Int32)) = ex15 at *
  have := Int32.le_toInt ex15; have := Int32.toInt_lt ex15
  have := own_f5_cases v48 v53 ex15
  generalize own_f5 v48 v53 ex15 = ex16 at *
  have := Int32.le_toInt p0; have := Int32.toInt_lt p0
  have := Int32.le_toInt p1; have := Int32.toInt_lt p1
  have := Int32.le_toInt p2; have := Int32.toInt_lt p2
  have := Int32.le_toInt p3; have := Int32.toInt_lt p3
  have := Int32.le_toInt v48; have := Int32.toInt_lt v48
  have := Int64.le_toInt v51; have := Int64.toInt_lt v51
  have := Int32.le_toInt v53; have := Int32.toInt_lt v53
  have := Int32.le_toInt v68; have := Int32.toInt_lt v68
  simp only [Int32.lt_iff_toInt_lt, Int64.lt_iff_toInt_lt, ← Int32.toInt_inj, ← Int64.toInt_inj, Int32.reduceToInt, Int64.reduceToInt, not_true_eq_false, not_false_eq_true, false_and, and_false, true_and, and_true, false_or, or_false, true_or, or_true] at *
  all_goals omega
set_option maxRecDepth 65536 in
set_option maxHeartbeats 40000000 in
theorem own_side132 (p0 : Int32) (v48 : Int32) (hv48 : v48 = (p0 &&& (2147483647 : Int32))) : ¬ (v48 < (0 : Int32)) := by
  have := c_mask p0 (2147483647 : Int32) 31 (by decide) (by decide)
  generalize (p0 &&& (2147483647 : Int32)) = ex1 at *
  have := Int32.le_toInt ex1; have := Int32.toInt_lt ex1
  have := Int32.le_toInt p0; have := Int32.toInt_lt p0
  have := Int32.le_toInt v48; have := Int32.toInt_lt v48
  simp only [Int32.lt_iff_toInt_lt, Int64.lt_iff_toInt_lt, ← Int32.toInt_inj, ← Int64.toInt_inj, Int32.reduceToInt, Int64.reduceToInt, not_true_eq_false, not_false_eq_true, false_and, and_false, true_and, and_true, false_or, or_false, true_or, or_true] at *
  all_goals omega
set_option maxRecDepth 65536 in
set_option maxHeartbeats 40000000 in
theorem own_leaf0_14 (p0 : Int32) (p1 : Int32) (p2 : Int32) (p3 : Int32) (v48 : Int32) (hv48 : v48 = (p0 &&& (2147483647 : Int32))) (hc50 : ¬ ((p3 &&& (1 : Int32)) = (0 : Int32))) (v139 : Int32) (hv139 : v139 = (((p3.toUInt32 >>> ((1 : Int32) &&& 31).toUInt32).toInt32) &&& (3 : Int32))) (hc141 : v139 = (0 : Int32)) (v145 : Int32) (hv145 : v145 = (own_f4 p2 (v48 - (1 : Int32)))) (hc150 : ¬ ((own_f5 v48 (-1 : Int32) v145) = (0 : Int32))) : False := by
  have := c_mask p0 (2147483647 : Int32) 31 (by decide) (by decide)
  generalize (p0 &&& (2147483647 : Int32)) = ex1 at *
  have := Int32.le_toInt ex1; have := Int32.toInt_lt ex1
  have := c_mask p3 (1 : Int32) 1 (by decide) (by decide)
  generalize (p3 &&& (1 : Int32)) = ex2 at *
  have := Int32.le_toInt ex2; have := Int32.toInt_lt ex2
  have := c_iushr p3 (1 : Int32) 1 (by decide) (by decide)
  generalize ((p3.toUInt32 >>> ((1 : Int32) &&& 31).toUInt32).toInt32) = ex3 at *
  have := Int32.le_toInt ex3; have := Int32.toInt_lt ex3
  have := c_mask ex3 (3 : Int32) 2 (by decide) (by decide)
  generalize (ex3 &&& (3 : Int32)) = ex4 at *
  have := Int32.le_toInt ex4; have := Int32.toInt_lt ex4
  have := c_isub v48 (1 : Int32)
  generalize (v48 - (1 : Int32)) = ex5 at *
  have := Int32.le_toInt ex5; have := Int32.toInt_lt ex5
  have := own_f4_cases p2 ex5
  generalize own_f4 p2 ex5 = ex6 at *
  have := own_f5_cases v48 (-1 : Int32) v145
  generalize own_f5 v48 (-1 : Int32) v145 = ex7 at *
  have := Int32.le_toInt p0; have := Int32.toInt_lt p0
  have := Int32.le_toInt p1; have := Int32.toInt_lt p1
  have := Int32.le_toInt p2; have := Int32.toInt_lt p2
  have := Int32.le_toInt p3; have := Int32.toInt_lt p3
  have := Int32.le_toInt v48; have := Int32.toInt_lt v48
  have := Int32.le_toInt v139; have := Int32.toInt_lt v139
  have := Int32.le_toInt v145; have := Int32.toInt_lt v145
  simp only [Int32.lt_iff_toInt_lt, Int64.lt_iff_toInt_lt, ← Int32.toInt_inj, ← Int64.toInt_inj, Int32.reduceToInt, Int64.reduceToInt, not_true_eq_false, not_false_eq_true, false_and, and_false, true_and, and_true, false_or, or_false, true_or, or_true] at *
  all_goals omega
set_option maxRecDepth 65536 in
set_option maxHeartbeats 40000000 in
theorem own_side153 (p0 : Int32) (v48 : Int32) (hv48 : v48 = (p0 &&& (2147483647 : Int32))) : ¬ (((((2147483647 : Int32) - v48).toInt64) + (1 : Int64)) = (0 : Int64)) := by
  have := c_mask p0 (2147483647 : Int32) 31 (by decide) (by decide)
  generalize (p0 &&& (2147483647 : Int32)) = ex1 at *
  have := Int32.le_toInt ex1; have := Int32.toInt_lt ex1
  have := c_isub (2147483647 : Int32) v48
  generalize ((2147483647 : Int32) - v48) = ex2 at *
  have := Int32.le_toInt ex2; have := Int32.toInt_lt ex2
  have := c_i2l ex2
  generalize (ex2.toInt64) = ex3 at *
  have := Int64.le_toInt ex3; have := Int64.toInt_lt ex3
  have := c_ladd ex3 (1 : Int64)
  generalize (ex3 + (1 : Int64)) = ex4 at *
  have := Int64.le_toInt ex4; have := Int64.toInt_lt ex4
  have := Int32.le_toInt p0; have := Int32.toInt_lt p0
  have := Int32.le_toInt v48; have := Int32.toInt_lt v48
  simp only [Int32.lt_iff_toInt_lt, Int64.lt_iff_toInt_lt, ← Int32.toInt_inj, ← Int64.toInt_inj, Int32.reduceToInt, Int64.reduceToInt, not_true_eq_false, not_false_eq_true, false_and, and_false, true_and, and_true, false_or, or_false, true_or, or_true] at *
  all_goals omega
set_option maxRecDepth 65536 in
set_option maxHeartbeats 40000000 in
theorem own_side158 (p0 : Int32) (p2 : Int32) (v48 : Int32) (hv48 : v48 = (p0 &&& (2147483647 : Int32))) (v154 : Int32) (hv154 : v154 = ((((p2 &&& (2147483647 : Int32)).toInt64) - (((p2 &&& (2147483647 : Int32)).toInt64) / ((((2147483647 : Int32) - v48).toInt64) + (1 : Int64))) * ((((2147483647 : Int32) - v48).toInt64) + (1 : Int64))).toInt32)) : (own_f5 v48 (-1 : Int32) (v48 + v154)) = (1 : Int32) := by
  have := c_mask p0 (2147483647 : Int32) 31 (by decide) (by decide)
  generalize (p0 &&& (2147483647 : Int32)) = ex1 at *
  have := Int32.le_toInt ex1; have := Int32.toInt_lt ex1
  have := c_isub (2147483647 : Int32) v48
  generalize ((2147483647 : Int32) - v48) = ex2 at *
  have := Int32.le_toInt ex2; have := Int32.toInt_lt ex2
  have := c_mask p2 (2147483647 : Int32) 31 (by decide) (by decide)
  generalize (p2 &&& (2147483647 : Int32)) = ex3 at *
  have := Int32.le_toInt ex3; have := Int32.toInt_lt ex3
  have := c_i2l ex2
  generalize (ex2.toInt64) = ex4 at *
  have := Int64.le_toInt ex4; have := Int64.toInt_lt ex4
  have := c_i2l ex3
  generalize (ex3.toInt64) = ex5 at *
  have := Int64.le_toInt ex5; have := Int64.toInt_lt ex5
  have := c_ladd ex4 (1 : Int64)
  generalize (ex4 + (1 : Int64)) = ex6 at *
  have := Int64.le_toInt ex6; have := Int64.toInt_lt ex6
  have := own_lrem ex5 ex6
  generalize (ex5 - (ex5 / ex6) * ex6) = ex7 at *
  have := Int64.le_toInt ex7; have := Int64.toInt_lt ex7
  have := c_l2i ex7
  generalize (ex7.toInt32) = ex8 at *
  have := Int32.le_toInt ex8; have := Int32.toInt_lt ex8
  have := c_iadd v48 v154
  generalize (v48 + v154) = ex9 at *
  have := Int32.le_toInt ex9; have := Int32.toInt_lt ex9
  have := own_f5_cases v48 (-1 : Int32) ex9
  generalize own_f5 v48 (-1 : Int32) ex9 = ex10 at *
  have := Int32.le_toInt p0; have := Int32.toInt_lt p0
  have := Int32.le_toInt p2; have := Int32.toInt_lt p2
  have := Int32.le_toInt v48; have := Int32.toInt_lt v48
  have := Int32.le_toInt v154; have := Int32.toInt_lt v154
  simp only [Int32.lt_iff_toInt_lt, Int64.lt_iff_toInt_lt, ← Int32.toInt_inj, ← Int64.toInt_inj, Int32.reduceToInt, Int64.reduceToInt, not_true_eq_false, not_false_eq_true, false_and, and_false, true_and, and_true, false_or, or_false, true_or, or_true] at *
  all_goals omega
set_option maxRecDepth 65536 in
set_option maxHeartbeats 40000000 in
theorem own_leaf0_16 (p0 : Int32) (p1 : Int32) (p2 : Int32) (p3 : Int32) (v48 : Int32) (hv48 : v48 = (p0 &&& (2147483647 : Int32))) (hc50 : ¬ ((p3 &&& (1 : Int32)) = (0 : Int32))) (v139 : Int32) (hv139 : v139 = (((p3.toUInt32 >>> ((1 : Int32) &&& 31).toUInt32).toInt32) &&& (3 : Int32))) (hc141 : ¬ (v139 = (0 : Int32))) (hc152 : ¬ (v139 = (1 : Int32))) (hc160 : v139 = (2 : Int32)) (hc165 : (own_f5 v48 (-1 : Int32) (2147483647 : Int32)) = (0 : Int32)) : False := by
  have := c_mask p0 (2147483647 : Int32) 31 (by decide) (by decide)
  generalize (p0 &&& (2147483647 : Int32)) = ex1 at *
  have := Int32.le_toInt ex1; have := Int32.toInt_lt ex1
  have := c_mask p3 (1 : Int32) 1 (by decide) (by decide)
  generalize (p3 &&& (1 : Int32)) = ex2 at *
  have := Int32.le_toInt ex2; have := Int32.toInt_lt ex2
  have := c_iushr p3 (1 : Int32) 1 (by decide) (by decide)
  generalize ((p3.toUInt32 >>> ((1 : Int32) &&& 31).toUInt32).toInt32) = ex3 at *
  have := Int32.le_toInt ex3; have := Int32.toInt_lt ex3
  have := c_mask ex3 (3 : Int32) 2 (by decide) (by decide)
  generalize (ex3 &&& (3 : Int32)) = ex4 at *
  have := Int32.le_toInt ex4; have := Int32.toInt_lt ex4
  have := own_f5_cases v48 (-1 : Int32) (2147483647 : Int32)
  generalize own_f5 v48 (-1 : Int32) (2147483647 : Int32) = ex5 at *
  have := Int32.le_toInt p0; have := Int32.toInt_lt p0
  have := Int32.le_toInt p1; have := Int32.toInt_lt p1
  have := Int32.le_toInt p2; have := Int32.toInt_lt p2
  have := Int32.le_toInt p3; have := Int32.toInt_lt p3
  have := Int32.le_toInt v48; have := Int32.toInt_lt v48
  have := Int32.le_toInt v139; have := Int32.toInt_lt v139
  simp only [Int32.lt_iff_toInt_lt, Int64.lt_iff_toInt_lt, ← Int32.toInt_inj, ← Int64.toInt_inj, Int32.reduceToInt, Int64.reduceToInt, not_true_eq_false, not_false_eq_true, false_and, and_false, true_and, and_true, false_or, or_false, true_or, or_true] at *
  all_goals omega
set_option maxRecDepth 65536 in
set_option maxHeartbeats 40000000 in
theorem own_leaf0_18 (p0 : Int32) (p1 : Int32) (p2 : Int32) (p3 : Int32) (v48 : Int32) (hv48 : v48 = (p0 &&& (2147483647 : Int32))) (hc50 : ¬ ((p3 &&& (1 : Int32)) = (0 : Int32))) (v139 : Int32) (hv139 : v139 = (((p3.toUInt32 >>> ((1 : Int32) &&& 31).toUInt32).toInt32) &&& (3 : Int32))) (hc141 : ¬ (v139 = (0 : Int32))) (hc152 : ¬ (v139 = (1 : Int32))) (hc160 : v139 = (2 : Int32)) (hc165 : ¬ ((own_f5 v48 (-1 : Int32) (2147483647 : Int32)) = (0 : Int32))) (hc170 : ¬ ((own_f5 v48 (-1 : Int32) (-2147483648 : Int32)) = (0 : Int32))) : False := by
  have := c_mask p0 (2147483647 : Int32) 31 (by decide) (by decide)
  generalize (p0 &&& (2147483647 : Int32)) = ex1 at *
  have := Int32.le_toInt ex1; have := Int32.toInt_lt ex1
  have := c_mask p3 (1 : Int32) 1 (by decide) (by decide)
  generalize (p3 &&& (1 : Int32)) = ex2 at *
  have := Int32.le_toInt ex2; have := Int32.toInt_lt ex2
  have := c_iushr p3 (1 : Int32) 1 (by decide) (by decide)
  generalize ((p3.toUInt32 >>> ((1 : Int32) &&& 31).toUInt32).toInt32) = ex3 at *
  have := Int32.le_toInt ex3; have := Int32.toInt_lt ex3
  have := c_mask ex3 (3 : Int32) 2 (by decide) (by decide)
  generalize (ex3 &&& (3 : Int32)) = ex4 at *
  have := Int32.le_toInt ex4; have := Int32.toInt_lt ex4
  have := own_f5_cases v48 (-1 : Int32) (2147483647 : Int32)
  generalize own_f5 v48 (-1 : Int32) (2147483647 : Int32) = ex5 at *
  have := own_f5_cases v48 (-1 : Int32) (-2147483648 : Int32)
  generalize own_f5 v48 (-1 : Int32) (-2147483648 : Int32) = ex6 at *
  have := Int32.le_toInt p0; have := Int32.toInt_lt p0
  have := Int32.le_toInt p1; have := Int32.toInt_lt p1
  have := Int32.le_toInt p2; have := Int32.toInt_lt p2
  have := Int32.le_toInt p3; have := Int32.toInt_lt p3
  have := Int32.le_toInt v48; have := Int32.toInt_lt v48
  have := Int32.le_toInt v139; have := Int32.toInt_lt v139
  simp only [Int32.lt_iff_toInt_lt, Int64.lt_iff_toInt_lt, ← Int32.toInt_inj, ← Int64.toInt_inj, Int32.reduceToInt, Int64.reduceToInt, not_true_eq_false, not_false_eq_true, false_and, and_false, true_and, and_true, false_or, or_false, true_or, or_true] at *
  all_goals omega
set_option maxRecDepth 65536 in
set_option maxHeartbeats 40000000 in
theorem own_leaf0_19 (p0 : Int32) (p1 : Int32) (p2 : Int32) (p3 : Int32) (v48 : Int32) (hv48 : v48 = (p0 &&& (2147483647 : Int32))) (hc50 : ¬ ((p3 &&& (1 : Int32)) = (0 : Int32))) (v139 : Int32) (hv139 : v139 = (((p3.toUInt32 >>> ((1 : Int32) &&& 31).toUInt32).toInt32) &&& (3 : Int32))) (hc141 : ¬ (v139 = (0 : Int32))) (hc152 : ¬ (v139 = (1 : Int32))) (hc160 : ¬ (v139 = (2 : Int32))) (hc175 : (own_f5 v48 (-1 : Int32) v48) = (0 : Int32)) : False := by
  have := c_mask p0 (2147483647 : Int32) 31 (by decide) (by decide)
  generalize (p0 &&& (2147483647 : Int32)) = ex1 at *
  have := Int32.le_toInt ex1; have := Int32.toInt_lt ex1
  have := c_mask p3 (1 : Int32) 1 (by decide) (by decide)
  generalize (p3 &&& (1 : Int32)) = ex2 at *
  have := Int32.le_toInt ex2; have := Int32.toInt_lt ex2
  have := c_iushr p3 (1 : Int32) 1 (by decide) (by decide)
  generalize ((p3.toUInt32 >>> ((1 : Int32) &&& 31).toUInt32).toInt32) = ex3 at *
  have := Int32.le_toInt ex3; have := Int32.toInt_lt ex3
  have := c_mask ex3 (3 : Int32) 2 (by decide) (by decide)
  generalize (ex3 &&& (3 : Int32)) = ex4 at *
  have := Int32.le_toInt ex4; have := Int32.toInt_lt ex4
  have := own_f5_cases v48 (-1 : Int32) v48
  generalize own_f5 v48 (-1 : Int32) v48 = ex5 at *
  have := Int32.le_toInt p0; have := Int32.toInt_lt p0
  have := Int32.le_toInt p1; have := Int32.toInt_lt p1
  have := Int32.le_toInt p2; have := Int32.toInt_lt p2
  have := Int32.le_toInt p3; have := Int32.toInt_lt p3
  have := Int32.le_toInt v48; have := Int32.toInt_lt v48
  have := Int32.le_toInt v139; have := Int32.toInt_lt v139
  simp only [Int32.lt_iff_toInt_lt, Int64.lt_iff_toInt_lt, ← Int32.toInt_inj, ← Int64.toInt_inj, Int32.reduceToInt, Int64.reduceToInt, not_true_eq_false, not_false_eq_true, false_and, and_false, true_and, and_true, false_or, or_false, true_or, or_true] at *
  all_goals omega
set_option maxRecDepth 65536 in
set_option maxHeartbeats 40000000 in
theorem own_leaf0_20 (p0 : Int32) (p1 : Int32) (p2 : Int32) (p3 : Int32) (v48 : Int32) (hv48 : v48 = (p0 &&& (2147483647 : Int32))) (hc50 : ¬ ((p3 &&& (1 : Int32)) = (0 : Int32))) (v139 : Int32) (hv139 : v139 = (((p3.toUInt32 >>> ((1 : Int32) &&& 31).toUInt32).toInt32) &&& (3 : Int32))) (hc141 : ¬ (v139 = (0 : Int32))) (hc152 : ¬ (v139 = (1 : Int32))) (hc160 : ¬ (v139 = (2 : Int32))) (hc175 : ¬ ((own_f5 v48 (-1 : Int32) v48) = (0 : Int32))) (hc180 : (own_f5 v48 (-1 : Int32) (2147483647 : Int32)) = (0 : Int32)) : False := by
  have := c_mask p0 (2147483647 : Int32) 31 (by decide) (by decide)
  generalize (p0 &&& (2147483647 : Int32)) = ex1 at *
  have := Int32.le_toInt ex1; have := Int32.toInt_lt ex1
  have := c_mask p3 (1 : Int32) 1 (by decide) (by decide)
  generalize (p3 &&& (1 : Int32)) = ex2 at *
  have := Int32.le_toInt ex2; have := Int32.toInt_lt ex2
  have := c_iushr p3 (1 : Int32) 1 (by decide) (by decide)
  generalize ((p3.toUInt32 >>> ((1 : Int32) &&& 31).toUInt32).toInt32) = ex3 at *
  have := Int32.le_toInt ex3; have := Int32.toInt_lt ex3
  have := c_mask ex3 (3 : Int32) 2 (by decide) (by decide)
  generalize (ex3 &&& (3 : Int32)) = ex4 at *
  have := Int32.le_toInt ex4; have := Int32.toInt_lt ex4
  have := own_f5_cases v48 (-1 : Int32) v48
  generalize own_f5 v48 (-1 : Int32) v48 = ex5 at *
  have := own_f5_cases v48 (-1 : Int32) (2147483647 : Int32)
  generalize own_f5 v48 (-1 : Int32) (2147483647 : Int32) = ex6 at *
  have := Int32.le_toInt p0; have := Int32.toInt_lt p0
  have := Int32.le_toInt p1; have := Int32.toInt_lt p1
  have := Int32.le_toInt p2; have := Int32.toInt_lt p2
  have := Int32.le_toInt p3; have := Int32.toInt_lt p3
  have := Int32.le_toInt v48; have := Int32.toInt_lt v48
  have := Int32.le_toInt v139; have := Int32.toInt_lt v139
  simp only [Int32.lt_iff_toInt_lt, Int64.lt_iff_toInt_lt, ← Int32.toInt_inj, ← Int64.toInt_inj, Int32.reduceToInt, Int64.reduceToInt, not_true_eq_false, not_false_eq_true, false_and, and_false, true_and, and_true, false_or, or_false, true_or, or_true] at *
  all_goals omega
set_option maxRecDepth 65536 in
set_option maxHeartbeats 40000000 in
theorem own_leaf0_22 (p0 : Int32) (p1 : Int32) (p2 : Int32) (p3 : Int32) (v48 : Int32) (hv48 : v48 = (p0 &&& (2147483647 : Int32))) (hc50 : ¬ ((p3 &&& (1 : Int32)) = (0 : Int32))) (v139 : Int32) (hv139 : v139 = (((p3.toUInt32 >>> ((1 : Int32) &&& 31).toUInt32).toInt32) &&& (3 : Int32))) (hc141 : ¬ (v139 = (0 : Int32))) (hc152 : ¬ (v139 = (1 : Int32))) (hc160 : ¬ (v139 = (2 : Int32))) (hc175 : ¬ ((own_f5 v48 (-1 : Int32) v48) = (0 : Int32))) (hc180 : ¬ ((own_f5 v48 (-1 : Int32) (2147483647 : Int32)) = (0 : Int32))) (hc185 : ¬ ((own_f5 v48 (-1 : Int32) (v48 - (1 : Int32))) = (0 : Int32))) : False := by
  have := c_mask p0 (2147483647 : Int32) 31 (by decide) (by decide)
  generalize (p0 &&& (2147483647 : Int32)) = ex1 at *
  have := Int32.le_toInt ex1; have := Int32.toInt_lt ex1
  have := c_mask p3 (1 : Int32) 1 (by decide) (by decide)
  generalize (p3 &&& (1 : Int32)) = ex2 at *
  have := Int32.le_toInt ex2; have := Int32.toInt_lt ex2
  have := c_iushr p3 (1 : Int32) 1 (by decide) (by decide)
  generalize ((p3.toUInt32 >>> ((1 : Int32) &&& 31).toUInt32).toInt32) = ex3 at *
  have := Int32.le_toInt ex3; have := Int32.toInt_lt ex3
  have := c_mask ex3 (3 : Int32) 2 (by decide) (by decide)
  generalize (ex3 &&& (3 : Int32)) = ex4 at *
  have := Int32.le_toInt ex4; have := Int32.toInt_lt ex4
  have := own_f5_cases v48 (-1 : Int32) v48
  generalize own_f5 v48 (-1 : Int32) v48 = ex5 at *
  have := own_f5_cases v48 (-1 : Int32) (2147483647 : Int32)
  generalize own_f5 v48 (-1 : Int32) (2147483647 : Int32) = ex6 at *
  have := c_isub v48 (1 : Int32)
  generalize (v48 - (1 : Int32)) = ex7 at *
  have := Int32.le_toInt ex7; have := Int32.toInt_lt ex7
  have := own_f5_cases v48 (-1 : Int32) ex7
  generalize own_f5 v48 (-1 : Int32) ex7 = ex8 at *
  have := Int32.le_toInt p0; have := Int32.toInt_lt p0
  have := Int32.le_toInt p1; have := Int32.toInt_lt p1
  have := Int32.le_toInt p2; have := Int32.toInt_lt p2
  have := Int32.le_toInt p3; have := Int32.toInt_lt p3
  have := Int32.le_toInt v48; have := Int32.toInt_lt v48
  have := Int32.le_toInt v139; have := Int32.toInt_lt v139
  simp only [Int32.lt_iff_toInt_lt, Int64.lt_iff_toInt_lt, ← Int32.toInt_inj, ← Int64.toInt_inj, Int32.reduceToInt, Int64.reduceToInt, not_true_eq_false, not_false_eq_true, false_and, and_false, true_and, and_true, false_or, or_false, true_or, or_true] at *
  all_goals omega
theorem own_pn52 : plainName "archetest/model/MultiplicityContainsPinLaw" = true := by first | (simp [plainName, overriddenIn]; done) | decide +kernel
theorem own_ef0 (m : MethodId) (p0 : Int32) (p1 : Int32) (p2 : Int32) (p3 : Int32) : entryFrame m #[(.int p0), (.int p1), (.int p2), (.int p3)] maxLocals = mkF m 0 #[.val (.int p0), .val (.int p1), .val (.int p2), .val (.int p3), .unset, .unset, .unset, .unset, .unset, .unset, .unset] [] := by first | (simp [entryFrame, mkF, argsToLocals, Value.category, maxLocals]; done) | rfl
def own_Q0 (Z : State) (p0 : Int32) (p1 : Int32) (p2 : Int32) (p3 : Int32) (h0 : Heap) (n0 : Nat) (v : Option Value) (h : Heap) (L : List Loc) : Prop := v = some (.int 1) ∧ Fr n0 L
set_option maxRecDepth 65536 in
set_option maxHeartbeats 40000000 in
theorem own_rm0 (l : Launch) (Z : State) (av : Array Value) (hw : ∀ d ∈ tables_1, d.before av Z = true) (ws : List Jvm.Cond) (p0 : Int32) (p1 : Int32) (p2 : Int32) (p3 : Int32) (h0 : Heap) (n0 : Nat) (Z0 : n0 ≤ h0.size) :
    MetFree l x (head1 (Jvm.Cond.code x code maxLocals ret :: ws) room_1) (fun a U => a = #[(.int p0), (.int p1), (.int p2), (.int p3)] ∧ Z.Warmed39 U.vm ∧ U.heap = h0) (fun _ _ _ _ _ => True) (fun _ U o U' => ∃ v L, o = .returned v ∧ own_Q0 Z p0 p1 p2 p3 h0 n0 v U'.heap L ∧ FrameEnd U o U' L room_1.cells room_1.slots) := by
  refine MetFree.of_bodySF (plainFor_of_name own_pn52) hisR ?_
  intro p e s m args below meth c s₁ Bd hml0 hP hK
  obtain ⟨rfl, hZ, hh⟩ := hP
  have hx := Bd.exec
  have hby := Bd.bytes
  have hml : c.maxLocals = 11 := hml0
  have hown : s.vm.findClass "archetest/model/MultiplicityContainsPinLaw" = some m.cls := findClass_of_methodNamed Bd.named
  have hnm := (name_of_methodNamed Bd.named Bd.method).1
  have X0 : Stand p l e room_1 s m #[(.int p0), (.int p1), (.int p2), (.int p3)] below meth c s₁ [] 0 0 := Stand.of_body Bd
  have e0 : s₁.heap = h0 := by rw [← hh, Bd.state]; rfl
  have N0 := Fr.nil n0
  have pre0 : ∀ t, Steps p.tables e below (s₁.setTop (mkF m 0 #[.val (.int p0), .val (.int p1), .val (.int p2), .val (.int p3), .unset, .unset, .unset, .unset, .unset, .unset, .unset] [])) t → Steps p.tables e below (s₁.setTop (entryFrame m #[(.int p0), (.int p1), (.int p2), (.int p3)] maxLocals)) t := fun t k => castTop (own_ef0 m p0 p1 p2 p3) k
  obtain ⟨v48, hv48⟩ : ∃ z : Int32, z = (p0 &&& (2147483647 : Int32)) := ⟨_, rfl⟩
  have pre49 : ∀ t, Steps p.tables e below (s₁.setTop (mkF m 9 #[.val (.int p0), .val (.int p1), .val (.int p2), .val (.int p3), .val (.int v48), .unset, .unset, .unset, .unset, .unset, .unset] [(.int (p3 &&& (1 : Int32)))])) t → Steps p.tables e below (s₁.setTop (entryFrame m #[(.int p0), (.int p1), (.int p2), (.int p3)] maxLocals)) t := fun t kk => pre0 t (by
    show Steps p.tables e below (s₁.setTop (mkF m 0 #[.val (.int p0), .val (.int p1), .val (.int p2), .val (.int p3), .unset, .unset, .unset, .unset, .unset, .unset, .unset] [])) _
    refine XS.iloadN X0.here hx rfl (hb hby at_0) rfl ?_
    show Steps p.tables e below (s₁.setTop (mkF m 1 #[.val (.int p0), .val (.int p1), .val (.int p2), .val (.int p3), .unset, .unset, .unset, .unset, .unset, .unset, .unset] [(.int p0)])) _
    refine X0.ldcInt hx hown (mvT hZ (hw _ (List.mem_of_getElem? (i := 0) rfl))) (g := (mkF m 1 #[.val (.int p0), .val (.int p1), .val (.int p2), .val (.int p3), .unset, .unset, .unset, .unset, .unset, .unset, .unset] [(.int p0)])) rfl (hb hby at_1) _ ?_
    show Steps p.tables e below (s₁.setTop (mkF m 3 #[.val (.int p0), .val (.int p1), .val (.int p2), .val (.int p3), .unset, .unset, .unset, .unset, .unset, .unset, .unset] [(.int (2147483647 : Int32)), (.int p0)])) _
    refine XS.iand X0.here hx rfl (hb hby at_3) rfl ?_
    show Steps p.tables e below (s₁.setTop (mkF m 4 #[.val (.int p0), .val (.int p1), .val (.int p2), .val (.int p3), .unset, .unset, .unset, .unset, .unset, .unset, .unset] [(.int (p0 &&& (2147483647 : Int32)))])) _
    refine castTop (congrArg (fun z : Int32 => mkF m 4 #[.val (.int p0), .val (.int p1), .val (.int p2), .val (.int p3), .unset, .unset, .unset, .unset, .unset, .unset, .unset] [(.int z)]) hv48.symm) ?_
    show Steps p.tables e below (s₁.setTop (mkF m 4 #[.val (.int p0), .val (.int p1), .val (.int p2), .val (.int p3), .unset, .unset, .unset, .unset, .unset, .unset, .unset] [(.int v48)])) _
    refine XS.istore X0.here hx rfl (hb hby at_4) rfl (l' := #[.val (.int p0), .val (.int p1), .val (.int p2), .val (.int p3), .val (.int v48), .unset, .unset, .unset, .unset, .unset, .unset]) rfl ?_
    show Steps p.tables e below (s₁.setTop (mkF m 6 #[.val (.int p0), .val (.int p1), .val (.int p2), .val (.int p3), .val (.int v48), .unset, .unset, .unset, .unset, .unset, .unset] [])) _
    refine XS.iloadN X0.here hx rfl (hb hby at_6) rfl ?_
    show Steps p.tables e below (s₁.setTop (mkF m 7 #[.val (.int p0), .val (.int p1), .val (.int p2), .val (.int p3), .val (.int v48), .unset, .unset, .unset, .unset, .unset, .unset] [(.int p3)])) _
    refine XS.iconst X0.here hx rfl (hb hby at_7) ?_
    show Steps p.tables e below (s₁.setTop (mkF m 8 #[.val (.int p0), .val (.int p1), .val (.int p2), .val (.int p3), .val (.int v48), .unset, .unset, .unset, .unset, .unset, .unset] [(.int (1 : Int32)), (.int p3)])) _
    refine XS.iand X0.here hx rfl (hb hby at_8) rfl ?_
    show Steps p.tables e below (s₁.setTop (mkF m 9 #[.val (.int p0), .val (.int p1), .val (.int p2), .val (.int p3), .val (.int v48), .unset, .unset, .unset, .unset, .unset, .unset] [(.int (p3 &&& (1 : Int32)))])) _
    exact kk)
  by_cases hc50 : (p3 &&& (1 : Int32)) = (0 : Int32)
  · obtain ⟨v51, hv51⟩ : ∃ z : Int64, z = ((2147483647 : Int64) - (v48.toInt64)) := ⟨_, rfl⟩
    obtain ⟨v53, hv53⟩ : ∃ z : Int32, z = (v48 + ((((p1 &&& (2147483647 : Int32)).toInt64) - (((p1 &&& (2147483647 : Int32)).toInt64) / (v51 + (1 : Int64))) * (v51 + (1 : Int64))).toInt32)) := ⟨_, rfl⟩
    obtain ⟨T54, h54, X54, e54, E54, A54, D54, -, st54⟩ := newO X0 hx hZ hown (hw _ (List.mem_of_getElem? (i := 1) rfl)) (hw _ (List.mem_of_getElem? (i := 2) rfl)) (hw _ (List.mem_of_getElem? (i := 3) rfl)) e0 (g := (mkF m 55 #[.val (.int p0), .val (.int p1), .val (.int p2), .val (.int p3), .val (.int v48), .val (.int (0 : Int32)), .val (.int v53), .val (.long v51), .second, .unset, .unset] [])) rfl (hb hby at_55) (by decide) (by decide)
    obtain ⟨b54, g54⟩ : ∃ z, z = h0.size := ⟨_, rfl⟩
    have g_b54 : n0 ≤ b54 := Nat.le_trans Z0 (Nat.le_of_eq g54.symm)
    have sz_b54 : h0.size ≤ b54 := Nat.le_trans (Keep.refl h0 []).1 (Nat.le_of_eq g54.symm)
    rw [← g54] at A54 D54 st54
    have z55 : n0 ≤ h54.size := Nat.le_trans Z0 E54.1
    have K56 : Keep h0 h54 [] := (Keep.refl h0 []).ext E54
    have f57 : Fld Z h54 b54 "archetest/model/Multiplicity" "lower" "I" (.int (0 : Int32)) := D54 (Or.inr (hw _ (List.mem_of_getElem? (i := 16) rfl))) (ty := .int) (by decide)
    have f58 : Fld Z h54 b54 "archetest/model/Multiplicity" "upper" "I" (.int (0 : Int32)) := D54 (Or.inr (hw _ (List.mem_of_getElem? (i := 18) rfl))) (ty := .int) (by decide)
    obtain ⟨_, _, ⟨T59, L59, k59, n59⟩, -, X59, ⟨Lc59, hQ59, l59, y59, z59⟩, st59⟩ := X54.specialBack hx (y := (⟨"archetest/model/Multiplicity", "<init>", "(II)V"⟩ : MethodName)) rfl hown (mvT hZ (hw _ (List.mem_of_getElem? (i := 4) rfl))) (mvT hZ (hw _ (List.mem_of_getElem? (i := 5) rfl))) (mvT hZ (hw _ (List.mem_of_getElem? (i := 6) rfl))) (by decide) (backOf (W := 1) (own_rm1 l Z av hw [] b54 v48 v53 h54 n0 z55 A54 f57 f58 g_b54 ((own_side60 p0 v48 hv48)) ((own_side61 p0 p1 v48 hv48 v51 hv51 v53 hv53))) hZ (hw _ (List.mem_of_getElem? (i := 6) rfl)) (hw _ (List.mem_of_getElem? (i := 3) rfl)) (by decide) (by decide)) (g := (mkF m 63 #[.val (.int p0), .val (.int p1), .val (.int p2), .val (.int p3), .val (.int v48), .val (.int (0 : Int32)), .val (.int v53), .val (.long v51), .second, .unset, .unset] [(.int v53), (.int v48), (.ref b54), (.ref b54)])) rfl (by rw [hml]; rfl) (Steps.refl _) (a := b54) (argsL := [(.int v48), (.int v53)]) (rest := [(.ref b54)]) (lenOf own_pd1 rfl) rfl (by show 2 * 0 + _ ≤ _; exact Nat.le_of_eq rfl) (hb hby at_63) (fun _ _ => ⟨rfl, e54, (by decide : 1 + 0 ≤ _), (by decide : 2 + 0 ≤ _)⟩)
    dsimp only [Pt.U, Pt.locs, Pt.cells, Pt.slots] at X59 l59 y59 z59 st59 hQ59
    subst l59 y59 z59
    obtain ⟨rfl, N59q, K59, f63, f64, f65⟩ := hQ59
    have K66 : Keep h0 T59.heap [] := K56.trans K59 (allS (Or.inr sz_b54) all0)
    have z67 : n0 ≤ T59.heap.size := Nat.le_trans z55 K59.1
    have N62 := Fr.app N0 N59q
    obtain ⟨v68, hv68⟩ : ∃ z : Int32, z = (((p3.toUInt32 >>> ((1 : Int32) &&& 31).toUInt32).toInt32) &&& (3 : Int32)) := ⟨_, rfl⟩
    have pre69 : ∀ t, Steps p.tables e below (T59.setTop (mkF m 91 #[.val (.int p0), .val (.int p1), .val (.int p2), .val (.int p3), .val (.int v48), .val (.int (0 : Int32)), .val (.int v53), .val (.ref b54), .val (.int v53), .val (.int v68), .unset] [(.int v68)])) t → Steps p.tables e below (s₁.setTop (entryFrame m #[(.int p0), (.int p1), (.int p2), (.int p3)] maxLocals)) t := fun t kk => pre49 t (by
      show Steps p.tables e below (s₁.setTop (mkF m 9 #[.val (.int p0), .val (.int p1), .val (.int p2), .val (.int p3), .val (.int v48), .unset, .unset, .unset, .unset, .unset, .unset] [(.int (p3 &&& (1 : Int32)))])) _
      refine XS.ifYes X0.here hx rfl (pc0 := 9) (pc' := 16) rfl (hb hby at_9) rfl ((if0 _ _).trans (teq hc50).1) (by decide) (by decide) ?_
      show Steps p.tables e below (s₁.setTop (mkF m 16 #[.val (.int p0), .val (.int p1), .val (.int p2), .val (.int p3), .val (.int v48), .unset, .unset, .unset, .unset, .unset, .unset] [])) _
      refine XS.iconst X0.here hx rfl (hb hby at_16) ?_
      show Steps p.tables e below (s₁.setTop (mkF m 17 #[.val (.int p0), .val (.int p1), .val (.int p2), .val (.int p3), .val (.int v48), .unset, .unset, .unset, .unset, .unset, .unset] [(.int (0 : Int32))])) _
      refine XS.istore X0.here hx rfl (hb hby at_17) rfl (l' := #[.val (.int p0), .val (.int p1), .val (.int p2), .val (.int p3), .val (.int v48), .val (.int (0 : Int32)), .unset, .unset, .unset, .unset, .unset]) rfl ?_
      show Steps p.tables e below (s₁.setTop (mkF m 19 #[.val (.int p0), .val (.int p1), .val (.int p2), .val (.int p3), .val (.int v48), .val (.int (0 : Int32)), .unset, .unset, .unset, .unset, .unset] [])) _
      refine XS.iload X0.here hx rfl (hb hby at_19) rfl ?_
      show Steps p.tables e below (s₁.setTop (mkF m 21 #[.val (.int p0), .val (.int p1), .val (.int p2), .val (.int p3), .val (.int v48), .val (.int (0 : Int32)), .unset, .unset, .unset, .unset, .unset] [(.int (0 : Int32))])) _
      refine XS.ifYes X0.here hx rfl (pc0 := 21) (pc' := 30) rfl (hb hby at_21) rfl ((if0 _ _).trans (teq (by decide : (0 : Int32) = (0 : Int32))).1) (by decide) (by decide) ?_
      show Steps p.tables e below (s₁.setTop (mkF m 30 #[.val (.int p0), .val (.int p1), .val (.int p2), .val (.int p3), .val (.int v48), .val (.int (0 : Int32)), .unset, .unset, .unset, .unset, .unset] [])) _
      refine X0.ldc2Long hx hown (mvT hZ (hw _ (List.mem_of_getElem? (i := 28) rfl))) (g := (mkF m 30 #[.val (.int p0), .val (.int p1), .val (.int p2), .val (.int p3), .val (.int v48), .val (.int (0 : Int32)), .unset, .unset, .unset, .unset, .unset] [])) rfl (hb hby at_30) _ ?_
      show Steps p.tables e below (s₁.setTop (mkF m 33 #[.val (.int p0), .val (.int p1), .val (.int p2), .val (.int p3), .val (.int v48), .val (.int (0 : Int32)), .unset, .unset, .unset, .unset, .unset] [(.long (2147483647 : Int64))])) _
      refine XS.iload X0.here hx rfl (hb hby at_33) rfl ?_
      show Steps p.tables e below (s₁.setTop (mkF m 35 #[.val (.int p0), .val (.int p1), .val (.int p2), .val (.int p3), .val (.int v48), .val (.int (0 : Int32)), .unset, .unset, .unset, .unset, .unset] [(.int v48), (.long (2147483647 : Int64))])) _
      refine XS.i2l X0.here hx rfl (hb hby at_35) rfl ?_
      show Steps p.tables e below (s₁.setTop (mkF m 36 #[.val (.int p0), .val (.int p1), .val (.int p2), .val (.int p3), .val (.int v48), .val (.int (0 : Int32)), .unset, .unset, .unset, .unset, .unset] [(.long (v48.toInt64)), (.long (2147483647 : Int64))])) _
      refine XS.lsub X0.here hx rfl (hb hby at_36) rfl ?_
      show Steps p.tables e below (s₁.setTop (mkF m 37 #[.val (.int p0), .val (.int p1), .val (.int p2), .val (.int p3), .val (.int v48), .val (.int (0 : Int32)), .unset, .unset, .unset, .unset, .unset] [(.long ((2147483647 : Int64) - (v48.toInt64)))])) _
      refine castTop (congrArg (fun z : Int64 => mkF m 37 #[.val (.int p0), .val (.int p1), .val (.int p2), .val (.int p3), .val (.int v48), .val (.int (0 : Int32)), .unset, .unset, .unset, .unset, .unset] [(.long z)]) hv51.symm) ?_
      show Steps p.tables e below (s₁.setTop (mkF m 37 #[.val (.int p0), .val (.int p1), .val (.int p2), .val (.int p3), .val (.int v48), .val (.int (0 : Int32)), .unset, .unset, .unset, .unset, .unset] [(.long v51)])) _
      refine XS.lstore X0.here hx rfl (hb hby at_37) rfl (l' := #[.val (.int p0), .val (.int p1), .val (.int p2), .val (.int p3), .val (.int v48), .val (.int (0 : Int32)), .unset, .val (.long v51), .second, .unset, .unset]) rfl ?_
      show Steps p.tables e below (s₁.setTop (mkF m 39 #[.val (.int p0), .val (.int p1), .val (.int p2), .val (.int p3), .val (.int v48), .val (.int (0 : Int32)), .unset, .val (.long v51), .second, .unset, .unset] [])) _
      refine XS.iload X0.here hx rfl (hb hby at_39) rfl ?_
      show Steps p.tables e below (s₁.setTop (mkF m 41 #[.val (.int p0), .val (.int p1), .val (.int p2), .val (.int p3), .val (.int v48), .val (.int (0 : Int32)), .unset, .val (.long v51), .second, .unset, .unset] [(.int v48)])) _
      refine XS.iloadN X0.here hx rfl (hb hby at_41) rfl ?_
      show Steps p.tables e below (s₁.setTop (mkF m 42 #[.val (.int p0), .val (.int p1), .val (.int p2), .val (.int p3), .val (.int v48), .val (.int (0 : Int32)), .unset, .val (.long v51), .second, .unset, .unset] [(.int p1), (.int v48)])) _
      refine X0.ldcInt hx hown (mvT hZ (hw _ (List.mem_of_getElem? (i := 0) rfl))) (g := (mkF m 42 #[.val (.int p0), .val (.int p1), .val (.int p2), .val (.int p3), .val (.int v48), .val (.int (0 : Int32)), .unset, .val (.long v51), .second, .unset, .unset] [(.int p1), (.int v48)])) rfl (hb hby at_42) _ ?_
      show Steps p.tables e below (s₁.setTop (mkF m 44 #[.val (.int p0), .val (.int p1), .val (.int p2), .val (.int p3), .val (.int v48), .val (.int (0 : Int32)), .unset, .val (.long v51), .second, .unset, .unset] [(.int (2147483647 : Int32)), (.int p1), (.int v48)])) _
      refine XS.iand X0.here hx rfl (hb hby at_44) rfl ?_
      show Steps p.tables e below (s₁.setTop (mkF m 45 #[.val (.int p0), .val (.int p1), .val (.int p2), .val (.int p3), .val (.int v48), .val (.int (0 : Int32)), .unset, .val (.long v51), .second, .unset, .unset] [(.int (p1 &&& (2147483647 : Int32))), (.int v48)])) _
      refine XS.i2l X0.here hx rfl (hb hby at_45) rfl ?_
      show Steps p.tables e below (s₁.setTop (mkF m 46 #[.val (.int p0), .val (.int p1), .val (.int p2), .val (.int p3), .val (.int v48), .val (.int (0 : Int32)), .unset, .val (.long v51), .second, .unset, .unset] [(.long ((p1 &&& (2147483647 : Int32)).toInt64)), (.int v48)])) _
      refine XS.lload X0.here hx rfl (hb hby at_46) rfl ?_
      show Steps p.tables e below (s₁.setTop (mkF m 48 #[.val (.int p0), .val (.int p1), .val (.int p2), .val (.int p3), .val (.int v48), .val (.int (0 : Int32)), .unset, .val (.long v51), .second, .unset, .unset] [(.long v51), (.long ((p1 &&& (2147483647 : Int32)).toInt64)), (.int v48)])) _
      refine XS.lconst X0.here hx rfl (hb hby at_48) ?_
      show Steps p.tables e below (s₁.setTop (mkF m 49 #[.val (.int p0), .val (.int p1), .val (.int p2), .val (.int p3), .val (.int v48), .val (.int (0 : Int32)), .unset, .val (.long v51), .second, .unset, .unset] [(.long (1 : Int64)), (.long v51), (.long ((p1 &&& (2147483647 : Int32)).toInt64)), (.int v48)])) _
      refine XS.ladd X0.here hx rfl (hb hby at_49) rfl ?_
      show Steps p.tables e below (s₁.setTop (mkF m 50 #[.val (.int p0), .val (.int p1), .val (.int p2), .val (.int p3), .val (.int v48), .val (.int (0 : Int32)), .unset, .val (.long v51), .second, .unset, .unset] [(.long (v51 + (1 : Int64))), (.long ((p1 &&& (2147483647 : Int32)).toInt64)), (.int v48)])) _
      refine XS.lrem X0.here hx rfl (hb hby at_50) rfl (own_side52 p0 v48 hv48 v51 hv51) ?_
      show Steps p.tables e below (s₁.setTop (mkF m 51 #[.val (.int p0), .val (.int p1), .val (.int p2), .val (.int p3), .val (.int v48), .val (.int (0 : Int32)), .unset, .val (.long v51), .second, .unset, .unset] [(.long (((p1 &&& (2147483647 : Int32)).toInt64) - (((p1 &&& (2147483647 : Int32)).toInt64) / (v51 + (1 : Int64))) * (v51 + (1 : Int64)))), (.int v48)])) _
      refine XS.l2i X0.here hx rfl (hb hby at_51) rfl ?_
      show Steps p.tables e below (s₁.setTop (mkF m 52 #[.val (.int p0), .val (.int p1), .val (.int p2), .val (.int p3), .val (.int v48), .val (.int (0 : Int32)), .unset, .val (.long v51), .second, .unset, .unset] [(.int ((((p1 &&& (2147483647 : Int32)).toInt64) - (((p1 &&& (2147483647 : Int32)).toInt64) / (v51 + (1 : Int64))) * (v51 + (1 : Int64))).toInt32)), (.int v48)])) _
      refine XS.iadd X0.here hx rfl (hb hby at_52) rfl ?_
      show Steps p.tables e below (s₁.setTop (mkF m 53 #[.val (.int p0), .val (.int p1), .val (.int p2), .val (.int p3), .val (.int v48), .val (.int (0 : Int32)), .unset, .val (.long v51), .second, .unset, .unset] [(.int (v48 + ((((p1 &&& (2147483647 : Int32)).toInt64) - (((p1 &&& (2147483647 : Int32)).toInt64) / (v51 + (1 : Int64))) * (v51 + (1 : Int64))).toInt32)))])) _
      refine castTop (congrArg (fun z : Int32 => mkF m 53 #[.val (.int p0), .val (.int p1), .val (.int p2), .val (.int p3), .val (.int v48), .val (.int (0 : Int32)), .unset, .val (.long v51), .second, .unset, .unset] [(.int z)]) hv53.symm) ?_
      show Steps p.tables e below (s₁.setTop (mkF m 53 #[.val (.int p0), .val (.int p1), .val (.int p2), .val (.int p3), .val (.int v48), .val (.int (0 : Int32)), .unset, .val (.long v51), .second, .unset, .unset] [(.int v53)])) _
      refine XS.istore X0.here hx rfl (hb hby at_53) rfl (l' := #[.val (.int p0), .val (.int p1), .val (.int p2), .val (.int p3), .val (.int v48), .val (.int (0 : Int32)), .val (.int v53), .val (.long v51), .second, .unset, .unset]) rfl ?_
      show Steps p.tables e below (s₁.setTop (mkF m 55 #[.val (.int p0), .val (.int p1), .val (.int p2), .val (.int p3), .val (.int v48), .val (.int (0 : Int32)), .val (.int v53), .val (.long v51), .second, .unset, .unset] [])) _
      refine st54 _ ?_
      show Steps p.tables e below (T54.setTop (mkF m 58 #[.val (.int p0), .val (.int p1), .val (.int p2), .val (.int p3), .val (.int v48), .val (.int (0 : Int32)), .val (.int v53), .val (.long v51), .second, .unset, .unset] [(.ref b54)])) _
      refine XS.dup X54.here hx rfl (hb hby at_58) rfl rfl ?_
      show Steps p.tables e below (T54.setTop (mkF m 59 #[.val (.int p0), .val (.int p1), .val (.int p2), .val (.int p3), .val (.int v48), .val (.int (0 : Int32)), .val (.int v53), .val (.long v51), .second, .unset, .unset] [(.ref b54), (.ref b54)])) _
      refine XS.iload X54.here hx rfl (hb hby at_59) rfl ?_
      show Steps p.tables e below (T54.setTop (mkF m 61 #[.val (.int p0), .val (.int p1), .val (.int p2), .val (.int p3), .val (.int v48), .val (.int (0 : Int32)), .val (.int v53), .val (.long v51), .second, .unset, .unset] [(.int v48), (.ref b54), (.ref b54)])) _
      refine XS.iload X54.here hx rfl (hb hby at_61) rfl ?_
      show Steps p.tables e below (T54.setTop (mkF m 63 #[.val (.int p0), .val (.int p1), .val (.int p2), .val (.int p3), .val (.int v48), .val (.int (0 : Int32)), .val (.int v53), .val (.long v51), .second, .unset, .unset] [(.int v53), (.int v48), (.ref b54), (.ref b54)])) _
      refine st59.trans ?_
      show Steps p.tables e below (T59.setTop (mkF m 66 #[.val (.int p0), .val (.int p1), .val (.int p2), .val (.int p3), .val (.int v48), .val (.int (0 : Int32)), .val (.int v53), .val (.long v51), .second, .unset, .unset] [(.ref b54)])) _
      refine XS.astore X59.here hx rfl (hb hby at_66) rfl rfl (l' := #[.val (.int p0), .val (.int p1), .val (.int p2), .val (.int p3), .val (.int v48), .val (.int (0 : Int32)), .val (.int v53), .val (.ref b54), .unset, .unset, .unset]) rfl ?_
      show Steps p.tables e below (T59.setTop (mkF m 68 #[.val (.int p0), .val (.int p1), .val (.int p2), .val (.int p3), .val (.int v48), .val (.int (0 : Int32)), .val (.int v53), .val (.ref b54), .unset, .unset, .unset] [])) _
      refine XS.iload X59.here hx rfl (hb hby at_68) rfl ?_
      show Steps p.tables e below (T59.setTop (mkF m 70 #[.val (.int p0), .val (.int p1), .val (.int p2), .val (.int p3), .val (.int v48), .val (.int (0 : Int32)), .val (.int v53), .val (.ref b54), .unset, .unset, .unset] [(.int (0 : Int32))])) _
      refine XS.ifYes X59.here hx rfl (pc0 := 70) (pc' := 78) rfl (hb hby at_70) rfl ((if0 _ _).trans (teq (by decide : (0 : Int32) = (0 : Int32))).1) (by decide) (by decide) ?_
      show Steps p.tables e below (T59.setTop (mkF m 78 #[.val (.int p0), .val (.int p1), .val (.int p2), .val (.int p3), .val (.int v48), .val (.int (0 : Int32)), .val (.int v53), .val (.ref b54), .unset, .unset, .unset] [])) _
      refine XS.iload X59.here hx rfl (hb hby at_78) rfl ?_
      show Steps p.tables e below (T59.setTop (mkF m 80 #[.val (.int p0), .val (.int p1), .val (.int p2), .val (.int p3), .val (.int v48), .val (.int (0 : Int32)), .val (.int v53), .val (.ref b54), .unset, .unset, .unset] [(.int v53)])) _
      refine XS.istore X59.here hx rfl (hb hby at_80) rfl (l' := #[.val (.int p0), .val (.int p1), .val (.int p2), .val (.int p3), .val (.int v48), .val (.int (0 : Int32)), .val (.int v53), .val (.ref b54), .val (.int v53), .unset, .unset]) rfl ?_
      show Steps p.tables e below (T59.setTop (mkF m 82 #[.val (.int p0), .val (.int p1), .val (.int p2), .val (.int p3), .val (.int v48), .val (.int (0 : Int32)), .val (.int v53), .val (.ref b54), .val (.int v53), .unset, .unset] [])) _
      refine XS.iloadN X59.here hx rfl (hb hby at_82) rfl ?_
      show Steps p.tables e below (T59.setTop (mkF m 83 #[.val (.int p0), .val (.int p1), .val (.int p2), .val (.int p3), .val (.int v48), .val (.int (0 : Int32)), .val (.int v53), .val (.ref b54), .val (.int v53), .unset, .unset] [(.int p3)])) _
      refine XS.iconst X59.here hx rfl (hb hby at_83) ?_
      show Steps p.tables e below (T59.setTop (mkF m 84 #[.val (.int p0), .val (.int p1), .val (.int p2), .val (.int p3), .val (.int v48), .val (.int (0 : Int32)), .val (.int v53), .val (.ref b54), .val (.int v53), .unset, .unset] [(.int (1 : Int32)), (.int p3)])) _
      refine XS.iushr X59.here hx rfl (hb hby at_84) rfl ?_
      show Steps p.tables e below (T59.setTop (mkF m 85 #[.val (.int p0), .val (.int p1), .val (.int p2), .val (.int p3), .val (.int v48), .val (.int (0 : Int32)), .val (.int v53), .val (.ref b54), .val (.int v53), .unset, .unset] [(.int ((p3.toUInt32 >>> ((1 : Int32) &&& 31).toUInt32).toInt32))])) _
      refine XS.iconst X59.here hx rfl (hb hby at_85) ?_
      show Steps p.tables e below (T59.setTop (mkF m 86 #[.val (.int p0), .val (.int p1), .val (.int p2), .val (.int p3), .val (.int v48), .val (.int (0 : Int32)), .val (.int v53), .val (.ref b54), .val (.int v53), .unset, .unset] [(.int (3 : Int32)), (.int ((p3.toUInt32 >>> ((1 : Int32) &&& 31).toUInt32).toInt32))])) _
      refine XS.iand X59.here hx rfl (hb hby at_86) rfl ?_
      show Steps p.tables e below (T59.setTop (mkF m 87 #[.val (.int p0), .val (.int p1), .val (.int p2), .val (.int p3), .val (.int v48), .val (.int (0 : Int32)), .val (.int v53), .val (.ref b54), .val (.int v53), .unset, .unset] [(.int (((p3.toUInt32 >>> ((1 : Int32) &&& 31).toUInt32).toInt32) &&& (3 : Int32)))])) _
      refine castTop (congrArg (fun z : Int32 => mkF m 87 #[.val (.int p0), .val (.int p1), .val (.int p2), .val (.int p3), .val (.int v48), .val (.int (0 : Int32)), .val (.int v53), .val (.ref b54), .val (.int v53), .unset, .unset] [(.int z)]) hv68.symm) ?_
      show Steps p.tables e below (T59.setTop (mkF m 87 #[.val (.int p0), .val (.int p1), .val (.int p2), .val (.int p3), .val (.int v48), .val (.int (0 : Int32)), .val (.int v53), .val (.ref b54), .val (.int v53), .unset, .unset] [(.int v68)])) _
      refine XS.istore X59.here hx rfl (hb hby at_87) rfl (l' := #[.val (.int p0), .val (.int p1), .val (.int p2), .val (.int p3), .val (.int v48), .val (.int (0 : Int32)), .val (.int v53), .val (.ref b54), .val (.int v53), .val (.int v68), .unset]) rfl ?_
      show Steps p.tables e below (T59.setTop (mkF m 89 #[.val (.int p0), .val (.int p1), .val (.int p2), .val (.int p3), .val (.int v48), .val (.int (0 : Int32)), .val (.int v53), .val (.ref b54), .val (.int v53), .val (.int v68), .unset] [])) _
      refine XS.iload X59.here hx rfl (hb hby at_89) rfl ?_
      show Steps p.tables e below (T59.setTop (mkF m 91 #[.val (.int p0), .val (.int p1), .val (.int p2), .val (.int p3), .val (.int v48), .val (.int (0 : Int32)), .val (.int v53), .val (.ref b54), .val (.int v53), .val (.int v68), .unset] [(.int v68)])) _
      exact kk)
    by_cases hc70 : v68 = (0 : Int32)
    · obtain ⟨_, _, ⟨T71, L71, k71, n71⟩, -, X71, ⟨Lc71, hQ71, l71, y71, z71⟩, st71⟩ := Jvm.LawKit.callS X59 hx (y := (⟨"java/lang/Math", "min", "(II)I"⟩ : MethodName)) hown (mvT hZ (hw _ (List.mem_of_getElem? (i := 19) rfl))) (mvT hZ (hw _ (List.mem_of_getElem? (i := 20) rfl))) (mvT hZ (hw _ (List.mem_of_getElem? (i := 21) rfl))) (mvT hZ (hw _ (List.mem_of_getElem? (i := 22) rfl))) (by decide) (backOf (W := 0) (own_rm4 l Z av hw [] p2 (v48 - (1 : Int32)) T59.heap n0 z67 ) hZ (hw _ (List.mem_of_getElem? (i := 22) rfl)) (hw _ (List.mem_of_getElem? (i := 21) rfl)) (by decide) (by decide)) (g := (mkF m 99 #[.val (.int p0), .val (.int p1), .val (.int p2), .val (.int p3), .val (.int v48), .val (.int (0 : Int32)), .val (.int v53), .val (.ref b54), .val (.int v53), .val (.int v68), .unset] [(.int (v48 - (1 : Int32))), (.int p2)])) rfl (by rw [hml]; rfl) (argsL := [(.int p2), (.int (v48 - (1 : Int32)))]) (rest := []) (lenOf own_pd2 rfl) rfl (by show 2 * 0 + _ ≤ _; exact Nat.le_of_eq rfl) (hb hby at_99) (fun _ _ => ⟨rfl, rfl, (by decide : 1 + 0 ≤ _), (by decide : 2 + 0 ≤ _)⟩)
      dsimp only [Pt.U, Pt.locs, Pt.cells, Pt.slots] at X71 l71 y71 z71 st71 hQ71
      subst l71 y71 z71
      obtain ⟨rfl, N71q, e73⟩ := hQ71
      have N72 := Fr.app N62 N71q
      obtain ⟨v74, hv74⟩ : ∃ z : Int32, z = (own_f4 p2 (v48 - (1 : Int32))) := ⟨_, rfl⟩
      obtain ⟨cq75, kq75, q75a, q75b, q75c⟩ := isOf hZ e73 f63
      obtain ⟨_, _, ⟨T75, L75, k75, n75⟩, -, X75, ⟨Lc75, hQ75, l75, y75, z75⟩, st75⟩ := X71.virtualBack hx (y := (⟨"archetest/model/Multiplicity", "contains", "(I)Z"⟩ : MethodName)) (z := (⟨"archetest/model/Multiplicity", "contains", "(I)Z"⟩ : MethodName)) hown (mvT hZ (hw _ (List.mem_of_getElem? (i := 23) rfl))) (mvT hZ (hw _ (List.mem_of_getElem? (i := 24) rfl))) (notFace_of_selects (args := #[]) (mvT hZ (hw _ (List.mem_of_getElem? (i := 26) rfl)))) (mvT hZ (hw _ (List.mem_of_getElem? (i := 26) rfl))) (mvT hZ (hw _ (List.mem_of_getElem? (i := 25) rfl))) (by decide) (backOf (W := 0) (own_rm5 l Z av hw [] b54 v74 (v48) (v53) T59.heap n0 z67 f64 f65) hZ (hw _ (List.mem_of_getElem? (i := 27) rfl)) (hw _ (List.mem_of_getElem? (i := 3) rfl)) (by decide) (by decide)) q75a q75c (g := (mkF m 108 #[.val (.int p0), .val (.int p1), .val (.int p2), .val (.int p3), .val (.int v48), .val (.int (0 : Int32)), .val (.int v53), .val (.ref b54), .val (.int v53), .val (.int v68), .val (.int v74)] [(.int v74), (.ref b54)])) rfl (by rw [hml]; rfl) (Steps.refl _) (argsL := [(.int v74)]) (rest := []) (lenOf own_pd3 rfl) rfl (by show 2 * 0 + _ ≤ _; exact Nat.le_of_eq rfl) (hb hby at_108) (fun _ _ => ⟨rfl, e73, (by decide : 1 + 0 ≤ _), (by decide : 2 + 0 ≤ _)⟩)
      dsimp only [Pt.U, Pt.locs, Pt.cells, Pt.slots] at X75 l75 y75 z75 st75 hQ75
      subst l75 y75 z75
      obtain ⟨rfl, N75q, e77⟩ := hQ75
      have N76 := Fr.app N72 N75q
      have pre78 : ∀ t, Steps p.tables e below (T75.setTop (mkF m 111 #[.val (.int p0), .val (.int p1), .val (.int p2), .val (.int p3), .val (.int v48), .val (.int (0 : Int32)), .val (.int v53), .val (.ref b54), .val (.int v53), .val (.int v68), .val (.int v74)] [(.int (own_f5 v48 v53 v74))])) t → Steps p.tables e below (s₁.setTop (entryFrame m #[(.int p0), (.int p1), (.int p2), (.int p3)] maxLocals)) t := fun t kk => pre69 t (by
        show Steps p.tables e below (T59.setTop (mkF m 91 #[.val (.int p0), .val (.int p1), .val (.int p2), .val (.int p3), .val (.int v48), .val (.int (0 : Int32)), .val (.int v53), .val (.ref b54), .val (.int v53), .val (.int v68), .unset] [(.int v68)])) _
        refine XS.ifNo X59.here hx rfl (hb hby at_91) rfl ((if0 _ _).trans (teq hc70).2) ?_
        show Steps p.tables e below (T59.setTop (mkF m 94 #[.val (.int p0), .val (.int p1), .val (.int p2), .val (.int p3), .val (.int v48), .val (.int (0 : Int32)), .val (.int v53), .val (.ref b54), .val (.int v53), .val (.int v68), .unset] [])) _
        refine XS.iloadN X59.here hx rfl (hb hby at_94) rfl ?_
        show Steps p.tables e below (T59.setTop (mkF m 95 #[.val (.int p0), .val (.int p1), .val (.int p2), .val (.int p3), .val (.int v48), .val (.int (0 : Int32)), .val (.int v53), .val (.ref b54), .val (.int v53), .val (.int v68), .unset] [(.int p2)])) _
        refine XS.iload X59.here hx rfl (hb hby at_95) rfl ?_
        show Steps p.tables e below (T59.setTop (mkF m 97 #[.val (.int p0), .val (.int p1), .val (.int p2), .val (.int p3), .val (.int v48), .val (.int (0 : Int32)), .val (.int v53), .val (.ref b54), .val (.int v53), .val (.int v68), .unset] [(.int v48), (.int p2)])) _
        refine XS.iconst X59.here hx rfl (hb hby at_97) ?_
        show Steps p.tables e below (T59.setTop (mkF m 98 #[.val (.int p0), .val (.int p1), .val (.int p2), .val (.int p3), .val (.int v48), .val (.int (0 : Int32)), .val (.int v53), .val (.ref b54), .val (.int v53), .val (.int v68), .unset] [(.int (1 : Int32)), (.int v48), (.int p2)])) _
        refine XS.isub X59.here hx rfl (hb hby at_98) rfl ?_
        show Steps p.tables e below (T59.setTop (mkF m 99 #[.val (.int p0), .val (.int p1), .val (.int p2), .val (.int p3), .val (.int v48), .val (.int (0 : Int32)), .val (.int v53), .val (.ref b54), .val (.int v53), .val (.int v68), .unset] [(.int (v48 - (1 : Int32))), (.int p2)])) _
        refine st71 _ ?_
        show Steps p.tables e below (T71.setTop (mkF m 102 #[.val (.int p0), .val (.int p1), .val (.int p2), .val (.int p3), .val (.int v48), .val (.int (0 : Int32)), .val (.int v53), .val (.ref b54), .val (.int v53), .val (.int v68), .unset] [(.int (own_f4 p2 (v48 - (1 : Int32))))])) _
        refine castTop (congrArg (fun z : Int32 => mkF m 102 #[.val (.int p0), .val (.int p1), .val (.int p2), .val (.int p3), .val (.int v48), .val (.int (0 : Int32)), .val (.int v53), .val (.ref b54), .val (.int v53), .val (.int v68), .unset] [(.int z)]) hv74.symm) ?_
        show Steps p.tables e below (T71.setTop (mkF m 102 #[.val (.int p0), .val (.int p1), .val (.int p2), .val (.int p3), .val (.int v48), .val (.int (0 : Int32)), .val (.int v53), .val (.ref b54), .val (.int v53), .val (.int v68), .unset] [(.int v74)])) _
        refine XS.istore X71.here hx rfl (hb hby at_102) rfl (l' := #[.val (.int p0), .val (.int p1), .val (.int p2), .val (.int p3), .val (.int v48), .val (.int (0 : Int32)), .val (.int v53), .val (.ref b54), .val (.int v53), .val (.int v68), .val (.int v74)]) rfl ?_
        show Steps p.tables e below (T71.setTop (mkF m 104 #[.val (.int p0), .val (.int p1), .val (.int p2), .val (.int p3), .val (.int v48), .val (.int (0 : Int32)), .val (.int v53), .val (.ref b54), .val (.int v53), .val (.int v68), .val (.int v74)] [])) _
        refine XS.aload X71.here hx rfl (hb hby at_104) rfl rfl ?_
        show Steps p.tables e below (T71.setTop (mkF m 106 #[.val (.int p0), .val (.int p1), .val (.int p2), .val (.int p3), .val (.int v48), .val (.int (0 : Int32)), .val (.int v53), .val (.ref b54), .val (.int v53), .val (.int v68), .val (.int v74)] [(.ref b54)])) _
        refine XS.iload X71.here hx rfl (hb hby at_106) rfl ?_
        show Steps p.tables e below (T71.setTop (mkF m 108 #[.val (.int p0), .val (.int p1), .val (.int p2), .val (.int p3), .val (.int v48), .val (.int (0 : Int32)), .val (.int v53), .val (.ref b54), .val (.int v53), .val (.int v68), .val (.int v74)] [(.int v74), (.ref b54)])) _
        refine st75.trans ?_
        show Steps p.tables e below (T75.setTop (mkF m 111 #[.val (.int p0), .val (.int p1), .val (.int p2), .val (.int p3), .val (.int v48), .val (.int (0 : Int32)), .val (.int v53), .val (.ref b54), .val (.int v53), .val (.int v68), .val (.int v74)] [(.int (own_f5 v48 v53 v74))])) _
        exact kk)
      by_cases hc79 : (own_f5 v48 v53 v74) = (0 : Int32)
      · obtain ⟨fs, hr, hrun, hended, hW, hsame⟩ := X75.leave (v := some (.int (1 : Int32))) (fun h => by rw [Bd.returns] at h; cases h)
        refine ⟨_, _, pre78 _ ?_, hrun, hended, _, _, rfl, ?_, ⟨_, rfl⟩, hW, hsame.mono (by decide) (by decide)⟩
        · show Steps p.tables e below (T75.setTop (mkF m 111 #[.val (.int p0), .val (.int p1), .val (.int p2), .val (.int p3), .val (.int v48), .val (.int (0 : Int32)), .val (.int v53), .val (.ref b54), .val (.int v53), .val (.int v68), .val (.int v74)] [(.int (own_f5 v48 v53 v74))])) _
          refine XS.ifNo X75.here hx rfl (hb hby at_111) rfl ((if0 _ _).trans (teq hc79).2) ?_
          show Steps p.tables e below (T75.setTop (mkF m 114 #[.val (.int p0), .val (.int p1), .val (.int p2), .val (.int p3), .val (.int v48), .val (.int (0 : Int32)), .val (.int v53), .val (.ref b54), .val (.int v53), .val (.int v68), .val (.int v74)] [])) _
          refine XS.iconst X75.here hx rfl (hb hby at_114) ?_
          show Steps p.tables e below (T75.setTop (mkF m 115 #[.val (.int p0), .val (.int p1), .val (.int p2), .val (.int p3), .val (.int v48), .val (.int (0 : Int32)), .val (.int v53), .val (.ref b54), .val (.int v53), .val (.int v68), .val (.int v74)] [(.int (1 : Int32))])) _
          refine XS.goto X75.here hx rfl (pc0 := 115) (pc' := 119) rfl (hb hby at_115) (by decide) (by decide) ?_
          show Steps p.tables e below (T75.setTop (mkF m 119 #[.val (.int p0), .val (.int p1), .val (.int p2), .val (.int p3), .val (.int v48), .val (.int (0 : Int32)), .val (.int v53), .val (.ref b54), .val (.int v53), .val (.int v68), .val (.int v74)] [(.int (1 : Int32))])) _
          exact retN X75 hx (t := .boolean) Bd.returns (by simp) (hb hby at_119) hr
        · show own_Q0 Z p0 p1 p2 p3 h0 n0 _ T75.heap _
          rw [e77]
          exact ⟨rfl, N76⟩
      · exact (own_leaf0_2 p0 p1 p2 p3 v48 hv48 hc50 v51 hv51 v53 hv53 v68 hv68 hc70 v74 hv74 hc79).elim
    · have pre80 : ∀ t, Steps p.tables e below (T59.setTop (mkF m 123 #[.val (.int p0), .val (.int p1), .val (.int p2), .val (.int p3), .val (.int v48), .val (.int (0 : Int32)), .val (.int v53), .val (.ref b54), .val (.int v53), .val (.int v68), .unset] [(.int (1 : Int32)), (.int v68)])) t → Steps p.tables e below (s₁.setTop (entryFrame m #[(.int p0), (.int p1), (.int p2), (.int p3)] maxLocals)) t := fun t kk => pre69 t (by
        show Steps p.tables e below (T59.setTop (mkF m 91 #[.val (.int p0), .val (.int p1), .val (.int p2), .val (.int p3), .val (.int v48), .val (.int (0 : Int32)), .val (.int v53), .val (.ref b54), .val (.int v53), .val (.int v68), .unset] [(.int v68)])) _
        refine XS.ifYes X59.here hx rfl (pc0 := 91) (pc' := 120) rfl (hb hby at_91) rfl ((if0 _ _).trans (feq hc70).2) (by decide) (by decide) ?_
        show Steps p.tables e below (T59.setTop (mkF m 120 #[.val (.int p0), .val (.int p1), .val (.int p2), .val (.int p3), .val (.int v48), .val (.int (0 : Int32)), .val (.int v53), .val (.ref b54), .val (.int v53), .val (.int v68), .unset] [])) _
        refine XS.iload X59.here hx rfl (hb hby at_120) rfl ?_
        show Steps p.tables e below (T59.setTop (mkF m 122 #[.val (.int p0), .val (.int p1), .val (.int p2), .val (.int p3), .val (.int v48), .val (.int (0 : Int32)), .val (.int v53), .val (.ref b54), .val (.int v53), .val (.int v68), .unset] [(.int v68)])) _
        refine XS.iconst X59.here hx rfl (hb hby at_122) ?_
        show Steps p.tables e below (T59.setTop (mkF m 123 #[.val (.int p0), .val (.int p1), .val (.int p2), .val (.int p3), .val (.int v48), .val (.int (0 : Int32)), .val (.int v53), .val (.ref b54), .val (.int v53), .val (.int v68), .unset] [(.int (1 : Int32)), (.int v68)])) _
        exact kk)
      by_cases hc81 : v68 = (1 : Int32)
      · obtain ⟨v83, hv83⟩ : ∃ z : Int32, z = ((((p2 &&& (2147483647 : Int32)).toInt64) - (((p2 &&& (2147483647 : Int32)).toInt64) / (((v53 - v48).toInt64) + (1 : Int64))) * (((v53 - v48).toInt64) + (1 : Int64))).toInt32) := ⟨_, rfl⟩
        obtain ⟨cq84, kq84, q84a, q84b, q84c⟩ := isOf hZ rfl f63
        obtain ⟨_, _, ⟨T84, L84, k84, n84⟩, -, X84, ⟨Lc84, hQ84, l84, y84, z84⟩, st84⟩ := X59.virtualBack hx (y := (⟨"archetest/model/Multiplicity", "contains", "(I)Z"⟩ : MethodName)) (z := (⟨"archetest/model/Multiplicity", "contains", "(I)Z"⟩ : MethodName)) hown (mvT hZ (hw _ (List.mem_of_getElem? (i := 23) rfl))) (mvT hZ (hw _ (List.mem_of_getElem? (i := 24) rfl))) (notFace_of_selects (args := #[]) (mvT hZ (hw _ (List.mem_of_getElem? (i := 26) rfl)))) (mvT hZ (hw _ (List.mem_of_getElem? (i := 26) rfl))) (mvT hZ (hw _ (List.mem_of_getElem? (i := 25) rfl))) (by decide) (backOf (W := 0) (own_rm5 l Z av hw [] b54 (v48 + v83) (v48) (v53) T59.heap n0 z67 f64 f65) hZ (hw _ (List.mem_of_getElem? (i := 27) rfl)) (hw _ (List.mem_of_getElem? (i := 3) rfl)) (by decide) (by decide)) q84a q84c (g := (mkF m 150 #[.val (.int p0), .val (.int p1), .val (.int p2), .val (.int p3), .val (.int v48), .val (.int (0 : Int32)), .val (.int v53), .val (.ref b54), .val (.int v53), .val (.int v68), .val (.int v83)] [(.int (v48 + v83)), (.ref b54)])) rfl (by rw [hml]; rfl) (Steps.refl _) (argsL := [(.int (v48 + v83))]) (rest := []) (lenOf own_pd3 rfl) rfl (by show 2 * 0 + _ ≤ _; exact Nat.le_of_eq rfl) (hb hby at_150) (fun _ _ => ⟨rfl, rfl, (by decide : 1 + 0 ≤ _), (by decide : 2 + 0 ≤ _)⟩)
        dsimp only [Pt.U, Pt.locs, Pt.cells, Pt.slots] at X84 l84 y84 z84 st84 hQ84
        subst l84 y84 z84
        obtain ⟨rfl, N84q, e86⟩ := hQ84
        have N85 := Fr.app N62 N84q
        obtain ⟨fs, hr, hrun, hended, hW, hsame⟩ := X84.leave (v := some (.int (nar .boolean (own_f5 v48 v53 (v48 + v83))))) (fun h => by rw [Bd.returns] at h; cases h)
        refine ⟨_, _, pre80 _ ?_, hrun, hended, _, _, rfl, ?_, ⟨_, rfl⟩, hW, hsame.mono (by decide) (by decide)⟩
        · show Steps p.tables e below (T59.setTop (mkF m 123 #[.val (.int p0), .val (.int p1), .val (.int p2), .val (.int p3), .val (.int v48), .val (.int (0 : Int32)), .val (.int v53), .val (.ref b54), .val (.int v53), .val (.int v68), .unset] [(.int (1 : Int32)), (.int v68)])) _
          refine XS.icmpNo X59.here hx rfl (hb hby at_123) rfl (teq hc81).2 ?_
          show Steps p.tables e below (T59.setTop (mkF m 126 #[.val (.int p0), .val (.int p1), .val (.int p2), .val (.int p3), .val (.int v48), .val (.int (0 : Int32)), .val (.int v53), .val (.ref b54), .val (.int v53), .val (.int v68), .unset] [])) _
          refine XS.iloadN X59.here hx rfl (hb hby at_126) rfl ?_
          show Steps p.tables e below (T59.setTop (mkF m 127 #[.val (.int p0), .val (.int p1), .val (.int p2), .val (.int p3), .val (.int v48), .val (.int (0 : Int32)), .val (.int v53), .val (.ref b54), .val (.int v53), .val (.int v68), .unset] [(.int p2)])) _
          refine X59.ldcInt hx hown (mvT hZ (hw _ (List.mem_of_getElem? (i := 0) rfl))) (g := (mkF m 127 #[.val (.int p0), .val (.int p1), .val (.int p2), .val (.int p3), .val (.int v48), .val (.int (0 : Int32)), .val (.int v53), .val (.ref b54), .val (.int v53), .val (.int v68), .unset] [(.int p2)])) rfl (hb hby at_127) _ ?_
          show Steps p.tables e below (T59.setTop (mkF m 129 #[.val (.int p0), .val (.int p1), .val (.int p2), .val (.int p3), .val (.int v48), .val (.int (0 : Int32)), .val (.int v53), .val (.ref b54), .val (.int v53), .val (.int v68), .unset] [(.int (2147483647 : Int32)), (.int p2)])) _
          refine XS.iand X59.here hx rfl (hb hby at_129) rfl ?_
          show Steps p.tables e below (T59.setTop (mkF m 130 #[.val (.int p0), .val (.int p1), .val (.int p2), .val (.int p3), .val (.int v48), .val (.int (0 : Int32)), .val (.int v53), .val (.ref b54), .val (.int v53), .val (.int v68), .unset] [(.int (p2 &&& (2147483647 : Int32)))])) _
          refine XS.i2l X59.here hx rfl (hb hby at_130) rfl ?_
          show Steps p.tables e below (T59.setTop (mkF m 131 #[.val (.int p0), .val (.int p1), .val (.int p2), .val (.int p3), .val (.int v48), .val (.int (0 : Int32)), .val (.int v53), .val (.ref b54), .val (.int v53), .val (.int v68), .unset] [(.long ((p2 &&& (2147483647 : Int32)).toInt64))])) _
          refine XS.iload X59.here hx rfl (hb hby at_131) rfl ?_
          show Steps p.tables e below (T59.setTop (mkF m 133 #[.val (.int p0), .val (.int p1), .val (.int p2), .val (.int p3), .val (.int v48), .val (.int (0 : Int32)), .val (.int v53), .val (.ref b54), .val (.int v53), .val (.int v68), .unset] [(.int v53), (.long ((p2 &&& (2147483647 : Int32)).toInt64))])) _
          refine XS.iload X59.here hx rfl (hb hby at_133) rfl ?_
          show Steps p.tables e below (T59.setTop (mkF m 135 #[.val (.int p0), .val (.int p1), .val (.int p2), .val (.int p3), .val (.int v48), .val (.int (0 : Int32)), .val (.int v53), .val (.ref b54), .val (.int v53), .val (.int v68), .unset] [(.int v48), (.int v53), (.long ((p2 &&& (2147483647 : Int32)).toInt64))])) _
          refine XS.isub X59.here hx rfl (hb hby at_135) rfl ?_
          show Steps p.tables e below (T59.setTop (mkF m 136 #[.val (.int p0), .val (.int p1), .val (.int p2), .val (.int p3), .val (.int v48), .val (.int (0 : Int32)), .val (.int v53), .val (.ref b54), .val (.int v53), .val (.int v68), .unset] [(.int (v53 - v48)), (.long ((p2 &&& (2147483647 : Int32)).toInt64))])) _
          refine XS.i2l X59.here hx rfl (hb hby at_136) rfl ?_
          show Steps p.tables e below (T59.setTop (mkF m 137 #[.val (.int p0), .val (.int p1), .val (.int p2), .val (.int p3), .val (.int v48), .val (.int (0 : Int32)), .val (.int v53), .val (.ref b54), .val (.int v53), .val (.int v68), .unset] [(.long ((v53 - v48).toInt64)), (.long ((p2 &&& (2147483647 : Int32)).toInt64))])) _
          refine XS.lconst X59.here hx rfl (hb hby at_137) ?_
          show Steps p.tables e below (T59.setTop (mkF m 138 #[.val (.int p0), .val (.int p1), .val (.int p2), .val (.int p3), .val (.int v48), .val (.int (0 : Int32)), .val (.int v53), .val (.ref b54), .val (.int v53), .val (.int v68), .unset] [(.long (1 : Int64)), (.long ((v53 - v48).toInt64)), (.long ((p2 &&& (2147483647 : Int32)).toInt64))])) _
          refine XS.ladd X59.here hx rfl (hb hby at_138) rfl ?_
          show Steps p.tables e below (T59.setTop (mkF m 139 #[.val (.int p0), .val (.int p1), .val (.int p2), .val (.int p3), .val (.int v48), .val (.int (0 : Int32)), .val (.int v53), .val (.ref b54), .val (.int v53), .val (.int v68), .unset] [(.long (((v53 - v48).toInt64) + (1 : Int64))), (.long ((p2 &&& (2147483647 : Int32)).toInt64))])) _
          refine XS.lrem X59.here hx rfl (hb hby at_139) rfl (own_side82 p0 p1 v48 hv48 v51 hv51 v53 hv53) ?_
          show Steps p.tables e below (T59.setTop (mkF m 140 #[.val (.int p0), .val (.int p1), .val (.int p2), .val (.int p3), .val (.int v48), .val (.int (0 : Int32)), .val (.int v53), .val (.ref b54), .val (.int v53), .val (.int v68), .unset] [(.long (((p2 &&& (2147483647 : Int32)).toInt64) - (((p2 &&& (2147483647 : Int32)).toInt64) / (((v53 - v48).toInt64) + (1 : Int64))) * (((v53 - v48).toInt64) + (1 : Int64))))])) _
          refine XS.l2i X59.here hx rfl (hb hby at_140) rfl ?_
          show Steps p.tables e below (T59.setTop (mkF m 141 #[.val (.int p0), .val (.int p1), .val (.int p2), .val (.int p3), .val (.int v48), .val (.int (0 : Int32)), .val (.int v53), .val (.ref b54), .val (.int v53), .val (.int v68), .unset] [(.int ((((p2 &&& (2147483647 : Int32)).toInt64) - (((p2 &&& (2147483647 : Int32)).toInt64) / (((v53 - v48).toInt64) + (1 : Int64))) * (((v53 - v48).toInt64) + (1 : Int64))).toInt32))])) _
          refine castTop (congrArg (fun z : Int32 => mkF m 141 #[.val (.int p0), .val (.int p1), .val (.int p2), .val (.int p3), .val (.int v48), .val (.int (0 : Int32)), .val (.int v53), .val (.ref b54), .val (.int v53), .val (.int v68), .unset] [(.int z)]) hv83.symm) ?_
          show Steps p.tables e below (T59.setTop (mkF m 141 #[.val (.int p0), .val (.int p1), .val (.int p2), .val (.int p3), .val (.int v48), .val (.int (0 : Int32)), .val (.int v53), .val (.ref b54), .val (.int v53), .val (.int v68), .unset] [(.int v83)])) _
          refine XS.istore X59.here hx rfl (hb hby at_141) rfl (l' := #[.val (.int p0), .val (.int p1), .val (.int p2), .val (.int p3), .val (.int v48), .val (.int (0 : Int32)), .val (.int v53), .val (.ref b54), .val (.int v53), .val (.int v68), .val (.int v83)]) rfl ?_
          show Steps p.tables e below (T59.setTop (mkF m 143 #[.val (.int p0), .val (.int p1), .val (.int p2), .val (.int p3), .val (.int v48), .val (.int (0 : Int32)), .val (.int v53), .val (.ref b54), .val (.int v53), .val (.int v68), .val (.int v83)] [])) _
          refine XS.aload X59.here hx rfl (hb hby at_143) rfl rfl ?_
          show Steps p.tables e below (T59.setTop (mkF m 145 #[.val (.int p0), .val (.int p1), .val (.int p2), .val (.int p3), .val (.int v48), .val (.int (0 : Int32)), .val (.int v53), .val (.ref b54), .val (.int v53), .val (.int v68), .val (.int v83)] [(.ref b54)])) _
          refine XS.iload X59.here hx rfl (hb hby at_145) rfl ?_
          show Steps p.tables e below (T59.setTop (mkF m 147 #[.val (.int p0), .val (.int p1), .val (.int p2), .val (.int p3), .val (.int v48), .val (.int (0 : Int32)), .val (.int v53), .val (.ref b54), .val (.int v53), .val (.int v68), .val (.int v83)] [(.int v48), (.ref b54)])) _
          refine XS.iload X59.here hx rfl (hb hby at_147) rfl ?_
          show Steps p.tables e below (T59.setTop (mkF m 149 #[.val (.int p0), .val (.int p1), .val (.int p2), .val (.int p3), .val (.int v48), .val (.int (0 : Int32)), .val (.int v53), .val (.ref b54), .val (.int v53), .val (.int v68), .val (.int v83)] [(.int v83), (.int v48), (.ref b54)])) _
          refine XS.iadd X59.here hx rfl (hb hby at_149) rfl ?_
          show Steps p.tables e below (T59.setTop (mkF m 150 #[.val (.int p0), .val (.int p1), .val (.int p2), .val (.int p3), .val (.int v48), .val (.int (0 : Int32)), .val (.int v53), .val (.ref b54), .val (.int v53), .val (.int v68), .val (.int v83)] [(.int (v48 + v83)), (.ref b54)])) _
          refine st84.trans ?_
          show Steps p.tables e below (T84.setTop (mkF m 153 #[.val (.int p0), .val (.int p1), .val (.int p2), .val (.int p3), .val (.int v48), .val (.int (0 : Int32)), .val (.int v53), .val (.ref b54), .val (.int v53), .val (.int v68), .val (.int v83)] [(.int (own_f5 v48 v53 (v48 + v83)))])) _
          exact retN X84 hx (t := .boolean) Bd.returns (by simp) (hb hby at_153) hr
        · show own_Q0 Z p0 p1 p2 p3 h0 n0 _ T84.heap _
          rw [e86]
          exact ⟨(by rw [(own_side87 p0 p1 p2 v48 hv48 v51 hv51 v53 hv53 v83 hv83)]; rfl), N85⟩
      · have pre88 : ∀ t, Steps p.tables e below (T59.setTop (mkF m 157 #[.val (.int p0), .val (.int p1), .val (.int p2), .val (.int p3), .val (.int v48), .val (.int (0 : Int32)), .val (.int v53), .val (.ref b54), .val (.int v53), .val (.int v68), .unset] [(.int (2 : Int32)), (.int v68)])) t → Steps p.tables e below (s₁.setTop (entryFrame m #[(.int p0), (.int p1), (.int p2), (.int p3)] maxLocals)) t := fun t kk => pre80 t (by
          show Steps p.tables e below (T59.setTop (mkF m 123 #[.val (.int p0), .val (.int p1), .val (.int p2), .val (.int p3), .val (.int v48), .val (.int (0 : Int32)), .val (.int v53), .val (.ref b54), .val (.int v53), .val (.int v68), .unset] [(.int (1 : Int32)), (.int v68)])) _
          refine XS.icmpYes X59.here hx rfl (pc0 := 123) (pc' := 154) rfl (hb hby at_123) rfl (feq hc81).2 (by decide) (by decide) ?_
          show Steps p.tables e below (T59.setTop (mkF m 154 #[.val (.int p0), .val (.int p1), .val (.int p2), .val (.int p3), .val (.int v48), .val (.int (0 : Int32)), .val (.int v53), .val (.ref b54), .val (.int v53), .val (.int v68), .unset] [])) _
          refine XS.iload X59.here hx rfl (hb hby at_154) rfl ?_
          show Steps p.tables e below (T59.setTop (mkF m 156 #[.val (.int p0), .val (.int p1), .val (.int p2), .val (.int p3), .val (.int v48), .val (.int (0 : Int32)), .val (.int v53), .val (.ref b54), .val (.int v53), .val (.int v68), .unset] [(.int v68)])) _
          refine XS.iconst X59.here hx rfl (hb hby at_156) ?_
          show Steps p.tables e below (T59.setTop (mkF m 157 #[.val (.int p0), .val (.int p1), .val (.int p2), .val (.int p3), .val (.int v48), .val (.int (0 : Int32)), .val (.int v53), .val (.ref b54), .val (.int v53), .val (.int v68), .unset] [(.int (2 : Int32)), (.int v68)])) _
          exact kk)
        by_cases hc89 : v68 = (2 : Int32)
        · have pre90 : ∀ t, Steps p.tables e below (T59.setTop (mkF m 164 #[.val (.int p0), .val (.int p1), .val (.int p2), .val (.int p3), .val (.int v48), .val (.int (0 : Int32)), .val (.int v53), .val (.ref b54), .val (.int v53), .val (.int v68), .unset] [(.int (2147483647 : Int32)), (.int v53)])) t → Steps p.tables e below (s₁.setTop (entryFrame m #[(.int p0), (.int p1), (.int p2), (.int p3)] maxLocals)) t := fun t kk => pre88 t (by
            show Steps p.tables e below (T59.setTop (mkF m 157 #[.val (.int p0), .val (.int p1), .val (.int p2), .val (.int p3), .val (.int v48), .val (.int (0 : Int32)), .val (.int v53), .val (.ref b54), .val (.int v53), .val (.int v68), .unset] [(.int (2 : Int32)), (.int v68)])) _
            refine XS.icmpNo X59.here hx rfl (hb hby at_157) rfl (teq hc89).2 ?_
            show Steps p.tables e below (T59.setTop (mkF m 160 #[.val (.int p0), .val (.int p1), .val (.int p2), .val (.int p3), .val (.int v48), .val (.int (0 : Int32)), .val (.int v53), .val (.ref b54), .val (.int v53), .val (.int v68), .unset] [])) _
            refine XS.iload X59.here hx rfl (hb hby at_160) rfl ?_
            show Steps p.tables e below (T59.setTop (mkF m 162 #[.val (.int p0), .val (.int p1), .val (.int p2), .val (.int p3), .val (.int v48), .val (.int (0 : Int32)), .val (.int v53), .val (.ref b54), .val (.int v53), .val (.int v68), .unset] [(.int v53)])) _
            refine X59.ldcInt hx hown (mvT hZ (hw _ (List.mem_of_getElem? (i := 0) rfl))) (g := (mkF m 162 #[.val (.int p0), .val (.int p1), .val (.int p2), .val (.int p3), .val (.int v48), .val (.int (0 : Int32)), .val (.int v53), .val (.ref b54), .val (.int v53), .val (.int v68), .unset] [(.int v53)])) rfl (hb hby at_162) _ ?_
            show Steps p.tables e below (T59.setTop (mkF m 164 #[.val (.int p0), .val (.int p1), .val (.int p2), .val (.int p3), .val (.int v48), .val (.int (0 : Int32)), .val (.int v53), .val (.ref b54), .val (.int v53), .val (.int v68), .unset] [(.int (2147483647 : Int32)), (.int v53)])) _
            exact kk)
          by_cases hc91 : v53 = (2147483647 : Int32)
          · obtain ⟨cq92, kq92, q92a, q92b, q92c⟩ := isOf hZ rfl f63
            obtain ⟨_, _, ⟨T92, L92, k92, n92⟩, -, X92, ⟨Lc92, hQ92, l92, y92, z92⟩, st92⟩ := X59.virtualBack hx (y := (⟨"archetest/model/Multiplicity", "contains", "(I)Z"⟩ : MethodName)) (z := (⟨"archetest/model/Multiplicity", "contains", "(I)Z"⟩ : MethodName)) hown (mvT hZ (hw _ (List.mem_of_getElem? (i := 23) rfl))) (mvT hZ (hw _ (List.mem_of_getElem? (i := 24) rfl))) (notFace_of_selects (args := #[]) (mvT hZ (hw _ (List.mem_of_getElem? (i := 26) rfl)))) (mvT hZ (hw _ (List.mem_of_getElem? (i := 26) rfl))) (mvT hZ (hw _ (List.mem_of_getElem? (i := 25) rfl))) (by decide) (backOf (W := 0) (own_rm5 l Z av hw [] b54 (2147483647 : Int32) (v48) (v53) T59.heap n0 z67 f64 f65) hZ (hw _ (List.mem_of_getElem? (i := 27) rfl)) (hw _ (List.mem_of_getElem? (i := 3) rfl)) (by decide) (by decide)) q92a q92c (g := (mkF m 171 #[.val (.int p0), .val (.int p1), .val (.int p2), .val (.int p3), .val (.int v48), .val (.int (0 : Int32)), .val (.int v53), .val (.ref b54), .val (.int v53), .val (.int v68), .unset] [(.int (2147483647 : Int32)), (.ref b54)])) rfl (by rw [hml]; rfl) (Steps.refl _) (argsL := [(.int (2147483647 : Int32))]) (rest := []) (lenOf own_pd3 rfl) rfl (by show 2 * 0 + _ ≤ _; exact Nat.le_of_eq rfl) (hb hby at_171) (fun _ _ => ⟨rfl, rfl, (by decide : 1 + 0 ≤ _), (by decide : 2 + 0 ≤ _)⟩)
            dsimp only [Pt.U, Pt.locs, Pt.cells, Pt.slots] at X92 l92 y92 z92 st92 hQ92
            subst l92 y92 z92
            obtain ⟨rfl, N92q, e94⟩ := hQ92
            have N93 := Fr.app N62 N92q
            have pre95 : ∀ t, Steps p.tables e below (T92.setTop (mkF m 174 #[.val (.int p0), .val (.int p1), .val (.int p2), .val (.int p3), .val (.int v48), .val (.int (0 : Int32)), .val (.int v53), .val (.ref b54), .val (.int v53), .val (.int v68), .unset] [(.int (own_f5 v48 v53 (2147483647 : Int32)))])) t → Steps p.tables e below (s₁.setTop (entryFrame m #[(.int p0), (.int p1), (.int p2), (.int p3)] maxLocals)) t := fun t kk => pre90 t (by
              show Steps p.tables e below (T59.setTop (mkF m 164 #[.val (.int p0), .val (.int p1), .val (.int p2), .val (.int p3), .val (.int v48), .val (.int (0 : Int32)), .val (.int v53), .val (.ref b54), .val (.int v53), .val (.int v68), .unset] [(.int (2147483647 : Int32)), (.int v53)])) _
              refine XS.icmpNo X59.here hx rfl (hb hby at_164) rfl (teq hc91).2 ?_
              show Steps p.tables e below (T59.setTop (mkF m 167 #[.val (.int p0), .val (.int p1), .val (.int p2), .val (.int p3), .val (.int v48), .val (.int (0 : Int32)), .val (.int v53), .val (.ref b54), .val (.int v53), .val (.int v68), .unset] [])) _
              refine XS.aload X59.here hx rfl (hb hby at_167) rfl rfl ?_
              show Steps p.tables e below (T59.setTop (mkF m 169 #[.val (.int p0), .val (.int p1), .val (.int p2), .val (.int p3), .val (.int v48), .val (.int (0 : Int32)), .val (.int v53), .val (.ref b54), .val (.int v53), .val (.int v68), .unset] [(.ref b54)])) _
              refine X59.ldcInt hx hown (mvT hZ (hw _ (List.mem_of_getElem? (i := 0) rfl))) (g := (mkF m 169 #[.val (.int p0), .val (.int p1), .val (.int p2), .val (.int p3), .val (.int v48), .val (.int (0 : Int32)), .val (.int v53), .val (.ref b54), .val (.int v53), .val (.int v68), .unset] [(.ref b54)])) rfl (hb hby at_169) _ ?_
              show Steps p.tables e below (T59.setTop (mkF m 171 #[.val (.int p0), .val (.int p1), .val (.int p2), .val (.int p3), .val (.int v48), .val (.int (0 : Int32)), .val (.int v53), .val (.ref b54), .val (.int v53), .val (.int v68), .unset] [(.int (2147483647 : Int32)), (.ref b54)])) _
              refine st92.trans ?_
              show Steps p.tables e below (T92.setTop (mkF m 174 #[.val (.int p0), .val (.int p1), .val (.int p2), .val (.int p3), .val (.int v48), .val (.int (0 : Int32)), .val (.int v53), .val (.ref b54), .val (.int v53), .val (.int v68), .unset] [(.int (own_f5 v48 v53 (2147483647 : Int32)))])) _
              exact kk)
            by_cases hc96 : (own_f5 v48 v53 (2147483647 : Int32)) = (0 : Int32)
            · exact (own_leaf0_4 p0 p1 p2 p3 v48 hv48 hc50 v51 hv51 v53 hv53 v68 hv68 hc70 hc81 hc89 hc91 hc96).elim
            · obtain ⟨cq97, kq97, q97a, q97b, q97c⟩ := isOf hZ e94 f63
              obtain ⟨_, _, ⟨T97, L97, k97, n97⟩, -, X97, ⟨Lc97, hQ97, l97, y97, z97⟩, st97⟩ := X92.virtualBack hx (y := (⟨"archetest/model/Multiplicity", "contains", "(I)Z"⟩ : MethodName)) (z := (⟨"archetest/model/Multiplicity", "contains", "(I)Z"⟩ : MethodName)) hown (mvT hZ (hw _ (List.mem_of_getElem? (i := 23) rfl))) (mvT hZ (hw _ (List.mem_of_getElem? (i := 24) rfl))) (notFace_of_selects (args := #[]) (mvT hZ (hw _ (List.mem_of_getElem? (i := 26) rfl)))) (mvT hZ (hw _ (List.mem_of_getElem? (i := 26) rfl))) (mvT hZ (hw _ (List.mem_of_getElem? (i := 25) rfl))) (by decide) (backOf (W := 0) (own_rm5 l Z av hw [] b54 (-2147483648 : Int32) (v48) (v53) T59.heap n0 z67 f64 f65) hZ (hw _ (List.mem_of_getElem? (i := 27) rfl)) (hw _ (List.mem_of_getElem? (i := 3) rfl)) (by decide) (by decide)) q97a q97c (g := (mkF m 181 #[.val (.int p0), .val (.int p1), .val (.int p2), .val (.int p3), .val (.int v48), .val (.int (0 : Int32)), .val (.int v53), .val (.ref b54), .val (.int v53), .val (.int v68), .unset] [(.int (-2147483648 : Int32)), (.ref b54)])) rfl (by rw [hml]; rfl) (Steps.refl _) (argsL := [(.int (-2147483648 : Int32))]) (rest := []) (lenOf own_pd3 rfl) rfl (by show 2 * 0 + _ ≤ _; exact Nat.le_of_eq rfl) (hb hby at_181) (fun _ _ => ⟨rfl, e94, (by decide : 1 + 0 ≤ _), (by decide : 2 + 0 ≤ _)⟩)
              dsimp only [Pt.U, Pt.locs, Pt.cells, Pt.slots] at X97 l97 y97 z97 st97 hQ97
              subst l97 y97 z97
              obtain ⟨rfl, N97q, e99⟩ := hQ97
              have N98 := Fr.app N93 N97q
              have pre100 : ∀ t, Steps p.tables e below (T97.setTop (mkF m 184 #[.val (.int p0), .val (.int p1), .val (.int p2), .val (.int p3), .val (.int v48), .val (.int (0 : Int32)), .val (.int v53), .val (.ref b54), .val (.int v53), .val (.int v68), .unset] [(.int (own_f5 v48 v53 (-2147483648 : Int32)))])) t → Steps p.tables e below (s₁.setTop (entryFrame m #[(.int p0), (.int p1), (.int p2), (.int p3)] maxLocals)) t := fun t kk => pre95 t (by
                show Steps p.tables e below (T92.setTop (mkF m 174 #[.val (.int p0), .val (.int p1), .val (.int p2), .val (.int p3), .val (.int v48), .val (.int (0 : Int32)), .val (.int v53), .val (.ref b54), .val (.int v53), .val (.int v68), .unset] [(.int (own_f5 v48 v53 (2147483647 : Int32)))])) _
                refine XS.ifNo X92.here hx rfl (hb hby at_174) rfl ((if0 _ _).trans (feq hc96).1) ?_
                show Steps p.tables e below (T92.setTop (mkF m 177 #[.val (.int p0), .val (.int p1), .val (.int p2), .val (.int p3), .val (.int v48), .val (.int (0 : Int32)), .val (.int v53), .val (.ref b54), .val (.int v53), .val (.int v68), .unset] [])) _
                refine XS.aload X92.here hx rfl (hb hby at_177) rfl rfl ?_
                show Steps p.tables e below (T92.setTop (mkF m 179 #[.val (.int p0), .val (.int p1), .val (.int p2), .val (.int p3), .val (.int v48), .val (.int (0 : Int32)), .val (.int v53), .val (.ref b54), .val (.int v53), .val (.int v68), .unset] [(.ref b54)])) _
                refine X92.ldcInt hx hown (mvT hZ (hw _ (List.mem_of_getElem? (i := 32) rfl))) (g := (mkF m 179 #[.val (.int p0), .val (.int p1), .val (.int p2), .val (.int p3), .val (.int v48), .val (.int (0 : Int32)), .val (.int v53), .val (.ref b54), .val (.int v53), .val (.int v68), .unset] [(.ref b54)])) rfl (hb hby at_179) _ ?_
                show Steps p.tables e below (T92.setTop (mkF m 181 #[.val (.int p0), .val (.int p1), .val (.int p2), .val (.int p3), .val (.int v48), .val (.int (0 : Int32)), .val (.int v53), .val (.ref b54), .val (.int v53), .val (.int v68), .unset] [(.int (-2147483648 : Int32)), (.ref b54)])) _
                refine st97.trans ?_
                show Steps p.tables e below (T97.setTop (mkF m 184 #[.val (.int p0), .val (.int p1), .val (.int p2), .val (.int p3), .val (.int v48), .val (.int (0 : Int32)), .val (.int v53), .val (.ref b54), .val (.int v53), .val (.int v68), .unset] [(.int (own_f5 v48 v53 (-2147483648 : Int32)))])) _
                exact kk)
              by_cases hc101 : (own_f5 v48 v53 (-2147483648 : Int32)) = (0 : Int32)
              · obtain ⟨fs, hr, hrun, hended, hW, hsame⟩ := X97.leave (v := some (.int (1 : Int32))) (fun h => by rw [Bd.returns] at h; cases h)
                refine ⟨_, _, pre100 _ ?_, hrun, hended, _, _, rfl, ?_, ⟨_, rfl⟩, hW, hsame.mono (by decide) (by decide)⟩
                · show Steps p.tables e below (T97.setTop (mkF m 184 #[.val (.int p0), .val (.int p1), .val (.int p2), .val (.int p3), .val (.int v48), .val (.int (0 : Int32)), .val (.int v53), .val (.ref b54), .val (.int v53), .val (.int v68), .unset] [(.int (own_f5 v48 v53 (-2147483648 : Int32)))])) _
                  refine XS.ifNo X97.here hx rfl (hb hby at_184) rfl ((if0 _ _).trans (teq hc101).2) ?_
                  show Steps p.tables e below (T97.setTop (mkF m 187 #[.val (.int p0), .val (.int p1), .val (.int p2), .val (.int p3), .val (.int v48), .val (.int (0 : Int32)), .val (.int v53), .val (.ref b54), .val (.int v53), .val (.int v68), .unset] [])) _
                  refine XS.iconst X97.here hx rfl (hb hby at_187) ?_
                  show Steps p.tables e below (T97.setTop (mkF m 188 #[.val (.int p0), .val (.int p1), .val (.int p2), .val (.int p3), .val (.int v48), .val (.int (0 : Int32)), .val (.int v53), .val (.ref b54), .val (.int v53), .val (.int v68), .unset] [(.int (1 : Int32))])) _
                  refine XS.goto X97.here hx rfl (pc0 := 188) (pc' := 192) rfl (hb hby at_188) (by decide) (by decide) ?_
                  show Steps p.tables e below (T97.setTop (mkF m 192 #[.val (.int p0), .val (.int p1), .val (.int p2), .val (.int p3), .val (.int v48), .val (.int (0 : Int32)), .val (.int v53), .val (.ref b54), .val (.int v53), .val (.int v68), .unset] [(.int (1 : Int32))])) _
                  exact retN X97 hx (t := .boolean) Bd.returns (by simp) (hb hby at_192) hr
                · show own_Q0 Z p0 p1 p2 p3 h0 n0 _ T97.heap _
                  rw [e99]
                  exact ⟨rfl, N98⟩
              · exact (own_leaf0_6 p0 p1 p2 p3 v48 hv48 hc50 v51 hv51 v53 hv53 v68 hv68 hc70 hc81 hc89 hc91 hc96 hc101).elim
          · obtain ⟨_, _, ⟨T102, L102, k102, n102⟩, -, X102, ⟨Lc102, hQ102, l102, y102, z102⟩, st102⟩ := Jvm.LawKit.callS X59 hx (y := (⟨"java/lang/Math", "max", "(II)I"⟩ : MethodName)) hown (mvT hZ (hw _ (List.mem_of_getElem? (i := 29) rfl))) (mvT hZ (hw _ (List.mem_of_getElem? (i := 30) rfl))) (mvT hZ (hw _ (List.mem_of_getElem? (i := 21) rfl))) (mvT hZ (hw _ (List.mem_of_getElem? (i := 31) rfl))) (by decide) (backOf (W := 0) (own_rm6 l Z av hw [] p2 (v53 + (1 : Int32)) T59.heap n0 z67 ) hZ (hw _ (List.mem_of_getElem? (i := 31) rfl)) (hw _ (List.mem_of_getElem? (i := 21) rfl)) (by decide) (by decide)) (g := (mkF m 198 #[.val (.int p0), .val (.int p1), .val (.int p2), .val (.int p3), .val (.int v48), .val (.int (0 : Int32)), .val (.int v53), .val (.ref b54), .val (.int v53), .val (.int v68), .unset] [(.int (v53 + (1 : Int32))), (.int p2)])) rfl (by rw [hml]; rfl) (argsL := [(.int p2), (.int (v53 + (1 : Int32)))]) (rest := []) (lenOf own_pd2 rfl) rfl (by show 2 * 0 + _ ≤ _; exact Nat.le_of_eq rfl) (hb hby at_198) (fun _ _ => ⟨rfl, rfl, (by decide : 1 + 0 ≤ _), (by decide : 2 + 0 ≤ _)⟩)
            dsimp only [Pt.U, Pt.locs, Pt.cells, Pt.slots] at X102 l102 y102 z102 st102 hQ102
            subst l102 y102 z102
            obtain ⟨rfl, N102q, e104⟩ := hQ102
            have N103 := Fr.app N62 N102q
            obtain ⟨v105, hv105⟩ : ∃ z : Int32, z = (own_f6 p2 (v53 + (1 : Int32))) := ⟨_, rfl⟩
            obtain ⟨cq106, kq106, q106a, q106b, q106c⟩ := isOf hZ e104 f63
            obtain ⟨_, _, ⟨T106, L106, k106, n106⟩, -, X106, ⟨Lc106, hQ106, l106, y106, z106⟩, st106⟩ := X102.virtualBack hx (y := (⟨"archetest/model/Multiplicity", "contains", "(I)Z"⟩ : MethodName)) (z := (⟨"archetest/model/Multiplicity", "contains", "(I)Z"⟩ : MethodName)) hown (mvT hZ (hw _ (List.mem_of_getElem? (i := 23) rfl))) (mvT hZ (hw _ (List.mem_of_getElem? (i := 24) rfl))) (notFace_of_selects (args := #[]) (mvT hZ (hw _ (List.mem_of_getElem? (i := 26) rfl)))) (mvT hZ (hw _ (List.mem_of_getElem? (i := 26) rfl))) (mvT hZ (hw _ (List.mem_of_getElem? (i := 25) rfl))) (by decide) (backOf (W := 0) (own_rm5 l Z av hw [] b54 v105 (v48) (v53) T59.heap n0 z67 f64 f65) hZ (hw _ (List.mem_of_getElem? (i := 27) rfl)) (hw _ (List.mem_of_getElem? (i := 3) rfl)) (by decide) (by decide)) q106a q106c (g := (mkF m 207 #[.val (.int p0), .val (.int p1), .val (.int p2), .val (.int p3), .val (.int v48), .val (.int (0 : Int32)), .val (.int v53), .val (.ref b54), .val (.int v53), .val (.int v68), .val (.int v105)] [(.int v105), (.ref b54)])) rfl (by rw [hml]; rfl) (Steps.refl _) (argsL := [(.int v105)]) (rest := []) (lenOf own_pd3 rfl) rfl (by show 2 * 0 + _ ≤ _; exact Nat.le_of_eq rfl) (hb hby at_207) (fun _ _ => ⟨rfl, e104, (by decide : 1 + 0 ≤ _), (by decide : 2 + 0 ≤ _)⟩)
            dsimp only [Pt.U, Pt.locs, Pt.cells, Pt.slots] at X106 l106 y106 z106 st106 hQ106
            subst l106 y106 z106
            obtain ⟨rfl, N106q, e108⟩ := hQ106
            have N107 := Fr.app N103 N106q
            have pre109 : ∀ t, Steps p.tables e below (T106.setTop (mkF m 210 #[.val (.int p0), .val (.int p1), .val (.int p2), .val (.int p3), .val (.int v48), .val (.int (0 : Int32)), .val (.int v53), .val (.ref b54), .val (.int v53), .val (.int v68), .val (.int v105)] [(.int (own_f5 v48 v53 v105))])) t → Steps p.tables e below (s₁.setTop (entryFrame m #[(.int p0), (.int p1), (.int p2), (.int p3)] maxLocals)) t := fun t kk => pre90 t (by
              show Steps p.tables e below (T59.setTop (mkF m 164 #[.val (.int p0), .val (.int p1), .val (.int p2), .val (.int p3), .val (.int v48), .val (.int (0 : Int32)), .val (.int v53), .val (.ref b54), .val (.int v53), .val (.int v68), .unset] [(.int (2147483647 : Int32)), (.int v53)])) _
              refine XS.icmpYes X59.here hx rfl (pc0 := 164) (pc' := 193) rfl (hb hby at_164) rfl (feq hc91).2 (by decide) (by decide) ?_
              show Steps p.tables e below (T59.setTop (mkF m 193 #[.val (.int p0), .val (.int p1), .val (.int p2), .val (.int p3), .val (.int v48), .val (.int (0 : Int32)), .val (.int v53), .val (.ref b54), .val (.int v53), .val (.int v68), .unset] [])) _
              refine XS.iloadN X59.here hx rfl (hb hby at_193) rfl ?_
              show Steps p.tables e below (T59.setTop (mkF m 194 #[.val (.int p0), .val (.int p1), .val (.int p2), .val (.int p3), .val (.int v48), .val (.int (0 : Int32)), .val (.int v53), .val (.ref b54), .val (.int v53), .val (.int v68), .unset] [(.int p2)])) _
              refine XS.iload X59.here hx rfl (hb hby at_194) rfl ?_
              show Steps p.tables e below (T59.setTop (mkF m 196 #[.val (.int p0), .val (.int p1), .val (.int p2), .val (.int p3), .val (.int v48), .val (.int (0 : Int32)), .val (.int v53), .val (.ref b54), .val (.int v53), .val (.int v68), .unset] [(.int v53), (.int p2)])) _
              refine XS.iconst X59.here hx rfl (hb hby at_196) ?_
              show Steps p.tables e below (T59.setTop (mkF m 197 #[.val (.int p0), .val (.int p1), .val (.int p2), .val (.int p3), .val (.int v48), .val (.int (0 : Int32)), .val (.int v53), .val (.ref b54), .val (.int v53), .val (.int v68), .unset] [(.int (1 : Int32)), (.int v53), (.int p2)])) _
              refine XS.iadd X59.here hx rfl (hb hby at_197) rfl ?_
              show Steps p.tables e below (T59.setTop (mkF m 198 #[.val (.int p0), .val (.int p1), .val (.int p2), .val (.int p3), .val (.int v48), .val (.int (0 : Int32)), .val (.int v53), .val (.ref b54), .val (.int v53), .val (.int v68), .unset] [(.int (v53 + (1 : Int32))), (.int p2)])) _
              refine st102 _ ?_
              show Steps p.tables e below (T102.setTop (mkF m 201 #[.val (.int p0), .val (.int p1), .val (.int p2), .val (.int p3), .val (.int v48), .val (.int (0 : Int32)), .val (.int v53), .val (.ref b54), .val (.int v53), .val (.int v68), .unset] [(.int (own_f6 p2 (v53 + (1 : Int32))))])) _
              refine castTop (congrArg (fun z : Int32 => mkF m 201 #[.val (.int p0), .val (.int p1), .val (.int p2), .val (.int p3), .val (.int v48), .val (.int (0 : Int32)), .val (.int v53), .val (.ref b54), .val (.int v53), .val (.int v68), .unset] [(.int z)]) hv105.symm) ?_
              show Steps p.tables e below (T102.setTop (mkF m 201 #[.val (.int p0), .val (.int p1), .val (.int p2), .val (.int p3), .val (.int v48), .val (.int (0 : Int32)), .val (.int v53), .val (.ref b54), .val (.int v53), .val (.int v68), .unset] [(.int v105)])) _
              refine XS.istore X102.here hx rfl (hb hby at_201) rfl (l' := #[.val (.int p0), .val (.int p1), .val (.int p2), .val (.int p3), .val (.int v48), .val (.int (0 : Int32)), .val (.int v53), .val (.ref b54), .val (.int v53), .val (.int v68), .val (.int v105)]) rfl ?_
              show Steps p.tables e below (T102.setTop (mkF m 203 #[.val (.int p0), .val (.int p1), .val (.int p2), .val (.int p3), .val (.int v48), .val (.int (0 : Int32)), .val (.int v53), .val (.ref b54), .val (.int v53), .val (.int v68), .val (.int v105)] [])) _
              refine XS.aload X102.here hx rfl (hb hby at_203) rfl rfl ?_
              show Steps p.tables e below (T102.setTop (mkF m 205 #[.val (.int p0), .val (.int p1), .val (.int p2), .val (.int p3), .val (.int v48), .val (.int (0 : Int32)), .val (.int v53), .val (.ref b54), .val (.int v53), .val (.int v68), .val (.int v105)] [(.ref b54)])) _
              refine XS.iload X102.here hx rfl (hb hby at_205) rfl ?_
              show Steps p.tables e below (T102.setTop (mkF m 207 #[.val (.int p0), .val (.int p1), .val (.int p2), .val (.int p3), .val (.int v48), .val (.int (0 : Int32)), .val (.int v53), .val (.ref b54), .val (.int v53), .val (.int v68), .val (.int v105)] [(.int v105), (.ref b54)])) _
              refine st106.trans ?_
              show Steps p.tables e below (T106.setTop (mkF m 210 #[.val (.int p0), .val (.int p1), .val (.int p2), .val (.int p3), .val (.int v48), .val (.int (0 : Int32)), .val (.int v53), .val (.ref b54), .val (.int v53), .val (.int v68), .val (.int v105)] [(.int (own_f5 v48 v53 v105))])) _
              exact kk)
            by_cases hc110 : (own_f5 v48 v53 v105) = (0 : Int32)
            · obtain ⟨fs, hr, hrun, hended, hW, hsame⟩ := X106.leave (v := some (.int (1 : Int32))) (fun h => by rw [Bd.returns] at h; cases h)
              refine ⟨_, _, pre109 _ ?_, hrun, hended, _, _, rfl, ?_, ⟨_, rfl⟩, hW, hsame.mono (by decide) (by decide)⟩
              · show Steps p.tables e below (T106.setTop (mkF m 210 #[.val (.int p0), .val (.int p1), .val (.int p2), .val (.int p3), .val (.int v48), .val (.int (0 : Int32)), .val (.int v53), .val (.ref b54), .val (.int v53), .val (.int v68), .val (.int v105)] [(.int (own_f5 v48 v53 v105))])) _
                refine XS.ifNo X106.here hx rfl (hb hby at_210) rfl ((if0 _ _).trans (teq hc110).2) ?_
                show Steps p.tables e below (T106.setTop (mkF m 213 #[.val (.int p0), .val (.int p1), .val (.int p2), .val (.int p3), .val (.int v48), .val (.int (0 : Int32)), .val (.int v53), .val (.ref b54), .val (.int v53), .val (.int v68), .val (.int v105)] [])) _
                refine XS.iconst X106.here hx rfl (hb hby at_213) ?_
                show Steps p.tables e below (T106.setTop (mkF m 214 #[.val (.int p0), .val (.int p1), .val (.int p2), .val (.int p3), .val (.int v48), .val (.int (0 : Int32)), .val (.int v53), .val (.ref b54), .val (.int v53), .val (.int v68), .val (.int v105)] [(.int (1 : Int32))])) _
                refine XS.goto X106.here hx rfl (pc0 := 214) (pc' := 218) rfl (hb hby at_214) (by decide) (by decide) ?_
                show Steps p.tables e below (T106.setTop (mkF m 218 #[.val (.int p0), .val (.int p1), .val (.int p2), .val (.int p3), .val (.int v48), .val (.int (0 : Int32)), .val (.int v53), .val (.ref b54), .val (.int v53), .val (.int v68), .val (.int v105)] [(.int (1 : Int32))])) _
                exact retN X106 hx (t := .boolean) Bd.returns (by simp) (hb hby at_218) hr
              · show own_Q0 Z p0 p1 p2 p3 h0 n0 _ T106.heap _
                rw [e108]
                exact ⟨rfl, N107⟩
            · exact (own_leaf0_8 p0 p1 p2 p3 v48 hv48 hc50 v51 hv51 v53 hv53 v68 hv68 hc70 hc81 hc89 hc91 v105 hv105 hc110).elim
        · obtain ⟨cq111, kq111, q111a, q111b, q111c⟩ := isOf hZ rfl f63
          obtain ⟨_, _, ⟨T111, L111, k111, n111⟩, -, X111, ⟨Lc111, hQ111, l111, y111, z111⟩, st111⟩ := X59.virtualBack hx (y := (⟨"archetest/model/Multiplicity", "contains", "(I)Z"⟩ : MethodName)) (z := (⟨"archetest/model/Multiplicity", "contains", "(I)Z"⟩ : MethodName)) hown (mvT hZ (hw _ (List.mem_of_getElem? (i := 23) rfl))) (mvT hZ (hw _ (List.mem_of_getElem? (i := 24) rfl))) (notFace_of_selects (args := #[]) (mvT hZ (hw _ (List.mem_of_getElem? (i := 26) rfl)))) (mvT hZ (hw _ (List.mem_of_getElem? (i := 26) rfl))) (mvT hZ (hw _ (List.mem_of_getElem? (i := 25) rfl))) (by decide) (backOf (W := 0) (own_rm5 l Z av hw [] b54 v48 (v48) (v53) T59.heap n0 z67 f64 f65) hZ (hw _ (List.mem_of_getElem? (i := 27) rfl)) (hw _ (List.mem_of_getElem? (i := 3) rfl)) (by decide) (by decide)) q111a q111c (g := (mkF m 223 #[.val (.int p0), .val (.int p1), .val (.int p2), .val (.int p3), .val (.int v48), .val (.int (0 : Int32)), .val (.int v53), .val (.ref b54), .val (.int v53), .val (.int v68), .unset] [(.int v48), (.ref b54)])) rfl (by rw [hml]; rfl) (Steps.refl _) (argsL := [(.int v48)]) (rest := []) (lenOf own_pd3 rfl) rfl (by show 2 * 0 + _ ≤ _; exact Nat.le_of_eq rfl) (hb hby at_223) (fun _ _ => ⟨rfl, rfl, (by decide : 1 + 0 ≤ _), (by decide : 2 + 0 ≤ _)⟩)
          dsimp only [Pt.U, Pt.locs, Pt.cells, Pt.slots] at X111 l111 y111 z111 st111 hQ111
          subst l111 y111 z111
          obtain ⟨rfl, N111q, e113⟩ := hQ111
          have N112 := Fr.app N62 N111q
          have pre114 : ∀ t, Steps p.tables e below (T111.setTop (mkF m 226 #[.val (.int p0), .val (.int p1), .val (.int p2), .val (.int p3), .val (.int v48), .val (.int (0 : Int32)), .val (.int v53), .val (.ref b54), .val (.int v53), .val (.int v68), .unset] [(.int (own_f5 v48 v53 v48))])) t → Steps p.tables e below (s₁.setTop (entryFrame m #[(.int p0), (.int p1), (.int p2), (.int p3)] maxLocals)) t := fun t kk => pre88 t (by
            show Steps p.tables e below (T59.setTop (mkF m 157 #[.val (.int p0), .val (.int p1), .val (.int p2), .val (.int p3), .val (.int v48), .val (.int (0 : Int32)), .val (.int v53), .val (.ref b54), .val (.int v53), .val (.int v68), .unset] [(.int (2 : Int32)), (.int v68)])) _
            refine XS.icmpYes X59.here hx rfl (pc0 := 157) (pc' := 219) rfl (hb hby at_157) rfl (feq hc89).2 (by decide) (by decide) ?_
            show Steps p.tables e below (T59.setTop (mkF m 219 #[.val (.int p0), .val (.int p1), .val (.int p2), .val (.int p3), .val (.int v48), .val (.int (0 : Int32)), .val (.int v53), .val (.ref b54), .val (.int v53), .val (.int v68), .unset] [])) _
            refine XS.aload X59.here hx rfl (hb hby at_219) rfl rfl ?_
            show Steps p.tables e below (T59.setTop (mkF m 221 #[.val (.int p0), .val (.int p1), .val (.int p2), .val (.int p3), .val (.int v48), .val (.int (0 : Int32)), .val (.int v53), .val (.ref b54), .val (.int v53), .val (.int v68), .unset] [(.ref b54)])) _
            refine XS.iload X59.here hx rfl (hb hby at_221) rfl ?_
            show Steps p.tables e below (T59.setTop (mkF m 223 #[.val (.int p0), .val (.int p1), .val (.int p2), .val (.int p3), .val (.int v48), .val (.int (0 : Int32)), .val (.int v53), .val (.ref b54), .val (.int v53), .val (.int v68), .unset] [(.int v48), (.ref b54)])) _
            refine st111.trans ?_
            show Steps p.tables e below (T111.setTop (mkF m 226 #[.val (.int p0), .val (.int p1), .val (.int p2), .val (.int p3), .val (.int v48), .val (.int (0 : Int32)), .val (.int v53), .val (.ref b54), .val (.int v53), .val (.int v68), .unset] [(.int (own_f5 v48 v53 v48))])) _
            exact kk)
          by_cases hc115 : (own_f5 v48 v53 v48) = (0 : Int32)
          · exact (own_leaf0_9 p0 p1 p2 p3 v48 hv48 hc50 v51 hv51 v53 hv53 v68 hv68 hc70 hc81 hc89 hc115).elim
          · obtain ⟨cq116, kq116, q116a, q116b, q116c⟩ := isOf hZ e113 f63
            obtain ⟨_, _, ⟨T116, L116, k116, n116⟩, -, X116, ⟨Lc116, hQ116, l116, y116, z116⟩, st116⟩ := X111.virtualBack hx (y := (⟨"archetest/model/Multiplicity", "contains", "(I)Z"⟩ : MethodName)) (z := (⟨"archetest/model/Multiplicity", "contains", "(I)Z"⟩ : MethodName)) hown (mvT hZ (hw _ (List.mem_of_getElem? (i := 23) rfl))) (mvT hZ (hw _ (List.mem_of_getElem? (i := 24) rfl))) (notFace_of_selects (args := #[]) (mvT hZ (hw _ (List.mem_of_getElem? (i := 26) rfl)))) (mvT hZ (hw _ (List.mem_of_getElem? (i := 26) rfl))) (mvT hZ (hw _ (List.mem_of_getElem? (i := 25) rfl))) (by decide) (backOf (W := 0) (own_rm5 l Z av hw [] b54 v53 (v48) (v53) T59.heap n0 z67 f64 f65) hZ (hw _ (List.mem_of_getElem? (i := 27) rfl)) (hw _ (List.mem_of_getElem? (i := 3) rfl)) (by decide) (by decide)) q116a q116c (g := (mkF m 233 #[.val (.int p0), .val (.int p1), .val (.int p2), .val (.int p3), .val (.int v48), .val (.int (0 : Int32)), .val (.int v53), .val (.ref b54), .val (.int v53), .val (.int v68), .unset] [(.int v53), (.ref b54)])) rfl (by rw [hml]; rfl) (Steps.refl _) (argsL := [(.int v53)]) (rest := []) (lenOf own_pd3 rfl) rfl (by show 2 * 0 + _ ≤ _; exact Nat.le_of_eq rfl) (hb hby at_233) (fun _ _ => ⟨rfl, e113, (by decide : 1 + 0 ≤ _), (by decide : 2 + 0 ≤ _)⟩)
            dsimp only [Pt.U, Pt.locs, Pt.cells, Pt.slots] at X116 l116 y116 z116 st116 hQ116
            subst l116 y116 z116
            obtain ⟨rfl, N116q, e118⟩ := hQ116
            have N117 := Fr.app N112 N116q
            have pre119 : ∀ t, Steps p.tables e below (T116.setTop (mkF m 236 #[.val (.int p0), .val (.int p1), .val (.int p2), .val (.int p3), .val (.int v48), .val (.int (0 : Int32)), .val (.int v53), .val (.ref b54), .val (.int v53), .val (.int v68), .unset] [(.int (own_f5 v48 v53 v53))])) t → Steps p.tables e below (s₁.setTop (entryFrame m #[(.int p0), (.int p1), (.int p2), (.int p3)] maxLocals)) t := fun t kk => pre114 t (by
              show Steps p.tables e below (T111.setTop (mkF m 226 #[.val (.int p0), .val (.int p1), .val (.int p2), .val (.int p3), .val (.int v48), .val (.int (0 : Int32)), .val (.int v53), .val (.ref b54), .val (.int v53), .val (.int v68), .unset] [(.int (own_f5 v48 v53 v48))])) _
              refine XS.ifNo X111.here hx rfl (hb hby at_226) rfl ((if0 _ _).trans (feq hc115).1) ?_
              show Steps p.tables e below (T111.setTop (mkF m 229 #[.val (.int p0), .val (.int p1), .val (.int p2), .val (.int p3), .val (.int v48), .val (.int (0 : Int32)), .val (.int v53), .val (.ref b54), .val (.int v53), .val (.int v68), .unset] [])) _
              refine XS.aload X111.here hx rfl (hb hby at_229) rfl rfl ?_
              show Steps p.tables e below (T111.setTop (mkF m 231 #[.val (.int p0), .val (.int p1), .val (.int p2), .val (.int p3), .val (.int v48), .val (.int (0 : Int32)), .val (.int v53), .val (.ref b54), .val (.int v53), .val (.int v68), .unset] [(.ref b54)])) _
              refine XS.iload X111.here hx rfl (hb hby at_231) rfl ?_
              show Steps p.tables e below (T111.setTop (mkF m 233 #[.val (.int p0), .val (.int p1), .val (.int p2), .val (.int p3), .val (.int v48), .val (.int (0 : Int32)), .val (.int v53), .val (.ref b54), .val (.int v53), .val (.int v68), .unset] [(.int v53), (.ref b54)])) _
              refine st116.trans ?_
              show Steps p.tables e below (T116.setTop (mkF m 236 #[.val (.int p0), .val (.int p1), .val (.int p2), .val (.int p3), .val (.int v48), .val (.int (0 : Int32)), .val (.int v53), .val (.ref b54), .val (.int v53), .val (.int v68), .unset] [(.int (own_f5 v48 v53 v53))])) _
              exact kk)
            by_cases hc120 : (own_f5 v48 v53 v53) = (0 : Int32)
            · exact (own_leaf0_10 p0 p1 p2 p3 v48 hv48 hc50 v51 hv51 v53 hv53 v68 hv68 hc70 hc81 hc89 hc115 hc120).elim
            · obtain ⟨cq121, kq121, q121a, q121b, q121c⟩ := isOf hZ e118 f63
              obtain ⟨_, _, ⟨T121, L121, k121, n121⟩, -, X121, ⟨Lc121, hQ121, l121, y121, z121⟩, st121⟩ := X116.virtualBack hx (y := (⟨"archetest/model/Multiplicity", "contains", "(I)Z"⟩ : MethodName)) (z := (⟨"archetest/model/Multiplicity", "contains", "(I)Z"⟩ : MethodName)) hown (mvT hZ (hw _ (List.mem_of_getElem? (i := 23) rfl))) (mvT hZ (hw _ (List.mem_of_getElem? (i := 24) rfl))) (notFace_of_selects (args := #[]) (mvT hZ (hw _ (List.mem_of_getElem? (i := 26) rfl)))) (mvT hZ (hw _ (List.mem_of_getElem? (i := 26) rfl))) (mvT hZ (hw _ (List.mem_of_getElem? (i := 25) rfl))) (by decide) (backOf (W := 0) (own_rm5 l Z av hw [] b54 (v48 - (1 : Int32)) (v48) (v53) T59.heap n0 z67 f64 f65) hZ (hw _ (List.mem_of_getElem? (i := 27) rfl)) (hw _ (List.mem_of_getElem? (i := 3) rfl)) (by decide) (by decide)) q121a q121c (g := (mkF m 245 #[.val (.int p0), .val (.int p1), .val (.int p2), .val (.int p3), .val (.int v48), .val (.int (0 : Int32)), .val (.int v53), .val (.ref b54), .val (.int v53), .val (.int v68), .unset] [(.int (v48 - (1 : Int32))), (.ref b54)])) rfl (by rw [hml]; rfl) (Steps.refl _) (argsL := [(.int (v48 - (1 : Int32)))]) (rest := []) (lenOf own_pd3 rfl) rfl (by show 2 * 0 + _ ≤ _; exact Nat.le_of_eq rfl) (hb hby at_245) (fun _ _ => ⟨rfl, e118, (by decide : 1 + 0 ≤ _), (by decide : 2 + 0 ≤ _)⟩)
              dsimp only [Pt.U, Pt.locs, Pt.cells, Pt.slots] at X121 l121 y121 z121 st121 hQ121
              subst l121 y121 z121
              obtain ⟨rfl, N121q, e123⟩ := hQ121
              have N122 := Fr.app N117 N121q
              have pre124 : ∀ t, Steps p.tables e below (T121.setTop (mkF m 248 #[.val (.int p0), .val (.int p1), .val (.int p2), .val (.int p3), .val (.int v48), .val (.int (0 : Int32)), .val (.int v53), .val (.ref b54), .val (.int v53), .val (.int v68), .unset] [(.int (own_f5 v48 v53 (v48 - (1 : Int32))))])) t → Steps p.tables e below (s₁.setTop (entryFrame m #[(.int p0), (.int p1), (.int p2), (.int p3)] maxLocals)) t := fun t kk => pre119 t (by
                show Steps p.tables e below (T116.setTop (mkF m 236 #[.val (.int p0), .val (.int p1), .val (.int p2), .val (.int p3), .val (.int v48), .val (.int (0 : Int32)), .val (.int v53), .val (.ref b54), .val (.int v53), .val (.int v68), .unset] [(.int (own_f5 v48 v53 v53))])) _
                refine XS.ifNo X116.here hx rfl (hb hby at_236) rfl ((if0 _ _).trans (feq hc120).1) ?_
                show Steps p.tables e below (T116.setTop (mkF m 239 #[.val (.int p0), .val (.int p1), .val (.int p2), .val (.int p3), .val (.int v48), .val (.int (0 : Int32)), .val (.int v53), .val (.ref b54), .val (.int v53), .val (.int v68), .unset] [])) _
                refine XS.aload X116.here hx rfl (hb hby at_239) rfl rfl ?_
                show Steps p.tables e below (T116.setTop (mkF m 241 #[.val (.int p0), .val (.int p1), .val (.int p2), .val (.int p3), .val (.int v48), .val (.int (0 : Int32)), .val (.int v53), .val (.ref b54), .val (.int v53), .val (.int v68), .unset] [(.ref b54)])) _
                refine XS.iload X116.here hx rfl (hb hby at_241) rfl ?_
                show Steps p.tables e below (T116.setTop (mkF m 243 #[.val (.int p0), .val (.int p1), .val (.int p2), .val (.int p3), .val (.int v48), .val (.int (0 : Int32)), .val (.int v53), .val (.ref b54), .val (.int v53), .val (.int v68), .unset] [(.int v48), (.ref b54)])) _
                refine XS.iconst X116.here hx rfl (hb hby at_243) ?_
                show Steps p.tables e below (T116.setTop (mkF m 244 #[.val (.int p0), .val (.int p1), .val (.int p2), .val (.int p3), .val (.int v48), .val (.int (0 : Int32)), .val (.int v53), .val (.ref b54), .val (.int v53), .val (.int v68), .unset] [(.int (1 : Int32)), (.int v48), (.ref b54)])) _
                refine XS.isub X116.here hx rfl (hb hby at_244) rfl ?_
                show Steps p.tables e below (T116.setTop (mkF m 245 #[.val (.int p0), .val (.int p1), .val (.int p2), .val (.int p3), .val (.int v48), .val (.int (0 : Int32)), .val (.int v53), .val (.ref b54), .val (.int v53), .val (.int v68), .unset] [(.int (v48 - (1 : Int32))), (.ref b54)])) _
                refine st121.trans ?_
                show Steps p.tables e below (T121.setTop (mkF m 248 #[.val (.int p0), .val (.int p1), .val (.int p2), .val (.int p3), .val (.int v48), .val (.int (0 : Int32)), .val (.int v53), .val (.ref b54), .val (.int v53), .val (.int v68), .unset] [(.int (own_f5 v48 v53 (v48 - (1 : Int32))))])) _
                exact kk)
              by_cases hc125 : (own_f5 v48 v53 (v48 - (1 : Int32))) = (0 : Int32)
              · obtain ⟨fs, hr, hrun, hended, hW, hsame⟩ := X121.leave (v := some (.int (1 : Int32))) (fun h => by rw [Bd.returns] at h; cases h)
                refine ⟨_, _, pre124 _ ?_, hrun, hended, _, _, rfl, ?_, ⟨_, rfl⟩, hW, hsame.mono (by decide) (by decide)⟩
                · show Steps p.tables e below (T121.setTop (mkF m 248 #[.val (.int p0), .val (.int p1), .val (.int p2), .val (.int p3), .val (.int v48), .val (.int (0 : Int32)), .val (.int v53), .val (.ref b54), .val (.int v53), .val (.int v68), .unset] [(.int (own_f5 v48 v53 (v48 - (1 : Int32))))])) _
                  refine XS.ifNo X121.here hx rfl (hb hby at_248) rfl ((if0 _ _).trans (teq hc125).2) ?_
                  show Steps p.tables e below (T121.setTop (mkF m 251 #[.val (.int p0), .val (.int p1), .val (.int p2), .val (.int p3), .val (.int v48), .val (.int (0 : Int32)), .val (.int v53), .val (.ref b54), .val (.int v53), .val (.int v68), .unset] [])) _
                  refine XS.iconst X121.here hx rfl (hb hby at_251) ?_
                  show Steps p.tables e below (T121.setTop (mkF m 252 #[.val (.int p0), .val (.int p1), .val (.int p2), .val (.int p3), .val (.int v48), .val (.int (0 : Int32)), .val (.int v53), .val (.ref b54), .val (.int v53), .val (.int v68), .unset] [(.int (1 : Int32))])) _
                  refine XS.goto X121.here hx rfl (pc0 := 252) (pc' := 256) rfl (hb hby at_252) (by decide) (by decide) ?_
                  show Steps p.tables e below (T121.setTop (mkF m 256 #[.val (.int p0), .val (.int p1), .val (.int p2), .val (.int p3), .val (.int v48), .val (.int (0 : Int32)), .val (.int v53), .val (.ref b54), .val (.int v53), .val (.int v68), .unset] [(.int (1 : Int32))])) _
                  exact retN X121 hx (t := .boolean) Bd.returns (by simp) (hb hby at_256) hr
                · show own_Q0 Z p0 p1 p2 p3 h0 n0 _ T121.heap _
                  rw [e123]
                  exact ⟨rfl, N122⟩
              · exact (own_leaf0_12 p0 p1 p2 p3 v48 hv48 hc50 v51 hv51 v53 hv53 v68 hv68 hc70 hc81 hc89 hc115 hc120 hc125).elim
  · obtain ⟨T126, h126, X126, e126, E126, A126, D126, -, st126⟩ := newO X0 hx hZ hown (hw _ (List.mem_of_getElem? (i := 1) rfl)) (hw _ (List.mem_of_getElem? (i := 2) rfl)) (hw _ (List.mem_of_getElem? (i := 3) rfl)) e0 (g := (mkF m 55 #[.val (.int p0), .val (.int p1), .val (.int p2), .val (.int p3), .val (.int v48), .val (.int (1 : Int32)), .val (.int (-1 : Int32)), .unset, .unset, .unset, .unset] [])) rfl (hb hby at_55) (by decide) (by decide)
    obtain ⟨b126, g126⟩ : ∃ z, z = h0.size := ⟨_, rfl⟩
    have g_b126 : n0 ≤ b126 := Nat.le_trans Z0 (Nat.le_of_eq g126.symm)
    have sz_b126 : h0.size ≤ b126 := Nat.le_trans (Keep.refl h0 []).1 (Nat.le_of_eq g126.symm)
    rw [← g126] at A126 D126 st126
    have z127 : n0 ≤ h126.size := Nat.le_trans Z0 E126.1
    have K128 : Keep h0 h126 [] := (Keep.refl h0 []).ext E126
    have f129 : Fld Z h126 b126 "archetest/model/Multiplicity" "lower" "I" (.int (0 : Int32)) := D126 (Or.inr (hw _ (List.mem_of_getElem? (i := 16) rfl))) (ty := .int) (by decide)
    have f130 : Fld Z h126 b126 "archetest/model/Multiplicity" "upper" "I" (.int (0 : Int32)) := D126 (Or.inr (hw _ (List.mem_of_getElem? (i := 18) rfl))) (ty := .int) (by decide)
    obtain ⟨_, _, ⟨T131, L131, k131, n131⟩, -, X131, ⟨Lc131, hQ131, l131, y131, z131⟩, st131⟩ := X126.specialBack hx (y := (⟨"archetest/model/Multiplicity", "<init>", "(II)V"⟩ : MethodName)) rfl hown (mvT hZ (hw _ (List.mem_of_getElem? (i := 4) rfl))) (mvT hZ (hw _ (List.mem_of_getElem? (i := 5) rfl))) (mvT hZ (hw _ (List.mem_of_getElem? (i := 6) rfl))) (by decide) (backOf (W := 1) (own_rm1 l Z av hw [] b126 v48 (-1 : Int32) h126 n0 z127 A126 f129 f130 g_b126 ((own_side132 p0 v48 hv48)) (Or.inl rfl)) hZ (hw _ (List.mem_of_getElem? (i := 6) rfl)) (hw _ (List.mem_of_getElem? (i := 3) rfl)) (by decide) (by decide)) (g := (mkF m 63 #[.val (.int p0), .val (.int p1), .val (.int p2), .val (.int p3), .val (.int v48), .val (.int (1 : Int32)), .val (.int (-1 : Int32)), .unset, .unset, .unset, .unset] [(.int (-1 : Int32)), (.int v48), (.ref b126), (.ref b126)])) rfl (by rw [hml]; rfl) (Steps.refl _) (a := b126) (argsL := [(.int v48), (.int (-1 : Int32))]) (rest := [(.ref b126)]) (lenOf own_pd1 rfl) rfl (by show 2 * 0 + _ ≤ _; exact Nat.le_of_eq rfl) (hb hby at_63) (fun _ _ => ⟨rfl, e126, (by decide : 1 + 0 ≤ _), (by decide : 2 + 0 ≤ _)⟩)
    dsimp only [Pt.U, Pt.locs, Pt.cells, Pt.slots] at X131 l131 y131 z131 st131 hQ131
    subst l131 y131 z131
    obtain ⟨rfl, N131q, K131, f134, f135, f136⟩ := hQ131
    have K137 : Keep h0 T131.heap [] := K128.trans K131 (allS (Or.inr sz_b126) all0)
    have z138 : n0 ≤ T131.heap.size := Nat.le_trans z127 K131.1
    have N133 := Fr.app N0 N131q
    obtain ⟨v139, hv139⟩ : ∃ z : Int32, z = (((p3.toUInt32 >>> ((1 : Int32) &&& 31).toUInt32).toInt32) &&& (3 : Int32)) := ⟨_, rfl⟩
    have pre140 : ∀ t, Steps p.tables e below (T131.setTop (mkF m 91 #[.val (.int p0), .val (.int p1), .val (.int p2), .val (.int p3), .val (.int v48), .val (.int (1 : Int32)), .val (.int (-1 : Int32)), .val (.ref b126), .val (.int (2147483647 : Int32)), .val (.int v139), .unset] [(.int v139)])) t → Steps p.tables e below (s₁.setTop (entryFrame m #[(.int p0), (.int p1), (.int p2), (.int p3)] maxLocals)) t := fun t kk => pre49 t (by
      show Steps p.tables e below (s₁.setTop (mkF m 9 #[.val (.int p0), .val (.int p1), .val (.int p2), .val (.int p3), .val (.int v48), .unset, .unset, .unset, .unset, .unset, .unset] [(.int (p3 &&& (1 : Int32)))])) _
      refine XS.ifNo X0.here hx rfl (hb hby at_9) rfl ((if0 _ _).trans (feq hc50).1) ?_
      show Steps p.tables e below (s₁.setTop (mkF m 12 #[.val (.int p0), .val (.int p1), .val (.int p2), .val (.int p3), .val (.int v48), .unset, .unset, .unset, .unset, .unset, .unset] [])) _
      refine XS.iconst X0.here hx rfl (hb hby at_12) ?_
      show Steps p.tables e below (s₁.setTop (mkF m 13 #[.val (.int p0), .val (.int p1), .val (.int p2), .val (.int p3), .val (.int v48), .unset, .unset, .unset, .unset, .unset, .unset] [(.int (1 : Int32))])) _
      refine XS.goto X0.here hx rfl (pc0 := 13) (pc' := 17) rfl (hb hby at_13) (by decide) (by decide) ?_
      show Steps p.tables e below (s₁.setTop (mkF m 17 #[.val (.int p0), .val (.int p1), .val (.int p2), .val (.int p3), .val (.int v48), .unset, .unset, .unset, .unset, .unset, .unset] [(.int (1 : Int32))])) _
      refine XS.istore X0.here hx rfl (hb hby at_17) rfl (l' := #[.val (.int p0), .val (.int p1), .val (.int p2), .val (.int p3), .val (.int v48), .val (.int (1 : Int32)), .unset, .unset, .unset, .unset, .unset]) rfl ?_
      show Steps p.tables e below (s₁.setTop (mkF m 19 #[.val (.int p0), .val (.int p1), .val (.int p2), .val (.int p3), .val (.int v48), .val (.int (1 : Int32)), .unset, .unset, .unset, .unset, .unset] [])) _
      refine XS.iload X0.here hx rfl (hb hby at_19) rfl ?_
      show Steps p.tables e below (s₁.setTop (mkF m 21 #[.val (.int p0), .val (.int p1), .val (.int p2), .val (.int p3), .val (.int v48), .val (.int (1 : Int32)), .unset, .unset, .unset, .unset, .unset] [(.int (1 : Int32))])) _
      refine XS.ifNo X0.here hx rfl (hb hby at_21) rfl ((if0 _ _).trans (feq (by decide : ¬ ((1 : Int32) = (0 : Int32)))).1) ?_
      show Steps p.tables e below (s₁.setTop (mkF m 24 #[.val (.int p0), .val (.int p1), .val (.int p2), .val (.int p3), .val (.int v48), .val (.int (1 : Int32)), .unset, .unset, .unset, .unset, .unset] [])) _
      refine XS.iconst X0.here hx rfl (hb hby at_24) ?_
      show Steps p.tables e below (s₁.setTop (mkF m 25 #[.val (.int p0), .val (.int p1), .val (.int p2), .val (.int p3), .val (.int v48), .val (.int (1 : Int32)), .unset, .unset, .unset, .unset, .unset] [(.int (-1 : Int32))])) _
      refine XS.istore X0.here hx rfl (hb hby at_25) rfl (l' := #[.val (.int p0), .val (.int p1), .val (.int p2), .val (.int p3), .val (.int v48), .val (.int (1 : Int32)), .val (.int (-1 : Int32)), .unset, .unset, .unset, .unset]) rfl ?_
      show Steps p.tables e below (s₁.setTop (mkF m 27 #[.val (.int p0), .val (.int p1), .val (.int p2), .val (.int p3), .val (.int v48), .val (.int (1 : Int32)), .val (.int (-1 : Int32)), .unset, .unset, .unset, .unset] [])) _
      refine XS.goto X0.here hx rfl (pc0 := 27) (pc' := 55) rfl (hb hby at_27) (by decide) (by decide) ?_
      show Steps p.tables e below (s₁.setTop (mkF m 55 #[.val (.int p0), .val (.int p1), .val (.int p2), .val (.int p3), .val (.int v48), .val (.int (1 : Int32)), .val (.int (-1 : Int32)), .unset, .unset, .unset, .unset] [])) _
      refine st126 _ ?_
      show Steps p.tables e below (T126.setTop (mkF m 58 #[.val (.int p0), .val (.int p1), .val (.int p2), .val (.int p3), .val (.int v48), .val (.int (1 : Int32)), .val (.int (-1 : Int32)), .unset, .unset, .unset, .unset] [(.ref b126)])) _
      refine XS.dup X126.here hx rfl (hb hby at_58) rfl rfl ?_
      show Steps p.tables e below (T126.setTop (mkF m 59 #[.val (.int p0), .val (.int p1), .val (.int p2), .val (.int p3), .val (.int v48), .val (.int (1 : Int32)), .val (.int (-1 : Int32)), .unset, .unset, .unset, .unset] [(.ref b126), (.ref b126)])) _
      refine XS.iload X126.here hx rfl (hb hby at_59) rfl ?_
      show Steps p.tables e below (T126.setTop (mkF m 61 #[.val (.int p0), .val (.int p1), .val (.int p2), .val (.int p3), .val (.int v48), .val (.int (1 : Int32)), .val (.int (-1 : Int32)), .unset, .unset, .unset, .unset] [(.int v48), (.ref b126), (.ref b126)])) _
      refine XS.iload X126.here hx rfl (hb hby at_61) rfl ?_
      show Steps p.tables e below (T126.setTop (mkF m 63 #[.val (.int p0), .val (.int p1), .val (.int p2), .val (.int p3), .val (.int v48), .val (.int (1 : Int32)), .val (.int (-1 : Int32)), .unset, .unset, .unset, .unset] [(.int (-1 : Int32)), (.int v48), (.ref b126), (.ref b126)])) _
      refine st131.trans ?_
      show Steps p.tables e below (T131.setTop (mkF m 66 #[.val (.int p0), .val (.int p1), .val (.int p2), .val (.int p3), .val (.int v48), .val (.int (1 : Int32)), .val (.int (-1 : Int32)), .unset, .unset, .unset, .unset] [(.ref b126)])) _
      refine XS.astore X131.here hx rfl (hb hby at_66) rfl rfl (l' := #[.val (.int p0), .val (.int p1), .val (.int p2), .val (.int p3), .val (.int v48), .val (.int (1 : Int32)), .val (.int (-1 : Int32)), .val (.ref b126), .unset, .unset, .unset]) rfl ?_
      show Steps p.tables e below (T131.setTop (mkF m 68 #[.val (.int p0), .val (.int p1), .val (.int p2), .val (.int p3), .val (.int v48), .val (.int (1 : Int32)), .val (.int (-1 : Int32)), .val (.ref b126), .unset, .unset, .unset] [])) _
      refine XS.iload X131.here hx rfl (hb hby at_68) rfl ?_
      show Steps p.tables e below (T131.setTop (mkF m 70 #[.val (.int p0), .val (.int p1), .val (.int p2), .val (.int p3), .val (.int v48), .val (.int (1 : Int32)), .val (.int (-1 : Int32)), .val (.ref b126), .unset, .unset, .unset] [(.int (1 : Int32))])) _
      refine XS.ifNo X131.here hx rfl (hb hby at_70) rfl ((if0 _ _).trans (feq (by decide : ¬ ((1 : Int32) = (0 : Int32)))).1) ?_
      show Steps p.tables e below (T131.setTop (mkF m 73 #[.val (.int p0), .val (.int p1), .val (.int p2), .val (.int p3), .val (.int v48), .val (.int (1 : Int32)), .val (.int (-1 : Int32)), .val (.ref b126), .unset, .unset, .unset] [])) _
      refine X131.ldcInt hx hown (mvT hZ (hw _ (List.mem_of_getElem? (i := 0) rfl))) (g := (mkF m 73 #[.val (.int p0), .val (.int p1), .val (.int p2), .val (.int p3), .val (.int v48), .val (.int (1 : Int32)), .val (.int (-1 : Int32)), .val (.ref b126), .unset, .unset, .unset] [])) rfl (hb hby at_73) _ ?_
      show Steps p.tables e below (T131.setTop (mkF m 75 #[.val (.int p0), .val (.int p1), .val (.int p2), .val (.int p3), .val (.int v48), .val (.int (1 : Int32)), .val (.int (-1 : Int32)), .val (.ref b126), .unset, .unset, .unset] [(.int (2147483647 : Int32))])) _
      refine XS.goto X131.here hx rfl (pc0 := 75) (pc' := 80) rfl (hb hby at_75) (by decide) (by decide) ?_
      show Steps p.tables e below (T131.setTop (mkF m 80 #[.val (.int p0), .val (.int p1), .val (.int p2), .val (.int p3), .val (.int v48), .val (.int (1 : Int32)), .val (.int (-1 : Int32)), .val (.ref b126), .unset, .unset, .unset] [(.int (2147483647 : Int32))])) _
      refine XS.istore X131.here hx rfl (hb hby at_80) rfl (l' := #[.val (.int p0), .val (.int p1), .val (.int p2), .val (.int p3), .val (.int v48), .val (.int (1 : Int32)), .val (.int (-1 : Int32)), .val (.ref b126), .val (.int (2147483647 : Int32)), .unset, .unset]) rfl ?_
      show Steps p.tables e below (T131.setTop (mkF m 82 #[.val (.int p0), .val (.int p1), .val (.int p2), .val (.int p3), .val (.int v48), .val (.int (1 : Int32)), .val (.int (-1 : Int32)), .val (.ref b126), .val (.int (2147483647 : Int32)), .unset, .unset] [])) _
      refine XS.iloadN X131.here hx rfl (hb hby at_82) rfl ?_
      show Steps p.tables e below (T131.setTop (mkF m 83 #[.val (.int p0), .val (.int p1), .val (.int p2), .val (.int p3), .val (.int v48), .val (.int (1 : Int32)), .val (.int (-1 : Int32)), .val (.ref b126), .val (.int (2147483647 : Int32)), .unset, .unset] [(.int p3)])) _
      refine XS.iconst X131.here hx rfl (hb hby at_83) ?_
      show Steps p.tables e below (T131.setTop (mkF m 84 #[.val (.int p0), .val (.int p1), .val (.int p2), .val (.int p3), .val (.int v48), .val (.int (1 : Int32)), .val (.int (-1 : Int32)), .val (.ref b126), .val (.int (2147483647 : Int32)), .unset, .unset] [(.int (1 : Int32)), (.int p3)])) _
      refine XS.iushr X131.here hx rfl (hb hby at_84) rfl ?_
      show Steps p.tables e below (T131.setTop (mkF m 85 #[.val (.int p0), .val (.int p1), .val (.int p2), .val (.int p3), .val (.int v48), .val (.int (1 : Int32)), .val (.int (-1 : Int32)), .val (.ref b126), .val (.int (2147483647 : Int32)), .unset, .unset] [(.int ((p3.toUInt32 >>> ((1 : Int32) &&& 31).toUInt32).toInt32))])) _
      refine XS.iconst X131.here hx rfl (hb hby at_85) ?_
      show Steps p.tables e below (T131.setTop (mkF m 86 #[.val (.int p0), .val (.int p1), .val (.int p2), .val (.int p3), .val (.int v48), .val (.int (1 : Int32)), .val (.int (-1 : Int32)), .val (.ref b126), .val (.int (2147483647 : Int32)), .unset, .unset] [(.int (3 : Int32)), (.int ((p3.toUInt32 >>> ((1 : Int32) &&& 31).toUInt32).toInt32))])) _
      refine XS.iand X131.here hx rfl (hb hby at_86) rfl ?_
      show Steps p.tables e below (T131.setTop (mkF m 87 #[.val (.int p0), .val (.int p1), .val (.int p2), .val (.int p3), .val (.int v48), .val (.int (1 : Int32)), .val (.int (-1 : Int32)), .val (.ref b126), .val (.int (2147483647 : Int32)), .unset, .unset] [(.int (((p3.toUInt32 >>> ((1 : Int32) &&& 31).toUInt32).toInt32) &&& (3 : Int32)))])) _
      refine castTop (congrArg (fun z : Int32 => mkF m 87 #[.val (.int p0), .val (.int p1), .val (.int p2), .val (.int p3), .val (.int v48), .val (.int (1 : Int32)), .val (.int (-1 : Int32)), .val (.ref b126), .val (.int (2147483647 : Int32)), .unset, .unset] [(.int z)]) hv139.symm) ?_
      show Steps p.tables e below (T131.setTop (mkF m 87 #[.val (.int p0), .val (.int p1), .val (.int p2), .val (.int p3), .val (.int v48), .val (.int (1 : Int32)), .val (.int (-1 : Int32)), .val (.ref b126), .val (.int (2147483647 : Int32)), .unset, .unset] [(.int v139)])) _
      refine XS.istore X131.here hx rfl (hb hby at_87) rfl (l' := #[.val (.int p0), .val (.int p1), .val (.int p2), .val (.int p3), .val (.int v48), .val (.int (1 : Int32)), .val (.int (-1 : Int32)), .val (.ref b126), .val (.int (2147483647 : Int32)), .val (.int v139), .unset]) rfl ?_
      show Steps p.tables e below (T131.setTop (mkF m 89 #[.val (.int p0), .val (.int p1), .val (.int p2), .val (.int p3), .val (.int v48), .val (.int (1 : Int32)), .val (.int (-1 : Int32)), .val (.ref b126), .val (.int (2147483647 : Int32)), .val (.int v139), .unset] [])) _
      refine XS.iload X131.here hx rfl (hb hby at_89) rfl ?_
      show Steps p.tables e below (T131.setTop (mkF m 91 #[.val (.int p0), .val (.int p1), .val (.int p2), .val (.int p3), .val (.int v48), .val (.int (1 : Int32)), .val (.int (-1 : Int32)), .val (.ref b126), .val (.int (2147483647 : Int32)), .val (.int v139), .unset] [(.int v139)])) _
      exact kk)
    by_cases hc141 : v139 = (0 : Int32)
    · obtain ⟨_, _, ⟨T142, L142, k142, n142⟩, -, X142, ⟨Lc142, hQ142, l142, y142, z142⟩, st142⟩ := Jvm.LawKit.callS X131 hx (y := (⟨"java/lang/Math", "min", "(II)I"⟩ : MethodName)) hown (mvT hZ (hw _ (List.mem_of_getElem? (i := 19) rfl))) (mvT hZ (hw _ (List.mem_of_getElem? (i := 20) rfl))) (mvT hZ (hw _ (List.mem_of_getElem? (i := 21) rfl))) (mvT hZ (hw _ (List.mem_of_getElem? (i := 22) rfl))) (by decide) (backOf (W := 0) (own_rm4 l Z av hw [] p2 (v48 - (1 : Int32)) T131.heap n0 z138 ) hZ (hw _ (List.mem_of_getElem? (i := 22) rfl)) (hw _ (List.mem_of_getElem? (i := 21) rfl)) (by decide) (by decide)) (g := (mkF m 99 #[.val (.int p0), .val (.int p1), .val (.int p2), .val (.int p3), .val (.int v48), .val (.int (1 : Int32)), .val (.int (-1 : Int32)), .val (.ref b126), .val (.int (2147483647 : Int32)), .val (.int v139), .unset] [(.int (v48 - (1 : Int32))), (.int p2)])) rfl (by rw [hml]; rfl) (argsL := [(.int p2), (.int (v48 - (1 : Int32)))]) (rest := []) (lenOf own_pd2 rfl) rfl (by show 2 * 0 + _ ≤ _; exact Nat.le_of_eq rfl) (hb hby at_99) (fun _ _ => ⟨rfl, rfl, (by decide : 1 + 0 ≤ _), (by decide : 2 + 0 ≤ _)⟩)
      dsimp only [Pt.U, Pt.locs, Pt.cells, Pt.slots] at X142 l142 y142 z142 st142 hQ142
      subst l142 y142 z142
      obtain ⟨rfl, N142q, e144⟩ := hQ142
      have N143 := Fr.app N133 N142q
      obtain ⟨v145, hv145⟩ : ∃ z : Int32, z = (own_f4 p2 (v48 - (1 : Int32))) := ⟨_, rfl⟩
      obtain ⟨cq146, kq146, q146a, q146b, q146c⟩ := isOf hZ e144 f134
      obtain ⟨_, _, ⟨T146, L146, k146, n146⟩, -, X146, ⟨Lc146, hQ146, l146, y146, z146⟩, st146⟩ := X142.virtualBack hx (y := (⟨"archetest/model/Multiplicity", "contains", "(I)Z"⟩ : MethodName)) (z := (⟨"archetest/model/Multiplicity", "contains", "(I)Z"⟩ : MethodName)) hown (mvT hZ (hw _ (List.mem_of_getElem? (i := 23) rfl))) (mvT hZ (hw _ (List.mem_of_getElem? (i := 24) rfl))) (notFace_of_selects (args := #[]) (mvT hZ (hw _ (List.mem_of_getElem? (i := 26) rfl)))) (mvT hZ (hw _ (List.mem_of_getElem? (i := 26) rfl))) (mvT hZ (hw _ (List.mem_of_getElem? (i := 25) rfl))) (by decide) (backOf (W := 0) (own_rm5 l Z av hw [] b126 v145 (v48) ((-1 : Int32)) T131.heap n0 z138 f135 f136) hZ (hw _ (List.mem_of_getElem? (i := 27) rfl)) (hw _ (List.mem_of_getElem? (i := 3) rfl)) (by decide) (by decide)) q146a q146c (g := (mkF m 108 #[.val (.int p0), .val (.int p1), .val (.int p2), .val (.int p3), .val (.int v48), .val (.int (1 : Int32)), .val (.int (-1 : Int32)), .val (.ref b126), .val (.int (2147483647 : Int32)), .val (.int v139), .val (.int v145)] [(.int v145), (.ref b126)])) rfl (by rw [hml]; rfl) (Steps.refl _) (argsL := [(.int v145)]) (rest := []) (lenOf own_pd3 rfl) rfl (by show 2 * 0 + _ ≤ _; exact Nat.le_of_eq rfl) (hb hby at_108) (fun _ _ => ⟨rfl, e144, (by decide : 1 + 0 ≤ _), (by decide : 2 + 0 ≤ _)⟩)
      dsimp only [Pt.U, Pt.locs, Pt.cells, Pt.slots] at X146 l146 y146 z146 st146 hQ146
      subst l146 y146 z146
      obtain ⟨rfl, N146q, e148⟩ := hQ146
      have N147 := Fr.app N143 N146q
      have pre149 : ∀ t, Steps p.tables e below (T146.setTop (mkF m 111 #[.val (.int p0), .val (.int p1), .val (.int p2), .val (.int p3), .val (.int v48), .val (.int (1 : Int32)), .val (.int (-1 : Int32)), .val (.ref b126), .val (.int (2147483647 : Int32)), .val (.int v139), .val (.int v145)] [(.int (own_f5 v48 (-1 : Int32) v145))])) t → Steps p.tables e below (s₁.setTop (entryFrame m #[(.int p0), (.int p1), (.int p2), (.int p3)] maxLocals)) t := fun t kk => pre140 t (by
        show Steps p.tables e below (T131.setTop (mkF m 91 #[.val (.int p0), .val (.int p1), .val (.int p2), .val (.int p3), .val (.int v48), .val (.int (1 : Int32)), .val (.int (-1 : Int32)), .val (.ref b126), .val (.int (2147483647 : Int32)), .val (.int v139), .unset] [(.int v139)])) _
        refine XS.ifNo X131.here hx rfl (hb hby at_91) rfl ((if0 _ _).trans (teq hc141).2) ?_
        show Steps p.tables e below (T131.setTop (mkF m 94 #[.val (.int p0), .val (.int p1), .val (.int p2), .val (.int p3), .val (.int v48), .val (.int (1 : Int32)), .val (.int (-1 : Int32)), .val (.ref b126), .val (.int (2147483647 : Int32)), .val (.int v139), .unset] [])) _
        refine XS.iloadN X131.here hx rfl (hb hby at_94) rfl ?_
        show Steps p.tables e below (T131.setTop (mkF m 95 #[.val (.int p0), .val (.int p1), .val (.int p2), .val (.int p3), .val (.int v48), .val (.int (1 : Int32)), .val (.int (-1 : Int32)), .val (.ref b126), .val (.int (2147483647 : Int32)), .val (.int v139), .unset] [(.int p2)])) _
        refine XS.iload X131.here hx rfl (hb hby at_95) rfl ?_
        show Steps p.tables e below (T131.setTop (mkF m 97 #[.val (.int p0), .val (.int p1), .val (.int p2), .val (.int p3), .val (.int v48), .val (.int (1 : Int32)), .val (.int (-1 : Int32)), .val (.ref b126), .val (.int (2147483647 : Int32)), .val (.int v139), .unset] [(.int v48), (.int p2)])) _
        refine XS.iconst X131.here hx rfl (hb hby at_97) ?_
        show Steps p.tables e below (T131.setTop (mkF m 98 #[.val (.int p0), .val (.int p1), .val (.int p2), .val (.int p3), .val (.int v48), .val (.int (1 : Int32)), .val (.int (-1 : Int32)), .val (.ref b126), .val (.int (2147483647 : Int32)), .val (.int v139), .unset] [(.int (1 : Int32)), (.int v48), (.int p2)])) _
        refine XS.isub X131.here hx rfl (hb hby at_98) rfl ?_
        show Steps p.tables e below (T131.setTop (mkF m 99 #[.val (.int p0), .val (.int p1), .val (.int p2), .val (.int p3), .val (.int v48), .val (.int (1 : Int32)), .val (.int (-1 : Int32)), .val (.ref b126), .val (.int (2147483647 : Int32)), .val (.int v139), .unset] [(.int (v48 - (1 : Int32))), (.int p2)])) _
        refine st142 _ ?_
        show Steps p.tables e below (T142.setTop (mkF m 102 #[.val (.int p0), .val (.int p1), .val (.int p2), .val (.int p3), .val (.int v48), .val (.int (1 : Int32)), .val (.int (-1 : Int32)), .val (.ref b126), .val (.int (2147483647 : Int32)), .val (.int v139), .unset] [(.int (own_f4 p2 (v48 - (1 : Int32))))])) _
        refine castTop (congrArg (fun z : Int32 => mkF m 102 #[.val (.int p0), .val (.int p1), .val (.int p2), .val (.int p3), .val (.int v48), .val (.int (1 : Int32)), .val (.int (-1 : Int32)), .val (.ref b126), .val (.int (2147483647 : Int32)), .val (.int v139), .unset] [(.int z)]) hv145.symm) ?_
        show Steps p.tables e below (T142.setTop (mkF m 102 #[.val (.int p0), .val (.int p1), .val (.int p2), .val (.int p3), .val (.int v48), .val (.int (1 : Int32)), .val (.int (-1 : Int32)), .val (.ref b126), .val (.int (2147483647 : Int32)), .val (.int v139), .unset] [(.int v145)])) _
        refine XS.istore X142.here hx rfl (hb hby at_102) rfl (l' := #[.val (.int p0), .val (.int p1), .val (.int p2), .val (.int p3), .val (.int v48), .val (.int (1 : Int32)), .val (.int (-1 : Int32)), .val (.ref b126), .val (.int (2147483647 : Int32)), .val (.int v139), .val (.int v145)]) rfl ?_
        show Steps p.tables e below (T142.setTop (mkF m 104 #[.val (.int p0), .val (.int p1), .val (.int p2), .val (.int p3), .val (.int v48), .val (.int (1 : Int32)), .val (.int (-1 : Int32)), .val (.ref b126), .val (.int (2147483647 : Int32)), .val (.int v139), .val (.int v145)] [])) _
        refine XS.aload X142.here hx rfl (hb hby at_104) rfl rfl ?_
        show Steps p.tables e below (T142.setTop (mkF m 106 #[.val (.int p0), .val (.int p1), .val (.int p2), .val (.int p3), .val (.int v48), .val (.int (1 : Int32)), .val (.int (-1 : Int32)), .val (.ref b126), .val (.int (2147483647 : Int32)), .val (.int v139), .val (.int v145)] [(.ref b126)])) _
        refine XS.iload X142.here hx rfl (hb hby at_106) rfl ?_
        show Steps p.tables e below (T142.setTop (mkF m 108 #[.val (.int p0), .val (.int p1), .val (.int p2), .val (.int p3), .val (.int v48), .val (.int (1 : Int32)), .val (.int (-1 : Int32)), .val (.ref b126), .val (.int (2147483647 : Int32)), .val (.int v139), .val (.int v145)] [(.int v145), (.ref b126)])) _
        refine st146.trans ?_
        show Steps p.tables e below (T146.setTop (mkF m 111 #[.val (.int p0), .val (.int p1), .val (.int p2), .val (.int p3), .val (.int v48), .val (.int (1 : Int32)), .val (.int (-1 : Int32)), .val (.ref b126), .val (.int (2147483647 : Int32)), .val (.int v139), .val (.int v145)] [(.int (own_f5 v48 (-1 : Int32) v145))])) _
        exact kk)
      by_cases hc150 : (own_f5 v48 (-1 : Int32) v145) = (0 : Int32)
      · obtain ⟨fs, hr, hrun, hended, hW, hsame⟩ := X146.leave (v := some (.int (1 : Int32))) (fun h => by rw [Bd.returns] at h; cases h)
        refine ⟨_, _, pre149 _ ?_, hrun, hended, _, _, rfl, ?_, ⟨_, rfl⟩, hW, hsame.mono (by decide) (by decide)⟩
        · show Steps p.tables e below (T146.setTop (mkF m 111 #[.val (.int p0), .val (.int p1), .val (.int p2), .val (.int p3), .val (.int v48), .val (.int (1 : Int32)), .val (.int (-1 : Int32)), .val (.ref b126), .val (.int (2147483647 : Int32)), .val (.int v139), .val (.int v145)] [(.int (own_f5 v48 (-1 : Int32) v145))])) _
          refine XS.ifNo X146.here hx rfl (hb hby at_111) rfl ((if0 _ _).trans (teq hc150).2) ?_
          show Steps p.tables e below (T146.setTop (mkF m 114 #[.val (.int p0), .val (.int p1), .val (.int p2), .val (.int p3), .val (.int v48), .val (.int (1 : Int32)), .val (.int (-1 : Int32)), .val (.ref b126), .val (.int (2147483647 : Int32)), .val (.int v139), .val (.int v145)] [])) _
          refine XS.iconst X146.here hx rfl (hb hby at_114) ?_
          show Steps p.tables e below (T146.setTop (mkF m 115 #[.val (.int p0), .val (.int p1), .val (.int p2), .val (.int p3), .val (.int v48), .val (.int (1 : Int32)), .val (.int (-1 : Int32)), .val (.ref b126), .val (.int (2147483647 : Int32)), .val (.int v139), .val (.int v145)] [(.int (1 : Int32))])) _
          refine XS.goto X146.here hx rfl (pc0 := 115) (pc' := 119) rfl (hb hby at_115) (by decide) (by decide) ?_
          show Steps p.tables e below (T146.setTop (mkF m 119 #[.val (.int p0), .val (.int p1), .val (.int p2), .val (.int p3), .val (.int v48), .val (.int (1 : Int32)), .val (.int (-1 : Int32)), .val (.ref b126), .val (.int (2147483647 : Int32)), .val (.int v139), .val (.int v145)] [(.int (1 : Int32))])) _
          exact retN X146 hx (t := .boolean) Bd.returns (by simp) (hb hby at_119) hr
        · show own_Q0 Z p0 p1 p2 p3 h0 n0 _ T146.heap _
          rw [e148]
          exact ⟨rfl, N147⟩
      · exact (own_leaf0_14 p0 p1 p2 p3 v48 hv48 hc50 v139 hv139 hc141 v145 hv145 hc150).elim
    · have pre151 : ∀ t, Steps p.tables e below (T131.setTop (mkF m 123 #[.val (.int p0), .val (.int p1), .val (.int p2), .val (.int p3), .val (.int v48), .val (.int (1 : Int32)), .val (.int (-1 : Int32)), .val (.ref b126), .val (.int (2147483647 : Int32)), .val (.int v139), .unset] [(.int (1 : Int32)), (.int v139)])) t → Steps p.tables e below (s₁.setTop (entryFrame m #[(.int p0), (.int p1), (.int p2), (.int p3)] maxLocals)) t := fun t kk => pre140 t (by
        show Steps p.tables e below (T131.setTop (mkF m 91 #[.val (.int p0), .val (.int p1), .val (.int p2), .val (.int p3), .val (.int v48), .val (.int (1 : Int32)), .val (.int (-1 : Int32)), .val (.ref b126), .val (.int (2147483647 : Int32)), .val (.int v139), .unset] [(.int v139)])) _
        refine XS.ifYes X131.here hx rfl (pc0 := 91) (pc' := 120) rfl (hb hby at_91) rfl ((if0 _ _).trans (feq hc141).2) (by decide) (by decide) ?_
        show Steps p.tables e below (T131.setTop (mkF m 120 #[.val (.int p0), .val (.int p1), .val (.int p2), .val (.int p3), .val (.int v48), .val (.int (1 : Int32)), .val (.int (-1 : Int32)), .val (.ref b126), .val (.int (2147483647 : Int32)), .val (.int v139), .unset] [])) _
        refine XS.iload X131.here hx rfl (hb hby at_120) rfl ?_
        show Steps p.tables e below (T131.setTop (mkF m 122 #[.val (.int p0), .val (.int p1), .val (.int p2), .val (.int p3), .val (.int v48), .val (.int (1 : Int32)), .val (.int (-1 : Int32)), .val (.ref b126), .val (.int (2147483647 : Int32)), .val (.int v139), .unset] [(.int v139)])) _
        refine XS.iconst X131.here hx rfl (hb hby at_122) ?_
        show Steps p.tables e below (T131.setTop (mkF m 123 #[.val (.int p0), .val (.int p1), .val (.int p2), .val (.int p3), .val (.int v48), .val (.int (1 : Int32)), .val (.int (-1 : Int32)), .val (.ref b126), .val (.int (2147483647 : Int32)), .val (.int v139), .unset] [(.int (1 : Int32)), (.int v139)])) _
        exact kk)
      by_cases hc152 : v139 = (1 : Int32)
      · obtain ⟨v154, hv154⟩ : ∃ z : Int32, z = ((((p2 &&& (2147483647 : Int32)).toInt64) - (((p2 &&& (2147483647 : Int32)).toInt64) / ((((2147483647 : Int32) - v48).toInt64) + (1 : Int64))) * ((((2147483647 : Int32) - v48).toInt64) + (1 : Int64))).toInt32) := ⟨_, rfl⟩
        obtain ⟨cq155, kq155, q155a, q155b, q155c⟩ := isOf hZ rfl f134
        obtain ⟨_, _, ⟨T155, L155, k155, n155⟩, -, X155, ⟨Lc155, hQ155, l155, y155, z155⟩, st155⟩ := X131.virtualBack hx (y := (⟨"archetest/model/Multiplicity", "contains", "(I)Z"⟩ : MethodName)) (z := (⟨"archetest/model/Multiplicity", "contains", "(I)Z"⟩ : MethodName)) hown (mvT hZ (hw _ (List.mem_of_getElem? (i := 23) rfl))) (mvT hZ (hw _ (List.mem_of_getElem? (i := 24) rfl))) (notFace_of_selects (args := #[]) (mvT hZ (hw _ (List.mem_of_getElem? (i := 26) rfl)))) (mvT hZ (hw _ (List.mem_of_getElem? (i := 26) rfl))) (mvT hZ (hw _ (List.mem_of_getElem? (i := 25) rfl))) (by decide) (backOf (W := 0) (own_rm5 l Z av hw [] b126 (v48 + v154) (v48) ((-1 : Int32)) T131.heap n0 z138 f135 f136) hZ (hw _ (List.mem_of_getElem? (i := 27) rfl)) (hw _ (List.mem_of_getElem? (i := 3) rfl)) (by decide) (by decide)) q155a q155c (g := (mkF m 150 #[.val (.int p0), .val (.int p1), .val (.int p2), .val (.int p3), .val (.int v48), .val (.int (1 : Int32)), .val (.int (-1 : Int32)), .val (.ref b126), .val (.int (2147483647 : Int32)), .val (.int v139), .val (.int v154)] [(.int (v48 + v154)), (.ref b126)])) rfl (by rw [hml]; rfl) (Steps.refl _) (argsL := [(.int (v48 + v154))]) (rest := []) (lenOf own_pd3 rfl) rfl (by show 2 * 0 + _ ≤ _; exact Nat.le_of_eq rfl) (hb hby at_150) (fun _ _ => ⟨rfl, rfl, (by decide : 1 + 0 ≤ _), (by decide : 2 + 0 ≤ _)⟩)
        dsimp only [Pt.U, Pt.locs, Pt.cells, Pt.slots] at X155 l155 y155 z155 st155 hQ155
        subst l155 y155 z155
        obtain ⟨rfl, N155q, e157⟩ := hQ155
        have N156 := Fr.app N133 N155q
        obtain ⟨fs, hr, hrun, hended, hW, hsame⟩ := X155.leave (v := some (.int (nar .boolean (own_f5 v48 (-1 : Int32) (v48 + v154))))) (fun h => by rw [Bd.returns] at h; cases h)
        refine ⟨_, _, pre151 _ ?_, hrun, hended, _, _, rfl, ?_, ⟨_, rfl⟩, hW, hsame.mono (by decide) (by decide)⟩
        · show Steps p.tables e below (T131.setTop (mkF m 123 #[.val (.int p0), .val (.int p1), .val (.int p2), .val (.int p3), .val (.int v48), .val (.int (1 : Int32)), .val (.int (-1 : Int32)), .val (.ref b126), .val (.int (2147483647 : Int32)), .val (.int v139), .unset] [(.int (1 : Int32)), (.int v139)])) _
          refine XS.icmpNo X131.here hx rfl (hb hby at_123) rfl (teq hc152).2 ?_
          show Steps p.tables e below (T131.setTop (mkF m 126 #[.val (.int p0), .val (.int p1), .val (.int p2), .val (.int p3), .val (.int v48), .val (.int (1 : Int32)), .val (.int (-1 : Int32)), .val (.ref b126), .val (.int (2147483647 : Int32)), .val (.int v139), .unset] [])) _
          refine XS.iloadN X131.here hx rfl (hb hby at_126) rfl ?_
          show Steps p.tables e below (T131.setTop (mkF m 127 #[.val (.int p0), .val (.int p1), .val (.int p2), .val (.int p3), .val (.int v48), .val (.int (1 : Int32)), .val (.int (-1 : Int32)), .val (.ref b126), .val (.int (2147483647 : Int32)), .val (.int v139), .unset] [(.int p2)])) _
          refine X131.ldcInt hx hown (mvT hZ (hw _ (List.mem_of_getElem? (i := 0) rfl))) (g := (mkF m 127 #[.val (.int p0), .val (.int p1), .val (.int p2), .val (.int p3), .val (.int v48), .val (.int (1 : Int32)), .val (.int (-1 : Int32)), .val (.ref b126), .val (.int (2147483647 : Int32)), .val (.int v139), .unset] [(.int p2)])) rfl (hb hby at_127) _ ?_
          show Steps p.tables e below (T131.setTop (mkF m 129 #[.val (.int p0), .val (.int p1), .val (.int p2), .val (.int p3), .val (.int v48), .val (.int (1 : Int32)), .val (.int (-1 : Int32)), .val (.ref b126), .val (.int (2147483647 : Int32)), .val (.int v139), .unset] [(.int (2147483647 : Int32)), (.int p2)])) _
          refine XS.iand X131.here hx rfl (hb hby at_129) rfl ?_
          show Steps p.tables e below (T131.setTop (mkF m 130 #[.val (.int p0), .val (.int p1), .val (.int p2), .val (.int p3), .val (.int v48), .val (.int (1 : Int32)), .val (.int (-1 : Int32)), .val (.ref b126), .val (.int (2147483647 : Int32)), .val (.int v139), .unset] [(.int (p2 &&& (2147483647 : Int32)))])) _
          refine XS.i2l X131.here hx rfl (hb hby at_130) rfl ?_
          show Steps p.tables e below (T131.setTop (mkF m 131 #[.val (.int p0), .val (.int p1), .val (.int p2), .val (.int p3), .val (.int v48), .val (.int (1 : Int32)), .val (.int (-1 : Int32)), .val (.ref b126), .val (.int (2147483647 : Int32)), .val (.int v139), .unset] [(.long ((p2 &&& (2147483647 : Int32)).toInt64))])) _
          refine XS.iload X131.here hx rfl (hb hby at_131) rfl ?_
          show Steps p.tables e below (T131.setTop (mkF m 133 #[.val (.int p0), .val (.int p1), .val (.int p2), .val (.int p3), .val (.int v48), .val (.int (1 : Int32)), .val (.int (-1 : Int32)), .val (.ref b126), .val (.int (2147483647 : Int32)), .val (.int v139), .unset] [(.int (2147483647 : Int32)), (.long ((p2 &&& (2147483647 : Int32)).toInt64))])) _
          refine XS.iload X131.here hx rfl (hb hby at_133) rfl ?_
          show Steps p.tables e below (T131.setTop (mkF m 135 #[.val (.int p0), .val (.int p1), .val (.int p2), .val (.int p3), .val (.int v48), .val (.int (1 : Int32)), .val (.int (-1 : Int32)), .val (.ref b126), .val (.int (2147483647 : Int32)), .val (.int v139), .unset] [(.int v48), (.int (2147483647 : Int32)), (.long ((p2 &&& (2147483647 : Int32)).toInt64))])) _
          refine XS.isub X131.here hx rfl (hb hby at_135) rfl ?_
          show Steps p.tables e below (T131.setTop (mkF m 136 #[.val (.int p0), .val (.int p1), .val (.int p2), .val (.int p3), .val (.int v48), .val (.int (1 : Int32)), .val (.int (-1 : Int32)), .val (.ref b126), .val (.int (2147483647 : Int32)), .val (.int v139), .unset] [(.int ((2147483647 : Int32) - v48)), (.long ((p2 &&& (2147483647 : Int32)).toInt64))])) _
          refine XS.i2l X131.here hx rfl (hb hby at_136) rfl ?_
          show Steps p.tables e below (T131.setTop (mkF m 137 #[.val (.int p0), .val (.int p1), .val (.int p2), .val (.int p3), .val (.int v48), .val (.int (1 : Int32)), .val (.int (-1 : Int32)), .val (.ref b126), .val (.int (2147483647 : Int32)), .val (.int v139), .unset] [(.long (((2147483647 : Int32) - v48).toInt64)), (.long ((p2 &&& (2147483647 : Int32)).toInt64))])) _
          refine XS.lconst X131.here hx rfl (hb hby at_137) ?_
          show Steps p.tables e below (T131.setTop (mkF m 138 #[.val (.int p0), .val (.int p1), .val (.int p2), .val (.int p3), .val (.int v48), .val (.int (1 : Int32)), .val (.int (-1 : Int32)), .val (.ref b126), .val (.int (2147483647 : Int32)), .val (.int v139), .unset] [(.long (1 : Int64)), (.long (((2147483647 : Int32) - v48).toInt64)), (.long ((p2 &&& (2147483647 : Int32)).toInt64))])) _
          refine XS.ladd X131.here hx rfl (hb hby at_138) rfl ?_
          show Steps p.tables e below (T131.setTop (mkF m 139 #[.val (.int p0), .val (.int p1), .val (.int p2), .val (.int p3), .val (.int v48), .val (.int (1 : Int32)), .val (.int (-1 : Int32)), .val (.ref b126), .val (.int (2147483647 : Int32)), .val (.int v139), .unset] [(.long ((((2147483647 : Int32) - v48).toInt64) + (1 : Int64))), (.long ((p2 &&& (2147483647 : Int32)).toInt64))])) _
          refine XS.lrem X131.here hx rfl (hb hby at_139) rfl (own_side153 p0 v48 hv48) ?_
          show Steps p.tables e below (T131.setTop (mkF m 140 #[.val (.int p0), .val (.int p1), .val (.int p2), .val (.int p3), .val (.int v48), .val (.int (1 : Int32)), .val (.int (-1 : Int32)), .val (.ref b126), .val (.int (2147483647 : Int32)), .val (.int v139), .unset] [(.long (((p2 &&& (2147483647 : Int32)).toInt64) - (((p2 &&& (2147483647 : Int32)).toInt64) / ((((2147483647 : Int32) - v48).toInt64) + (1 : Int64))) * ((((2147483647 : Int32) - v48).toInt64) + (1 : Int64))))])) _
          refine XS.l2i X131.here hx rfl (hb hby at_140) rfl ?_
          show Steps p.tables e below (T131.setTop (mkF m 141 #[.val (.int p0), .val (.int p1), .val (.int p2), .val (.int p3), .val (.int v48), .val (.int (1 : Int32)), .val (.int (-1 : Int32)), .val (.ref b126), .val (.int (2147483647 : Int32)), .val (.int v139), .unset] [(.int ((((p2 &&& (2147483647 : Int32)).toInt64) - (((p2 &&& (2147483647 : Int32)).toInt64) / ((((2147483647 : Int32) - v48).toInt64) + (1 : Int64))) * ((((2147483647 : Int32) - v48).toInt64) + (1 : Int64))).toInt32))])) _
          refine castTop (congrArg (fun z : Int32 => mkF m 141 #[.val (.int p0), .val (.int p1), .val (.int p2), .val (.int p3), .val (.int v48), .val (.int (1 : Int32)), .val (.int (-1 : Int32)), .val (.ref b126), .val (.int (2147483647 : Int32)), .val (.int v139), .unset] [(.int z)]) hv154.symm) ?_
          show Steps p.tables e below (T131.setTop (mkF m 141 #[.val (.int p0), .val (.int p1), .val (.int p2), .val (.int p3), .val (.int v48), .val (.int (1 : Int32)), .val (.int (-1 : Int32)), .val (.ref b126), .val (.int (2147483647 : Int32)), .val (.int v139), .unset] [(.int v154)])) _
          refine XS.istore X131.here hx rfl (hb hby at_141) rfl (l' := #[.val (.int p0), .val (.int p1), .val (.int p2), .val (.int p3), .val (.int v48), .val (.int (1 : Int32)), .val (.int (-1 : Int32)), .val (.ref b126), .val (.int (2147483647 : Int32)), .val (.int v139), .val (.int v154)]) rfl ?_
          show Steps p.tables e below (T131.setTop (mkF m 143 #[.val (.int p0), .val (.int p1), .val (.int p2), .val (.int p3), .val (.int v48), .val (.int (1 : Int32)), .val (.int (-1 : Int32)), .val (.ref b126), .val (.int (2147483647 : Int32)), .val (.int v139), .val (.int v154)] [])) _
          refine XS.aload X131.here hx rfl (hb hby at_143) rfl rfl ?_
          show Steps p.tables e below (T131.setTop (mkF m 145 #[.val (.int p0), .val (.int p1), .val (.int p2), .val (.int p3), .val (.int v48), .val (.int (1 : Int32)), .val (.int (-1 : Int32)), .val (.ref b126), .val (.int (2147483647 : Int32)), .val (.int v139), .val (.int v154)] [(.ref b126)])) _
          refine XS.iload X131.here hx rfl (hb hby at_145) rfl ?_
          show Steps p.tables e below (T131.setTop (mkF m 147 #[.val (.int p0), .val (.int p1), .val (.int p2), .val (.int p3), .val (.int v48), .val (.int (1 : Int32)), .val (.int (-1 : Int32)), .val (.ref b126), .val (.int (2147483647 : Int32)), .val (.int v139), .val (.int v154)] [(.int v48), (.ref b126)])) _
          refine XS.iload X131.here hx rfl (hb hby at_147) rfl ?_
          show Steps p.tables e below (T131.setTop (mkF m 149 #[.val (.int p0), .val (.int p1), .val (.int p2), .val (.int p3), .val (.int v48), .val (.int (1 : Int32)), .val (.int (-1 : Int32)), .val (.ref b126), .val (.int (2147483647 : Int32)), .val (.int v139), .val (.int v154)] [(.int v154), (.int v48), (.ref b126)])) _
          refine XS.iadd X131.here hx rfl (hb hby at_149) rfl ?_
          show Steps p.tables e below (T131.setTop (mkF m 150 #[.val (.int p0), .val (.int p1), .val (.int p2), .val (.int p3), .val (.int v48), .val (.int (1 : Int32)), .val (.int (-1 : Int32)), .val (.ref b126), .val (.int (2147483647 : Int32)), .val (.int v139), .val (.int v154)] [(.int (v48 + v154)), (.ref b126)])) _
          refine st155.trans ?_
          show Steps p.tables e below (T155.setTop (mkF m 153 #[.val (.int p0), .val (.int p1), .val (.int p2), .val (.int p3), .val (.int v48), .val (.int (1 : Int32)), .val (.int (-1 : Int32)), .val (.ref b126), .val (.int (2147483647 : Int32)), .val (.int v139), .val (.int v154)] [(.int (own_f5 v48 (-1 : Int32) (v48 + v154)))])) _
          exact retN X155 hx (t := .boolean) Bd.returns (by simp) (hb hby at_153) hr
        · show own_Q0 Z p0 p1 p2 p3 h0 n0 _ T155.heap _
          rw [e157]
          exact ⟨(by rw [(own_side158 p0 p2 v48 hv48 v154 hv154)]; rfl), N156⟩
      · have pre159 : ∀ t, Steps p.tables e below (T131.setTop (mkF m 157 #[.val (.int p0), .val (.int p1), .val (.int p2), .val (.int p3), .val (.int v48), .val (.int (1 : Int32)), .val (.int (-1 : Int32)), .val (.ref b126), .val (.int (2147483647 : Int32)), .val (.int v139), .unset] [(.int (2 : Int32)), (.int v139)])) t → Steps p.tables e below (s₁.setTop (entryFrame m #[(.int p0), (.int p1), (.int p2), (.int p3)] maxLocals)) t := fun t kk => pre151 t (by
          show Steps p.tables e below (T131.setTop (mkF m 123 #[.val (.int p0), .val (.int p1), .val (.int p2), .val (.int p3), .val (.int v48), .val (.int (1 : Int32)), .val (.int (-1 : Int32)), .val (.ref b126), .val (.int (2147483647 : Int32)), .val (.int v139), .unset] [(.int (1 : Int32)), (.int v139)])) _
          refine XS.icmpYes X131.here hx rfl (pc0 := 123) (pc' := 154) rfl (hb hby at_123) rfl (feq hc152).2 (by decide) (by decide) ?_
          show Steps p.tables e below (T131.setTop (mkF m 154 #[.val (.int p0), .val (.int p1), .val (.int p2), .val (.int p3), .val (.int v48), .val (.int (1 : Int32)), .val (.int (-1 : Int32)), .val (.ref b126), .val (.int (2147483647 : Int32)), .val (.int v139), .unset] [])) _
          refine XS.iload X131.here hx rfl (hb hby at_154) rfl ?_
          show Steps p.tables e below (T131.setTop (mkF m 156 #[.val (.int p0), .val (.int p1), .val (.int p2), .val (.int p3), .val (.int v48), .val (.int (1 : Int32)), .val (.int (-1 : Int32)), .val (.ref b126), .val (.int (2147483647 : Int32)), .val (.int v139), .unset] [(.int v139)])) _
          refine XS.iconst X131.here hx rfl (hb hby at_156) ?_
          show Steps p.tables e below (T131.setTop (mkF m 157 #[.val (.int p0), .val (.int p1), .val (.int p2), .val (.int p3), .val (.int v48), .val (.int (1 : Int32)), .val (.int (-1 : Int32)), .val (.ref b126), .val (.int (2147483647 : Int32)), .val (.int v139), .unset] [(.int (2 : Int32)), (.int v139)])) _
          exact kk)
        by_cases hc160 : v139 = (2 : Int32)
        · obtain ⟨cq161, kq161, q161a, q161b, q161c⟩ := isOf hZ rfl f134
          obtain ⟨_, _, ⟨T161, L161, k161, n161⟩, -, X161, ⟨Lc161, hQ161, l161, y161, z161⟩, st161⟩ := X131.virtualBack hx (y := (⟨"archetest/model/Multiplicity", "contains", "(I)Z"⟩ : MethodName)) (z := (⟨"archetest/model/Multiplicity", "contains", "(I)Z"⟩ : MethodName)) hown (mvT hZ (hw _ (List.mem_of_getElem? (i := 23) rfl))) (mvT hZ (hw _ (List.mem_of_getElem? (i := 24) rfl))) (notFace_of_selects (args := #[]) (mvT hZ (hw _ (List.mem_of_getElem? (i := 26) rfl)))) (mvT hZ (hw _ (List.mem_of_getElem? (i := 26) rfl))) (mvT hZ (hw _ (List.mem_of_getElem? (i := 25) rfl))) (by decide) (backOf (W := 0) (own_rm5 l Z av hw [] b126 (2147483647 : Int32) (v48) ((-1 : Int32)) T131.heap n0 z138 f135 f136) hZ (hw _ (List.mem_of_getElem? (i := 27) rfl)) (hw _ (List.mem_of_getElem? (i := 3) rfl)) (by decide) (by decide)) q161a q161c (g := (mkF m 171 #[.val (.int p0), .val (.int p1), .val (.int p2), .val (.int p3), .val (.int v48), .val (.int (1 : Int32)), .val (.int (-1 : Int32)), .val (.ref b126), .val (.int (2147483647 : Int32)), .val (.int v139), .unset] [(.int (2147483647 : Int32)), (.ref b126)])) rfl (by rw [hml]; rfl) (Steps.refl _) (argsL := [(.int (2147483647 : Int32))]) (rest := []) (lenOf own_pd3 rfl) rfl (by show 2 * 0 + _ ≤ _; exact Nat.le_of_eq rfl) (hb hby at_171) (fun _ _ => ⟨rfl, rfl, (by decide : 1 + 0 ≤ _), (by decide : 2 + 0 ≤ _)⟩)
          dsimp only [Pt.U, Pt.locs, Pt.cells, Pt.slots] at X161 l161 y161 z161 st161 hQ161
          subst l161 y161 z161
          obtain ⟨rfl, N161q, e163⟩ := hQ161
          have N162 := Fr.app N133 N161q
          have pre164 : ∀ t, Steps p.tables e below (T161.setTop (mkF m 174 #[.val (.int p0), .val (.int p1), .val (.int p2), .val (.int p3), .val (.int v48), .val (.int (1 : Int32)), .val (.int (-1 : Int32)), .val (.ref b126), .val (.int (2147483647 : Int32)), .val (.int v139), .unset] [(.int (own_f5 v48 (-1 : Int32) (2147483647 : Int32)))])) t → Steps p.tables e below (s₁.setTop (entryFrame m #[(.int p0), (.int p1), (.int p2), (.int p3)] maxLocals)) t := fun t kk => pre159 t (by
            show Steps p.tables e below (T131.setTop (mkF m 157 #[.val (.int p0), .val (.int p1), .val (.int p2), .val (.int p3), .val (.int v48), .val (.int (1 : Int32)), .val (.int (-1 : Int32)), .val (.ref b126), .val (.int (2147483647 : Int32)), .val (.int v139), .unset] [(.int (2 : Int32)), (.int v139)])) _
            refine XS.icmpNo X131.here hx rfl (hb hby at_157) rfl (teq hc160).2 ?_
            show Steps p.tables e below (T131.setTop (mkF m 160 #[.val (.int p0), .val (.int p1), .val (.int p2), .val (.int p3), .val (.int v48), .val (.int (1 : Int32)), .val (.int (-1 : Int32)), .val (.ref b126), .val (.int (2147483647 : Int32)), .val (.int v139), .unset] [])) _
            refine XS.iload X131.here hx rfl (hb hby at_160) rfl ?_
            show Steps p.tables e below (T131.setTop (mkF m 162 #[.val (.int p0), .val (.int p1), .val (.int p2), .val (.int p3), .val (.int v48), .val (.int (1 : Int32)), .val (.int (-1 : Int32)), .val (.ref b126), .val (.int (2147483647 : Int32)), .val (.int v139), .unset] [(.int (2147483647 : Int32))])) _
            refine X131.ldcInt hx hown (mvT hZ (hw _ (List.mem_of_getElem? (i := 0) rfl))) (g := (mkF m 162 #[.val (.int p0), .val (.int p1), .val (.int p2), .val (.int p3), .val (.int v48), .val (.int (1 : Int32)), .val (.int (-1 : Int32)), .val (.ref b126), .val (.int (2147483647 : Int32)), .val (.int v139), .unset] [(.int (2147483647 : Int32))])) rfl (hb hby at_162) _ ?_
            show Steps p.tables e below (T131.setTop (mkF m 164 #[.val (.int p0), .val (.int p1), .val (.int p2), .val (.int p3), .val (.int v48), .val (.int (1 : Int32)), .val (.int (-1 : Int32)), .val (.ref b126), .val (.int (2147483647 : Int32)), .val (.int v139), .unset] [(.int (2147483647 : Int32)), (.int (2147483647 : Int32))])) _
            refine XS.icmpNo X131.here hx rfl (hb hby at_164) rfl (teq (by decide : (2147483647 : Int32) = (2147483647 : Int32))).2 ?_
            show Steps p.tables e below (T131.setTop (mkF m 167 #[.val (.int p0), .val (.int p1), .val (.int p2), .val (.int p3), .val (.int v48), .val (.int (1 : Int32)), .val (.int (-1 : Int32)), .val (.ref b126), .val (.int (2147483647 : Int32)), .val (.int v139), .unset] [])) _
            refine XS.aload X131.here hx rfl (hb hby at_167) rfl rfl ?_
            show Steps p.tables e below (T131.setTop (mkF m 169 #[.val (.int p0), .val (.int p1), .val (.int p2), .val (.int p3), .val (.int v48), .val (.int (1 : Int32)), .val (.int (-1 : Int32)), .val (.ref b126), .val (.int (2147483647 : Int32)), .val (.int v139), .unset] [(.ref b126)])) _
            refine X131.ldcInt hx hown (mvT hZ (hw _ (List.mem_of_getElem? (i := 0) rfl))) (g := (mkF m 169 #[.val (.int p0), .val (.int p1), .val (.int p2), .val (.int p3), .val (.int v48), .val (.int (1 : Int32)), .val (.int (-1 : Int32)), .val (.ref b126), .val (.int (2147483647 : Int32)), .val (.int v139), .unset] [(.ref b126)])) rfl (hb hby at_169) _ ?_
            show Steps p.tables e below (T131.setTop (mkF m 171 #[.val (.int p0), .val (.int p1), .val (.int p2), .val (.int p3), .val (.int v48), .val (.int (1 : Int32)), .val (.int (-1 : Int32)), .val (.ref b126), .val (.int (2147483647 : Int32)), .val (.int v139), .unset] [(.int (2147483647 : Int32)), (.ref b126)])) _
            refine st161.trans ?_
            show Steps p.tables e below (T161.setTop (mkF m 174 #[.val (.int p0), .val (.int p1), .val (.int p2), .val (.int p3), .val (.int v48), .val (.int (1 : Int32)), .val (.int (-1 : Int32)), .val (.ref b126), .val (.int (2147483647 : Int32)), .val (.int v139), .unset] [(.int (own_f5 v48 (-1 : Int32) (2147483647 : Int32)))])) _
            exact kk)
          by_cases hc165 : (own_f5 v48 (-1 : Int32) (2147483647 : Int32)) = (0 : Int32)
          · exact (own_leaf0_16 p0 p1 p2 p3 v48 hv48 hc50 v139 hv139 hc141 hc152 hc160 hc165).elim
          · obtain ⟨cq166, kq166, q166a, q166b, q166c⟩ := isOf hZ e163 f134
            obtain ⟨_, _, ⟨T166, L166, k166, n166⟩, -, X166, ⟨Lc166, hQ166, l166, y166, z166⟩, st166⟩ := X161.virtualBack hx (y := (⟨"archetest/model/Multiplicity", "contains", "(I)Z"⟩ : MethodName)) (z := (⟨"archetest/model/Multiplicity", "contains", "(I)Z"⟩ : MethodName)) hown (mvT hZ (hw _ (List.mem_of_getElem? (i := 23) rfl))) (mvT hZ (hw _ (List.mem_of_getElem? (i := 24) rfl))) (notFace_of_selects (args := #[]) (mvT hZ (hw _ (List.mem_of_getElem? (i := 26) rfl)))) (mvT hZ (hw _ (List.mem_of_getElem? (i := 26) rfl))) (mvT hZ (hw _ (List.mem_of_getElem? (i := 25) rfl))) (by decide) (backOf (W := 0) (own_rm5 l Z av hw [] b126 (-2147483648 : Int32) (v48) ((-1 : Int32)) T131.heap n0 z138 f135 f136) hZ (hw _ (List.mem_of_getElem? (i := 27) rfl)) (hw _ (List.mem_of_getElem? (i := 3) rfl)) (by decide) (by decide)) q166a q166c (g := (mkF m 181 #[.val (.int p0), .val (.int p1), .val (.int p2), .val (.int p3), .val (.int v48), .val (.int (1 : Int32)), .val (.int (-1 : Int32)), .val (.ref b126), .val (.int (2147483647 : Int32)), .val (.int v139), .unset] [(.int (-2147483648 : Int32)), (.ref b126)])) rfl (by rw [hml]; rfl) (Steps.refl _) (argsL := [(.int (-2147483648 : Int32))]) (rest := []) (lenOf own_pd3 rfl) rfl (by show 2 * 0 + _ ≤ _; exact Nat.le_of_eq rfl) (hb hby at_181) (fun _ _ => ⟨rfl, e163, (by decide : 1 + 0 ≤ _), (by decide : 2 + 0 ≤ _)⟩)
            dsimp only [Pt.U, Pt.locs, Pt.cells, Pt.slots] at X166 l166 y166 z166 st166 hQ166
            subst l166 y166 z166
            obtain ⟨rfl, N166q, e168⟩ := hQ166
            have N167 := Fr.app N162 N166q
            have pre169 : ∀ t, Steps p.tables e below (T166.setTop (mkF m 184 #[.val (.int p0), .val (.int p1), .val (.int p2), .val (.int p3), .val (.int v48), .val (.int (1 : Int32)), .val (.int (-1 : Int32)), .val (.ref b126), .val (.int (2147483647 : Int32)), .val (.int v139), .unset] [(.int (own_f5 v48 (-1 : Int32) (-2147483648 : Int32)))])) t → Steps p.tables e below (s₁.setTop (entryFrame m #[(.int p0), (.int p1), (.int p2), (.int p3)] maxLocals)) t := fun t kk => pre164 t (by
              show Steps p.tables e below (T161.setTop (mkF m 174 #[.val (.int p0), .val (.int p1), .val (.int p2), .val (.int p3), .val (.int v48), .val (.int (1 : Int32)), .val (.int (-1 : Int32)), .val (.ref b126), .val (.int (2147483647 : Int32)), .val (.int v139), .unset] [(.int (own_f5 v48 (-1 : Int32) (2147483647 : Int32)))])) _
              refine XS.ifNo X161.here hx rfl (hb hby at_174) rfl ((if0 _ _).trans (feq hc165).1) ?_
              show Steps p.tables e below (T161.setTop (mkF m 177 #[.val (.int p0), .val (.int p1), .val (.int p2), .val (.int p3), .val (.int v48), .val (.int (1 : Int32)), .val (.int (-1 : Int32)), .val (.ref b126), .val (.int (2147483647 : Int32)), .val (.int v139), .unset] [])) _
              refine XS.aload X161.here hx rfl (hb hby at_177) rfl rfl ?_
              show Steps p.tables e below (T161.setTop (mkF m 179 #[.val (.int p0), .val (.int p1), .val (.int p2), .val (.int p3), .val (.int v48), .val (.int (1 : Int32)), .val (.int (-1 : Int32)), .val (.ref b126), .val (.int (2147483647 : Int32)), .val (.int v139), .unset] [(.ref b126)])) _
              refine X161.ldcInt hx hown (mvT hZ (hw _ (List.mem_of_getElem? (i := 32) rfl))) (g := (mkF m 179 #[.val (.int p0), .val (.int p1), .val (.int p2), .val (.int p3), .val (.int v48), .val (.int (1 : Int32)), .val (.int (-1 : Int32)), .val (.ref b126), .val (.int (2147483647 : Int32)), .val (.int v139), .unset] [(.ref b126)])) rfl (hb hby at_179) _ ?_
              show Steps p.tables e below (T161.setTop (mkF m 181 #[.val (.int p0), .val (.int p1), .val (.int p2), .val (.int p3), .val (.int v48), .val (.int (1 : Int32)), .val (.int (-1 : Int32)), .val (.ref b126), .val (.int (2147483647 : Int32)), .val (.int v139), .unset] [(.int (-2147483648 : Int32)), (.ref b126)])) _
              refine st166.trans ?_
              show Steps p.tables e below (T166.setTop (mkF m 184 #[.val (.int p0), .val (.int p1), .val (.int p2), .val (.int p3), .val (.int v48), .val (.int (1 : Int32)), .val (.int (-1 : Int32)), .val (.ref b126), .val (.int (2147483647 : Int32)), .val (.int v139), .unset] [(.int (own_f5 v48 (-1 : Int32) (-2147483648 : Int32)))])) _
              exact kk)
            by_cases hc170 : (own_f5 v48 (-1 : Int32) (-2147483648 : Int32)) = (0 : Int32)
            · obtain ⟨fs, hr, hrun, hended, hW, hsame⟩ := X166.leave (v := some (.int (1 : Int32))) (fun h => by rw [Bd.returns] at h; cases h)
              refine ⟨_, _, pre169 _ ?_, hrun, hended, _, _, rfl, ?_, ⟨_, rfl⟩, hW, hsame.mono (by decide) (by decide)⟩
              · show Steps p.tables e below (T166.setTop (mkF m 184 #[.val (.int p0), .val (.int p1), .val (.int p2), .val (.int p3), .val (.int v48), .val (.int (1 : Int32)), .val (.int (-1 : Int32)), .val (.ref b126), .val (.int (2147483647 : Int32)), .val (.int v139), .unset] [(.int (own_f5 v48 (-1 : Int32) (-2147483648 : Int32)))])) _
                refine XS.ifNo X166.here hx rfl (hb hby at_184) rfl ((if0 _ _).trans (teq hc170).2) ?_
                show Steps p.tables e below (T166.setTop (mkF m 187 #[.val (.int p0), .val (.int p1), .val (.int p2), .val (.int p3), .val (.int v48), .val (.int (1 : Int32)), .val (.int (-1 : Int32)), .val (.ref b126), .val (.int (2147483647 : Int32)), .val (.int v139), .unset] [])) _
                refine XS.iconst X166.here hx rfl (hb hby at_187) ?_
                show Steps p.tables e below (T166.setTop (mkF m 188 #[.val (.int p0), .val (.int p1), .val (.int p2), .val (.int p3), .val (.int v48), .val (.int (1 : Int32)), .val (.int (-1 : Int32)), .val (.ref b126), .val (.int (2147483647 : Int32)), .val (.int v139), .unset] [(.int (1 : Int32))])) _
                refine XS.goto X166.here hx rfl (pc0 := 188) (pc' := 192) rfl (hb hby at_188) (by decide) (by decide) ?_
                show Steps p.tables e below (T166.setTop (mkF m 192 #[.val (.int p0), .val (.int p1), .val (.int p2), .val (.int p3), .val (.int v48), .val (.int (1 : Int32)), .val (.int (-1 : Int32)), .val (.ref b126), .val (.int (2147483647 : Int32)), .val (.int v139), .unset] [(.int (1 : Int32))])) _
                exact retN X166 hx (t := .boolean) Bd.returns (by simp) (hb hby at_192) hr
              · show own_Q0 Z p0 p1 p2 p3 h0 n0 _ T166.heap _
                rw [e168]
                exact ⟨rfl, N167⟩
            · exact (own_leaf0_18 p0 p1 p2 p3 v48 hv48 hc50 v139 hv139 hc141 hc152 hc160 hc165 hc170).elim
        · obtain ⟨cq171, kq171, q171a, q171b, q171c⟩ := isOf hZ rfl f134
          obtain ⟨_, _, ⟨T171, L171, k171, n171⟩, -, X171, ⟨Lc171, hQ171, l171, y171, z171⟩, st171⟩ := X131.virtualBack hx (y := (⟨"archetest/model/Multiplicity", "contains", "(I)Z"⟩ : MethodName)) (z := (⟨"archetest/model/Multiplicity", "contains", "(I)Z"⟩ : MethodName)) hown (mvT hZ (hw _ (List.mem_of_getElem? (i := 23) rfl))) (mvT hZ (hw _ (List.mem_of_getElem? (i := 24) rfl))) (notFace_of_selects (args := #[]) (mvT hZ (hw _ (List.mem_of_getElem? (i := 26) rfl)))) (mvT hZ (hw _ (List.mem_of_getElem? (i := 26) rfl))) (mvT hZ (hw _ (List.mem_of_getElem? (i := 25) rfl))) (by decide) (backOf (W := 0) (own_rm5 l Z av hw [] b126 v48 (v48) ((-1 : Int32)) T131.heap n0 z138 f135 f136) hZ (hw _ (List.mem_of_getElem? (i := 27) rfl)) (hw _ (List.mem_of_getElem? (i := 3) rfl)) (by decide) (by decide)) q171a q171c (g := (mkF m 223 #[.val (.int p0), .val (.int p1), .val (.int p2), .val (.int p3), .val (.int v48), .val (.int (1 : Int32)), .val (.int (-1 : Int32)), .val (.ref b126), .val (.int (2147483647 : Int32)), .val (.int v139), .unset] [(.int v48), (.ref b126)])) rfl (by rw [hml]; rfl) (Steps.refl _) (argsL := [(.int v48)]) (rest := []) (lenOf own_pd3 rfl) rfl (by show 2 * 0 + _ ≤ _; exact Nat.le_of_eq rfl) (hb hby at_223) (fun _ _ => ⟨rfl, rfl, (by decide : 1 + 0 ≤ _), (by decide : 2 + 0 ≤ _)⟩)
          dsimp only [Pt.U, Pt.locs, Pt.cells, Pt.slots] at X171 l171 y171 z171 st171 hQ171
          subst l171 y171 z171
          obtain ⟨rfl, N171q, e173⟩ := hQ171
          have N172 := Fr.app N133 N171q
          have pre174 : ∀ t, Steps p.tables e below (T171.setTop (mkF m 226 #[.val (.int p0), .val (.int p1), .val (.int p2), .val (.int p3), .val (.int v48), .val (.int (1 : Int32)), .val (.int (-1 : Int32)), .val (.ref b126), .val (.int (2147483647 : Int32)), .val (.int v139), .unset] [(.int (own_f5 v48 (-1 : Int32) v48))])) t → Steps p.tables e below (s₁.setTop (entryFrame m #[(.int p0), (.int p1), (.int p2), (.int p3)] maxLocals)) t := fun t kk => pre159 t (by
            show Steps p.tables e below (T131.setTop (mkF m 157 #[.val (.int p0), .val (.int p1), .val (.int p2), .val (.int p3), .val (.int v48), .val (.int (1 : Int32)), .val (.int (-1 : Int32)), .val (.ref b126), .val (.int (2147483647 : Int32)), .val (.int v139), .unset] [(.int (2 : Int32)), (.int v139)])) _
            refine XS.icmpYes X131.here hx rfl (pc0 := 157) (pc' := 219) rfl (hb hby at_157) rfl (feq hc160).2 (by decide) (by decide) ?_
            show Steps p.tables e below (T131.setTop (mkF m 219 #[.val (.int p0), .val (.int p1), .val (.int p2), .val (.int p3), .val (.int v48), .val (.int (1 : Int32)), .val (.int (-1 : Int32)), .val (.ref b126), .val (.int (2147483647 : Int32)), .val (.int v139), .unset] [])) _
            refine XS.aload X131.here hx rfl (hb hby at_219) rfl rfl ?_
            show Steps p.tables e below (T131.setTop (mkF m 221 #[.val (.int p0), .val (.int p1), .val (.int p2), .val (.int p3), .val (.int v48), .val (.int (1 : Int32)), .val (.int (-1 : Int32)), .val (.ref b126), .val (.int (2147483647 : Int32)), .val (.int v139), .unset] [(.ref b126)])) _
            refine XS.iload X131.here hx rfl (hb hby at_221) rfl ?_
            show Steps p.tables e below (T131.setTop (mkF m 223 #[.val (.int p0), .val (.int p1), .val (.int p2), .val (.int p3), .val (.int v48), .val (.int (1 : Int32)), .val (.int (-1 : Int32)), .val (.ref b126), .val (.int (2147483647 : Int32)), .val (.int v139), .unset] [(.int v48), (.ref b126)])) _
            refine st171.trans ?_
            show Steps p.tables e below (T171.setTop (mkF m 226 #[.val (.int p0), .val (.int p1), .val (.int p2), .val (.int p3), .val (.int v48), .val (.int (1 : Int32)), .val (.int (-1 : Int32)), .val (.ref b126), .val (.int (2147483647 : Int32)), .val (.int v139), .unset] [(.int (own_f5 v48 (-1 : Int32) v48))])) _
            exact kk)
          by_cases hc175 : (own_f5 v48 (-1 : Int32) v48) = (0 : Int32)
          · exact (own_leaf0_19 p0 p1 p2 p3 v48 hv48 hc50 v139 hv139 hc141 hc152 hc160 hc175).elim
          · obtain ⟨cq176, kq176, q176a, q176b, q176c⟩ := isOf hZ e173 f134
            obtain ⟨_, _, ⟨T176, L176, k176, n176⟩, -, X176, ⟨Lc176, hQ176, l176, y176, z176⟩, st176⟩ := X171.virtualBack hx (y := (⟨"archetest/model/Multiplicity", "contains", "(I)Z"⟩ : MethodName)) (z := (⟨"archetest/model/Multiplicity", "contains", "(I)Z"⟩ : MethodName)) hown (mvT hZ (hw _ (List.mem_of_getElem? (i := 23) rfl))) (mvT hZ (hw _ (List.mem_of_getElem? (i := 24) rfl))) (notFace_of_selects (args := #[]) (mvT hZ (hw _ (List.mem_of_getElem? (i := 26) rfl)))) (mvT hZ (hw _ (List.mem_of_getElem? (i := 26) rfl))) (mvT hZ (hw _ (List.mem_of_getElem? (i := 25) rfl))) (by decide) (backOf (W := 0) (own_rm5 l Z av hw [] b126 (2147483647 : Int32) (v48) ((-1 : Int32)) T131.heap n0 z138 f135 f136) hZ (hw _ (List.mem_of_getElem? (i := 27) rfl)) (hw _ (List.mem_of_getElem? (i := 3) rfl)) (by decide) (by decide)) q176a q176c (g := (mkF m 233 #[.val (.int p0), .val (.int p1), .val (.int p2), .val (.int p3), .val (.int v48), .val (.int (1 : Int32)), .val (.int (-1 : Int32)), .val (.ref b126), .val (.int (2147483647 : Int32)), .val (.int v139), .unset] [(.int (2147483647 : Int32)), (.ref b126)])) rfl (by rw [hml]; rfl) (Steps.refl _) (argsL := [(.int (2147483647 : Int32))]) (rest := []) (lenOf own_pd3 rfl) rfl (by show 2 * 0 + _ ≤ _; exact Nat.le_of_eq rfl) (hb hby at_233) (fun _ _ => ⟨rfl, e173, (by decide : 1 + 0 ≤ _), (by decide : 2 + 0 ≤ _)⟩)
            dsimp only [Pt.U, Pt.locs, Pt.cells, Pt.slots] at X176 l176 y176 z176 st176 hQ176
            subst l176 y176 z176
            obtain ⟨rfl, N176q, e178⟩ := hQ176
            have N177 := Fr.app N172 N176q
            have pre179 : ∀ t, Steps p.tables e below (T176.setTop (mkF m 236 #[.val (.int p0), .val (.int p1), .val (.int p2), .val (.int p3), .val (.int v48), .val (.int (1 : Int32)), .val (.int (-1 : Int32)), .val (.ref b126), .val (.int (2147483647 : Int32)), .val (.int v139), .unset] [(.int (own_f5 v48 (-1 : Int32) (2147483647 : Int32)))])) t → Steps p.tables e below (s₁.setTop (entryFrame m #[(.int p0), (.int p1), (.int p2), (.int p3)] maxLocals)) t := fun t kk => pre174 t (by
              show Steps p.tables e below (T171.setTop (mkF m 226 #[.val (.int p0), .val (.int p1), .val (.int p2), .val (.int p3), .val (.int v48), .val (.int (1 : Int32)), .val (.int (-1 : Int32)), .val (.ref b126), .val (.int (2147483647 : Int32)), .val (.int v139), .unset] [(.int (own_f5 v48 (-1 : Int32) v48))])) _
              refine XS.ifNo X171.here hx rfl (hb hby at_226) rfl ((if0 _ _).trans (feq hc175).1) ?_
              show Steps p.tables e below (T171.setTop (mkF m 229 #[.val (.int p0), .val (.int p1), .val (.int p2), .val (.int p3), .val (.int v48), .val (.int (1 : Int32)), .val (.int (-1 : Int32)), .val (.ref b126), .val (.int (2147483647 : Int32)), .val (.int v139), .unset] [])) _
              refine XS.aload X171.here hx rfl (hb hby at_229) rfl rfl ?_
              show Steps p.tables e below (T171.setTop (mkF m 231 #[.val (.int p0), .val (.int p1), .val (.int p2), .val (.int p3), .val (.int v48), .val (.int (1 : Int32)), .val (.int (-1 : Int32)), .val (.ref b126), .val (.int (2147483647 : Int32)), .val (.int v139), .unset] [(.ref b126)])) _
              refine XS.iload X171.here hx rfl (hb hby at_231) rfl ?_
              show Steps p.tables e below (T171.setTop (mkF m 233 #[.val (.int p0), .val (.int p1), .val (.int p2), .val (.int p3), .val (.int v48), .val (.int (1 : Int32)), .val (.int (-1 : Int32)), .val (.ref b126), .val (.int (2147483647 : Int32)), .val (.int v139), .unset] [(.int (2147483647 : Int32)), (.ref b126)])) _
              refine st176.trans ?_
              show Steps p.tables e below (T176.setTop (mkF m 236 #[.val (.int p0), .val (.int p1), .val (.int p2), .val (.int p3), .val (.int v48), .val (.int (1 : Int32)), .val (.int (-1 : Int32)), .val (.ref b126), .val (.int (2147483647 : Int32)), .val (.int v139), .unset] [(.int (own_f5 v48 (-1 : Int32) (2147483647 : Int32)))])) _
              exact kk)
            by_cases hc180 : (own_f5 v48 (-1 : Int32) (2147483647 : Int32)) = (0 : Int32)
            · exact (own_leaf0_20 p0 p1 p2 p3 v48 hv48 hc50 v139 hv139 hc141 hc152 hc160 hc175 hc180).elim
            · obtain ⟨cq181, kq181, q181a, q181b, q181c⟩ := isOf hZ e178 f134
              obtain ⟨_, _, ⟨T181, L181, k181, n181⟩, -, X181, ⟨Lc181, hQ181, l181, y181, z181⟩, st181⟩ := X176.virtualBack hx (y := (⟨"archetest/model/Multiplicity", "contains", "(I)Z"⟩ : MethodName)) (z := (⟨"archetest/model/Multiplicity", "contains", "(I)Z"⟩ : MethodName)) hown (mvT hZ (hw _ (List.mem_of_getElem? (i := 23) rfl))) (mvT hZ (hw _ (List.mem_of_getElem? (i := 24) rfl))) (notFace_of_selects (args := #[]) (mvT hZ (hw _ (List.mem_of_getElem? (i := 26) rfl)))) (mvT hZ (hw _ (List.mem_of_getElem? (i := 26) rfl))) (mvT hZ (hw _ (List.mem_of_getElem? (i := 25) rfl))) (by decide) (backOf (W := 0) (own_rm5 l Z av hw [] b126 (v48 - (1 : Int32)) (v48) ((-1 : Int32)) T131.heap n0 z138 f135 f136) hZ (hw _ (List.mem_of_getElem? (i := 27) rfl)) (hw _ (List.mem_of_getElem? (i := 3) rfl)) (by decide) (by decide)) q181a q181c (g := (mkF m 245 #[.val (.int p0), .val (.int p1), .val (.int p2), .val (.int p3), .val (.int v48), .val (.int (1 : Int32)), .val (.int (-1 : Int32)), .val (.ref b126), .val (.int (2147483647 : Int32)), .val (.int v139), .unset] [(.int (v48 - (1 : Int32))), (.ref b126)])) rfl (by rw [hml]; rfl) (Steps.refl _) (argsL := [(.int (v48 - (1 : Int32)))]) (rest := []) (lenOf own_pd3 rfl) rfl (by show 2 * 0 + _ ≤ _; exact Nat.le_of_eq rfl) (hb hby at_245) (fun _ _ => ⟨rfl, e178, (by decide : 1 + 0 ≤ _), (by decide : 2 + 0 ≤ _)⟩)
              dsimp only [Pt.U, Pt.locs, Pt.cells, Pt.slots] at X181 l181 y181 z181 st181 hQ181
              subst l181 y181 z181
              obtain ⟨rfl, N181q, e183⟩ := hQ181
              have N182 := Fr.app N177 N181q
              have pre184 : ∀ t, Steps p.tables e below (T181.setTop (mkF m 248 #[.val (.int p0), .val (.int p1), .val (.int p2), .val (.int p3), .val (.int v48), .val (.int (1 : Int32)), .val (.int (-1 : Int32)), .val (.ref b126), .val (.int (2147483647 : Int32)), .val (.int v139), .unset] [(.int (own_f5 v48 (-1 : Int32) (v48 - (1 : Int32))))])) t → Steps p.tables e below (s₁.setTop (entryFrame m #[(.int p0), (.int p1), (.int p2), (.int p3)] maxLocals)) t := fun t kk => pre179 t (by
                show Steps p.tables e below (T176.setTop (mkF m 236 #[.val (.int p0), .val (.int p1), .val (.int p2), .val (.int p3), .val (.int v48), .val (.int (1 : Int32)), .val (.int (-1 : Int32)), .val (.ref b126), .val (.int (2147483647 : Int32)), .val (.int v139), .unset] [(.int (own_f5 v48 (-1 : Int32) (2147483647 : Int32)))])) _
                refine XS.ifNo X176.here hx rfl (hb hby at_236) rfl ((if0 _ _).trans (feq hc180).1) ?_
                show Steps p.tables e below (T176.setTop (mkF m 239 #[.val (.int p0), .val (.int p1), .val (.int p2), .val (.int p3), .val (.int v48), .val (.int (1 : Int32)), .val (.int (-1 : Int32)), .val (.ref b126), .val (.int (2147483647 : Int32)), .val (.int v139), .unset] [])) _
                refine XS.aload X176.here hx rfl (hb hby at_239) rfl rfl ?_
                show Steps p.tables e below (T176.setTop (mkF m 241 #[.val (.int p0), .val (.int p1), .val (.int p2), .val (.int p3), .val (.int v48), .val (.int (1 : Int32)), .val (.int (-1 : Int32)), .val (.ref b126), .val (.int (2147483647 : Int32)), .val (.int v139), .unset] [(.ref b126)])) _
                refine XS.iload X176.here hx rfl (hb hby at_241) rfl ?_
                show Steps p.tables e below (T176.setTop (mkF m 243 #[.val (.int p0), .val (.int p1), .val (.int p2), .val (.int p3), .val (.int v48), .val (.int (1 : Int32)), .val (.int (-1 : Int32)), .val (.ref b126), .val (.int (2147483647 : Int32)), .val (.int v139), .unset] [(.int v48), (.ref b126)])) _
                refine XS.iconst X176.here hx rfl (hb hby at_243) ?_
                show Steps p.tables e below (T176.setTop (mkF m 244 #[.val (.int p0), .val (.int p1), .val (.int p2), .val (.int p3), .val (.int v48), .val (.int (1 : Int32)), .val (.int (-1 : Int32)), .val (.ref b126), .val (.int (2147483647 : Int32)), .val (.int v139), .unset] [(.int (1 : Int32)), (.int v48), (.ref b126)])) _
                refine XS.isub X176.here hx rfl (hb hby at_244) rfl ?_
                show Steps p.tables e below (T176.setTop (mkF m 245 #[.val (.int p0), .val (.int p1), .val (.int p2), .val (.int p3), .val (.int v48), .val (.int (1 : Int32)), .val (.int (-1 : Int32)), .val (.ref b126), .val (.int (2147483647 : Int32)), .val (.int v139), .unset] [(.int (v48 - (1 : Int32))), (.ref b126)])) _
                refine st181.trans ?_
                show Steps p.tables e below (T181.setTop (mkF m 248 #[.val (.int p0), .val (.int p1), .val (.int p2), .val (.int p3), .val (.int v48), .val (.int (1 : Int32)), .val (.int (-1 : Int32)), .val (.ref b126), .val (.int (2147483647 : Int32)), .val (.int v139), .unset] [(.int (own_f5 v48 (-1 : Int32) (v48 - (1 : Int32))))])) _
                exact kk)
              by_cases hc185 : (own_f5 v48 (-1 : Int32) (v48 - (1 : Int32))) = (0 : Int32)
              · obtain ⟨fs, hr, hrun, hended, hW, hsame⟩ := X181.leave (v := some (.int (1 : Int32))) (fun h => by rw [Bd.returns] at h; cases h)
                refine ⟨_, _, pre184 _ ?_, hrun, hended, _, _, rfl, ?_, ⟨_, rfl⟩, hW, hsame.mono (by decide) (by decide)⟩
                · show Steps p.tables e below (T181.setTop (mkF m 248 #[.val (.int p0), .val (.int p1), .val (.int p2), .val (.int p3), .val (.int v48), .val (.int (1 : Int32)), .val (.int (-1 : Int32)), .val (.ref b126), .val (.int (2147483647 : Int32)), .val (.int v139), .unset] [(.int (own_f5 v48 (-1 : Int32) (v48 - (1 : Int32))))])) _
                  refine XS.ifNo X181.here hx rfl (hb hby at_248) rfl ((if0 _ _).trans (teq hc185).2) ?_
                  show Steps p.tables e below (T181.setTop (mkF m 251 #[.val (.int p0), .val (.int p1), .val (.int p2), .val (.int p3), .val (.int v48), .val (.int (1 : Int32)), .val (.int (-1 : Int32)), .val (.ref b126), .val (.int (2147483647 : Int32)), .val (.int v139), .unset] [])) _
                  refine XS.iconst X181.here hx rfl (hb hby at_251) ?_
                  show Steps p.tables e below (T181.setTop (mkF m 252 #[.val (.int p0), .val (.int p1), .val (.int p2), .val (.int p3), .val (.int v48), .val (.int (1 : Int32)), .val (.int (-1 : Int32)), .val (.ref b126), .val (.int (2147483647 : Int32)), .val (.int v139), .unset] [(.int (1 : Int32))])) _
                  refine XS.goto X181.here hx rfl (pc0 := 252) (pc' := 256) rfl (hb hby at_252) (by decide) (by decide) ?_
                  show Steps p.tables e below (T181.setTop (mkF m 256 #[.val (.int p0), .val (.int p1), .val (.int p2), .val (.int p3), .val (.int v48), .val (.int (1 : Int32)), .val (.int (-1 : Int32)), .val (.ref b126), .val (.int (2147483647 : Int32)), .val (.int v139), .unset] [(.int (1 : Int32))])) _
                  exact retN X181 hx (t := .boolean) Bd.returns (by simp) (hb hby at_256) hr
                · show own_Q0 Z p0 p1 p2 p3 h0 n0 _ T181.heap _
                  rw [e183]
                  exact ⟨rfl, N182⟩
              · exact (own_leaf0_22 p0 p1 p2 p3 v48 hv48 hc50 v139 hv139 hc141 hc152 hc160 hc175 hc180 hc185).elim
set_option maxRecDepth 65536 in
set_option maxHeartbeats 40000000 in
theorem comes_1 {Post : Tables → Env → Array Value → State → Outcome → State → Prop} (hpost : ∀ tb e args s v u, (limb_1_1.after args s (.returned v) u = true ∧ limb_1_2.after args s (.returned v) u = true ∧ True) → FrameEnd s (.returned v) u (Jvm.fieldLocs frame_1_writes args s ++ Jvm.arrayLocs frame_1_arrays args s ++ Jvm.staticLocs frame_1_statics s) 16 128 → Post tb e args s (.returned v) u) :
    ArmFor flags0 classFile x code maxLocals ret World_1 tables_1 room_1 Calls_1 rest_1 Pre_1 Post := by
  intro l hfl _ _ p e ha hc hk s m args below hf hA hF happ hP
  obtain ⟨hcalls, hrest, hpre⟩ := hP
  obtain ⟨-, -, -, hnamed, -, -, -, hat⟩ := (Spec.applies_iff hf).mp happ
  obtain ⟨hg, hn⟩ := and_e (Cond.before_iff.mp (show (Jvm.Cond.and given_1 narrow_1).before args s = true from hpre))
  obtain ⟨gg1, gg2⟩ := and_e hg
  obtain ⟨gg3, gg4⟩ := and_e gg2
  obtain ⟨gg5, gg6⟩ := and_e gg4
  obtain ⟨gg7, gg8⟩ := and_e gg6
  obtain ⟨w0, w1, w2, w3, rfl⟩ : ∃ w0 w1 w2 w3 : Value, args = #[w0, w1, w2, w3] := by
    have hs : args.size = 4 := by simpa [Cond.value, given_1] using gg1
    obtain ⟨L⟩ := args
    match L, hs with
    | [w0, w1, w2, w3], _ => exact ⟨w0, w1, w2, w3, rfl⟩
  have hw := fun d (hd : d ∈ tables_1) => atoms_spec (ws := Jvm.Cond.code x code maxLocals ret :: tables_1) hat d (List.mem_cons_of_mem _ hd)
  have hfit : Fit s := fun {y c} hc i hi => by
    obtain ⟨ha, rfl⟩ := Array.getElem?_eq_some_iff.mp hc
    have q := List.all_eq_true.mp ((Array.all_eq_true_iff_forall_mem.mp hF) _ (Array.getElem_mem ha)) i (List.mem_range.mpr hi)
    simpa [Array.getElem?_eq_getElem hi] using q
  obtain ⟨i0, ei0⟩ := is_v gg3
  obtain rfl : w0 = (.int i0) := Option.some.inj ei0
  obtain ⟨i1, ei1⟩ := is_v gg5
  obtain rfl : w1 = (.int i1) := Option.some.inj ei1
  obtain ⟨i2, ei2⟩ := is_v gg7
  obtain rfl : w2 = (.int i2) := Option.some.inj ei2
  obtain ⟨i3, ei3⟩ := is_v gg8
  obtain rfl : w3 = (.int i3) := Option.some.inj ei3
  obtain ⟨n, o, h1, h2, h3, _, L, rfl, ⟨rfl, N⟩, hq⟩ := own_rm0 l s _ hw tables_1 i0 i1 i2 i3 s.heap s.heap.size (Nat.le_refl _)  p e ha hc hk s m _ below hf ((Spec.applies_iff_loose hf).mp happ).1 ⟨rfl, State.Warmed39.refl s, rfl⟩ trivial
  refine ⟨n, _, h1, h2, h3, hpost _ _ _ _ _ _ ⟨Cond.after_iff.mpr rfl, Cond.after_iff.mpr (eq_i res_at (Term.int_eval (1)) rfl), trivial⟩ ⟨hq.1, hq.2.1, (hq.2.2.sift fun y hy => Or.inr (N y hy)).mono (by decide) (by decide)⟩⟩
theorem main_1_1 : Claimed_1_1 := comes_1 fun _ _ _ _ _ _ h hF => ⟨h.1, hF⟩
theorem main_1_2 : Claimed_1_2 := comes_1 fun _ _ _ _ _ _ h hF => ⟨h.2.1, hF⟩
end Jvm.Pilot.@@N@@
namespace Jvm.Pilot.@@N@@
open Jvm Jvm.ClassFile Sem Op Lib Jvm.Free Jvm.Stand Jvm.Pilot.@@N@@.Jvm.D
/-! MADE BY PROGRAM (witnessworld.py) out of the Statement's table words and the real class files: 11 classes; the members and pool entries that the words name. The judged class is class 1, her method 1. -/
namespace start1
open Jvm.ClassFile
def u (s : String) : CpInfo := .utf8 (stringToUtf16 s)
/-- a pool by its gaps: so many unusable entries, then the entry; so many at the end -/
def gap : Nat → List CpInfo → List CpInfo
  | 0, r => r
  | n + 1, r => .unusable :: gap n r
def poolList (es : List (Nat × CpInfo)) (last : Nat) : List CpInfo := es.foldr (fun e r => gap e.1 (e.2 :: r)) (gap last [])
def pool (es : List (Nat × CpInfo)) (last : Nat) : Array CpInfo := ⟨poolList es last⟩
def fileOf (pool : Array CpInfo) (this : Nat) (attrs : Array Attribute := #[]) (ms : Array MethodInfo := #[]) (fl : Nat := 33) (sup : Nat := 0) (ifs : Array Nat := #[]) (fds : Array FieldInfo := #[]) : ClassFile where
  minorVersion := 0
  majorVersion := 65
  constantPool := pool
  accessFlags := fl
  thisClass := this
  superClass := sup
  interfaces := ifs
  fields := fds
  methods := ms
  attributes := attrs
def plain (name : String) (sup : Option ClassId) : Class where
  name := name
  kind := .ordinary
  loader := none
  accessFlags := 33
  super := sup
  interfaces := #[]
  cf := none
  fields := #[]
  methods := #[]
  instanceTypes := #[]
  staticTypes := #[]
  resolved := #[]
  callSites := []
  init := .initialized
  statics := none
  mirror := none

def pool0 : Array CpInfo := pool [(5, u "<init>"), (0, u "()V"), (1, .class_ 10), (1, u "java/lang/Object")] 113

def k0c0 : Code := { maxStack := 0, maxLocals := 1, code := object_method_1_code, exceptionTable := #[], attributes := #[] }
def k0m0 : Method := { name := "<init>", desc := "()V", sig := { parameters := [], returnType := none }, accessFlags := 1, code := some k0c0 }
/-- java/lang/Object -/
def k0 : Class := { plain "java/lang/Object" none with
  accessFlags := 33
  interfaces := #[]
  cf := some (fileOf pool0 8 #[] #[{ accessFlags := 1, nameIndex := 5, descriptorIndex := 6, attributes := #[] }] 33 0 #[] #[])
  fields := #[]
  methods := #[k0m0]
  instanceTypes := #[]
  staticTypes := #[]
  resolved := Array.replicate 124 none
  statics := none }

def pool1 : Array CpInfo := pool [(2, .class_ 4), (1, u "java/lang/Object"), (0, u "<init>"), (0, u "()V"), (0, .integer 2147483647), (0, .class_ 9), (0, u "archetest/model/Multiplicity"), (2, .long 2147483647), (1, .methodref 8 15), (0, .nameAndType 5 16), (0, u "(II)V"), (0, .methodref 18 19), (0, .class_ 20), (0, .nameAndType 21 22), (0, u "java/lang/Math"), (0, u "min"), (0, u "(II)I"), (0, .methodref 8 24), (0, .nameAndType 25 26), (0, u "contains"), (0, u "(I)Z"), (0, .integer 2147483648), (0, .methodref 18 29), (0, .nameAndType 30 22), (0, u "max"), (0, .class_ 32), (0, u "archetest/model/MultiplicityContainsPinLaw"), (2, u "law"), (0, u "(IIII)Z")] 3

def k1m0 : Method := { name := "<init>", desc := "()V", sig := { parameters := [], returnType := none }, accessFlags := 1, code := none }
def k1c1 : Code := { maxStack := 7, maxLocals := 11, code := code, exceptionTable := #[], attributes := #[] }
def k1m1 : Method := { name := "law", desc := "(IIII)Z", sig := { parameters := [.int, .int, .int, .int], returnType := some .boolean }, accessFlags := 9, code := some k1c1 }
/-- archetest/model/MultiplicityContainsPinLaw -/
def k1 : Class := { plain "archetest/model/MultiplicityContainsPinLaw" (some 0) with
  accessFlags := 49
  interfaces := #[]
  cf := some (fileOf pool1 31 #[] #[{ accessFlags := 1, nameIndex := 5, descriptorIndex := 6, attributes := #[] }, { accessFlags := 9, nameIndex := 35, descriptorIndex := 36, attributes := #[] }] 49 2 #[] #[])
  fields := #[]
  methods := #[k1m0, k1m1]
  instanceTypes := #[]
  staticTypes := #[]
  resolved := Array.replicate 40 none
  statics := none }

def pool2 : Array CpInfo := pool [(1, .methodref 2 3), (0, .class_ 4), (0, .nameAndType 5 6), (0, u "java/lang/Object"), (0, u "<init>"), (0, u "()V"), (0, .class_ 8), (0, u "java/lang/Record")] 13

def k2c0 : Code := { maxStack := 1, maxLocals := 1, code := jdk_30_method_1_code, exceptionTable := #[], attributes := #[] }
def k2m0 : Method := { name := "<init>", desc := "()V", sig := { parameters := [], returnType := none }, accessFlags := 4, code := some k2c0 }
/-- java/lang/Record -/
def k2 : Class := { plain "java/lang/Record" (some 0) with
  accessFlags := 1057
  interfaces := #[]
  cf := some (fileOf pool2 7 #[] #[{ accessFlags := 4, nameIndex := 5, descriptorIndex := 6, attributes := #[] }] 1057 2 #[] #[])
  fields := #[]
  methods := #[k2m0]
  instanceTypes := #[]
  staticTypes := #[]
  resolved := Array.replicate 22 none
  statics := none }

def pool3 : Array CpInfo := pool [(1, .methodref 2 3), (0, .class_ 4), (0, .nameAndType 5 6), (0, u "java/lang/Record"), (0, u "<init>"), (0, u "()V"), (0, .class_ 8), (0, u "archetest/model/Multiplicity"), (22, .fieldref 7 32), (0, .nameAndType 33 34), (0, u "lower"), (0, u "I"), (0, .fieldref 7 36), (0, .nameAndType 37 34), (0, u "upper"), (15, u "(II)V"), (2, u "MANDATORY"), (0, u "Larchetest/model/Multiplicity;"), (2, u "ANY"), (0, u "UNBOUNDED"), (8, u "contains"), (0, u "(I)Z")] 36

def k3c0 : Code := { maxStack := 5, maxLocals := 3, code := prog_65_method_1_code, exceptionTable := #[], attributes := #[] }
def k3m0 : Method := { name := "<init>", desc := "(II)V", sig := { parameters := [.int, .int], returnType := none }, accessFlags := 1, code := some k3c0 }
def k3c1 : Code := { maxStack := 2, maxLocals := 2, code := prog_65_method_2_code, exceptionTable := #[], attributes := #[] }
def k3m1 : Method := { name := "contains", desc := "(I)Z", sig := { parameters := [.int], returnType := some .boolean }, accessFlags := 1, code := some k3c1 }
/-- archetest/model/Multiplicity -/
def k3 : Class := { plain "archetest/model/Multiplicity" (some 2) with
  accessFlags := 49
  interfaces := #[]
  cf := some (fileOf pool3 7 #[] #[{ accessFlags := 1, nameIndex := 5, descriptorIndex := 53, attributes := #[] }, { accessFlags := 1, nameIndex := 70, descriptorIndex := 71, attributes := #[] }] 49 2 #[] #[{ accessFlags := 18, nameIndex := 33, descriptorIndex := 34, attributes := #[] }, { accessFlags := 18, nameIndex := 37, descriptorIndex := 34, attributes := #[] }, { accessFlags := 25, nameIndex := 61, descriptorIndex := 34, attributes := #[] }, { accessFlags := 25, nameIndex := 56, descriptorIndex := 57, attributes := #[] }, { accessFlags := 25, nameIndex := 60, descriptorIndex := 57, attributes := #[] }])
  fields := #[{ name := "lower", type := .int, accessFlags := 18, slot := 0, constantValue := 0 }, { name := "upper", type := .int, accessFlags := 18, slot := 1, constantValue := 0 }, { name := "UNBOUNDED", type := .int, accessFlags := 25, slot := 0, constantValue := 0 }, { name := "MANDATORY", type := (.object "archetest/model/Multiplicity"), accessFlags := 25, slot := 1, constantValue := 0 }, { name := "ANY", type := (.object "archetest/model/Multiplicity"), accessFlags := 25, slot := 2, constantValue := 0 }]
  methods := #[k3m0, k3m1]
  instanceTypes := #[.int, .int]
  staticTypes := #[.int, (.object "archetest/model/Multiplicity"), (.object "archetest/model/Multiplicity")]
  resolved := Array.replicate 108 none
  statics := none }

def pool4 : Array CpInfo := pool [(1, .class_ 2), (0, u "java/lang/Math"), (1, .class_ 6), (1, u "java/lang/Object"), (0, u "<init>"), (0, u "()V"), (89, .class_ 100), (1, u "java/lang/Math$RandomNumberGeneratorHolder"), (71, u "negativeZeroFloatBits"), (0, u "J"), (2, u "negativeZeroDoubleBits"), (21, u "max"), (2, u "min"), (43, u "$assertionsDisabled"), (0, u "Z"), (88, u "(II)I"), (2, u "twoToTheDoubleScaleDown"), (0, u "D"), (4, u "twoToTheDoubleScaleUp"), (9, u "E"), (3, u "PI"), (2, u "TAU"), (2, u "DEGREES_TO_RADIANS"), (0, u "RADIANS_TO_DEGREES")] 94

def k4m0 : Method := { name := "<init>", desc := "()V", sig := { parameters := [], returnType := none }, accessFlags := 2, code := none }
def k4c1 : Code := { maxStack := 2, maxLocals := 2, code := jdk_29_method_65_code, exceptionTable := #[], attributes := #[] }
def k4m1 : Method := { name := "max", desc := "(II)I", sig := { parameters := [.int, .int], returnType := some .int }, accessFlags := 9, code := some k4c1 }
def k4c2 : Code := { maxStack := 2, maxLocals := 2, code := jdk_29_method_69_code, exceptionTable := #[], attributes := #[] }
def k4m2 : Method := { name := "min", desc := "(II)I", sig := { parameters := [.int, .int], returnType := some .int }, accessFlags := 9, code := some k4c2 }
/-- java/lang/Math -/
def k4 : Class := { plain "java/lang/Math" (some 0) with
  accessFlags := 49
  interfaces := #[]
  cf := some (fileOf pool4 1 #[.nestMembers #[98]] #[{ accessFlags := 2, nameIndex := 7, descriptorIndex := 8, attributes := #[] }, { accessFlags := 9, nameIndex := 198, descriptorIndex := 335, attributes := #[] }, { accessFlags := 9, nameIndex := 201, descriptorIndex := 335, attributes := #[] }] 49 4 #[] #[{ accessFlags := 25, nameIndex := 354, descriptorIndex := 339, attributes := #[] }, { accessFlags := 25, nameIndex := 358, descriptorIndex := 339, attributes := #[] }, { accessFlags := 25, nameIndex := 361, descriptorIndex := 339, attributes := #[] }, { accessFlags := 26, nameIndex := 364, descriptorIndex := 339, attributes := #[] }, { accessFlags := 26, nameIndex := 365, descriptorIndex := 339, attributes := #[] }, { accessFlags := 26, nameIndex := 172, descriptorIndex := 173, attributes := #[] }, { accessFlags := 26, nameIndex := 176, descriptorIndex := 173, attributes := #[] }, { accessFlags := 8, nameIndex := 344, descriptorIndex := 339, attributes := #[] }, { accessFlags := 8, nameIndex := 338, descriptorIndex := 339, attributes := #[] }, { accessFlags := 4120, nameIndex := 245, descriptorIndex := 246, attributes := #[] }])
  fields := #[{ name := "E", type := .double, accessFlags := 25, slot := 0, constantValue := 0 }, { name := "PI", type := .double, accessFlags := 25, slot := 1, constantValue := 0 }, { name := "TAU", type := .double, accessFlags := 25, slot := 2, constantValue := 0 }, { name := "DEGREES_TO_RADIANS", type := .double, accessFlags := 26, slot := 3, constantValue := 0 }, { name := "RADIANS_TO_DEGREES", type := .double, accessFlags := 26, slot := 4, constantValue := 0 }, { name := "negativeZeroFloatBits", type := .long, accessFlags := 26, slot := 5, constantValue := 0 }, { name := "negativeZeroDoubleBits", type := .long, accessFlags := 26, slot := 6, constantValue := 0 }, { name := "twoToTheDoubleScaleUp", type := .double, accessFlags := 8, slot := 7, constantValue := 0 }, { name := "twoToTheDoubleScaleDown", type := .double, accessFlags := 8, slot := 8, constantValue := 0 }, { name := "$assertionsDisabled", type := .boolean, accessFlags := 4120, slot := 9, constantValue := 0 }]
  methods := #[k4m0, k4m1, k4m2]
  instanceTypes := #[]
  staticTypes := #[.double, .double, .double, .double, .double, .long, .long, .double, .double, .boolean]
  resolved := Array.replicate 460 none
  statics := none }

def pool5 : Array CpInfo := pool [(1, u "java/lang/Cloneable"), (0, .class_ 1), (0, u "java/lang/Object"), (0, .class_ 3)] 3

/-- java/lang/Cloneable -/
def k5 : Class := { plain "java/lang/Cloneable" (some 0) with
  accessFlags := 1537
  interfaces := #[]
  cf := some (fileOf pool5 2 #[] #[] 1537 4 #[] #[])
  fields := #[]
  methods := #[]
  instanceTypes := #[]
  staticTypes := #[]
  resolved := Array.replicate 8 none
  statics := none }

def pool6 : Array CpInfo := pool [(1, u "java/io/Serializable"), (0, .class_ 1), (0, u "java/lang/Object"), (0, .class_ 3)] 3

/-- java/io/Serializable -/
def k6 : Class := { plain "java/io/Serializable" (some 0) with
  accessFlags := 1537
  interfaces := #[]
  cf := some (fileOf pool6 2 #[] #[] 1537 4 #[] #[])
  fields := #[]
  methods := #[]
  instanceTypes := #[]
  staticTypes := #[]
  resolved := Array.replicate 8 none
  statics := none }

/-- the primitive byte -/
def k7 : Class := { plain "byte" none with kind := .primitive 'B', accessFlags := 0x411 }
/-- [B -/
def k8 : Class := { plain "[B" (some 0) with kind := .array 7 .byte, interfaces := #[5, 6], accessFlags := 1041 }

/-- the primitive int -/
def k9 : Class := { plain "int" none with kind := .primitive 'I', accessFlags := 0x411 }
/-- [I -/
def k10 : Class := { plain "[I" (some 0) with kind := .array 9 .int, interfaces := #[5, 6], accessFlags := 1041 }

def heap : Heap := #[]
def classes : Array Class := #[k0, k1, k2, k3, k4, k5, k6, k7, k8, k9, k10]
def interned : List (Array UInt16 × Addr) := []
def slotsUsed : Nat := 0
def theMethod : MethodId := ⟨1, 1⟩
def args0 : Array Value := #[.int 5, .int 6, .int 7, .int 8]
def aboutOver (below : List Frame) : State where
  vm := { classes := classes, interned := interned.toArray }
  heap := heap
  slotsUsed := slotsUsed
  threads := #[{ frames := .invoking theMethod args0 :: below }]
def below0 : List Frame := [.native { method := ⟨0, 0⟩, args := #[] }]
def about1 : State := aboutOver below0
def p0 : Program := .bare "" "" ""
def e0 : Env := launch0.env 0 0 0
theorem w_frames : about1.frames = Frame.invoking theMethod args0 :: below0 := rfl
set_option maxRecDepth 65536 in
theorem w_args : argsFit about1.vm theMethod args0 = true := by decide +kernel
set_option maxRecDepth 65536 in
theorem w_heap : heapFits about1 = true := by decide +kernel
set_option maxRecDepth 65536 in
theorem w_runnable : about1.curStatus? = some .runnable := by decide +kernel
set_option maxRecDepth 65536 in
theorem w_alone : about1.alone = true := by decide +kernel
set_option maxRecDepth 65536 in
theorem w_named : about1.methodNamed? x = some theMethod := by decide +kernel
set_option maxRecDepth 65536 in
theorem w_hears : about1.hears theMethod below0 = true := by decide +kernel
set_option maxRecDepth 65536 in
theorem w_ripe : about1.ripe theMethod args0 below0 = true := by decide +kernel
theorem w_running : about1.status = .running := rfl
set_option maxRecDepth 65536 in
theorem w_room : about1.hasRoom e0.platform room_1 = true :=
  launch0.hasRoom_least _ room_1 (by decide +kernel) (by decide +kernel) (by decide +kernel) (by decide +kernel) (by decide +kernel) (by decide +kernel)
theorem allAtoms_all (ts : List Jvm.Cond) (a : Array Jvm.Value) (st : Jvm.State) : (allAtoms ts).before a st = ts.all (fun c => c.before a st) := by
  induction ts with
  | nil => rfl
  | cons c t ih =>
    show (Jvm.Cond.and c (allAtoms t)).before a st = _
    rw [Jvm.Cond.before_and, ih, List.all_cons]
def words1 : List Jvm.Cond := Jvm.Cond.code x code maxLocals ret :: tables_1
/-- a 'code' word, met by the world's own term for the bytes: nothing is compared byte by byte -/
theorem code_word {y : MethodName} {bytes : ByteArray} {mx : Nat} {rt : Option FieldType} {a : Array Value} {s : State} {m : MethodId} {meth : Method} {c : Code} (h1 : s.methodNamed? y = some m) (h2 : s.vm.method? m = some meth) (h3 : meth.code = some c) (h4 : c.code = bytes)
    (h5 : (c.maxLocals == mx && c.exceptionTable.isEmpty && decide (c.maxStack ≤ mostOperands) && decide (meth.sig.returnType = rt) && !meth.locks && decide (parseMethodDescriptor y.desc = some meth.sig)) = true) : (Jvm.Cond.code y bytes mx rt).before a s = true := by
  simp only [Bool.and_eq_true, beq_iff_eq, Bool.not_eq_true', decide_eq_true_eq] at h5
  obtain ⟨⟨⟨⟨⟨g1, g2⟩, g3⟩, g4⟩, g5⟩, g6⟩ := h5
  simp [Cond.before, Cond.holds, Cond.value, h1, h2, h3, h4, g1, g2, g3, g4, g5, g6]
def isCode : Jvm.Cond → Bool
  | .code _ _ _ _ => true
  | _ => false
theorem all_split {L : List Jvm.Cond} {P : Jvm.Cond → Bool} (h1 : L.all (fun c => isCode c || P c) = true) (h2 : ∀ c ∈ L.filter isCode, P c = true) : L.all P = true := by
  refine List.all_eq_true.mpr fun c hc => ?_
  have h := List.all_eq_true.mp h1 c hc
  rcases Bool.eq_false_or_eq_true (isCode c) with hi | hi
  · exact h2 c (List.mem_filter.mpr ⟨hc, hi⟩)
  · simpa [hi] using h
set_option maxRecDepth 65536 in
theorem w_c0 : (Jvm.Cond.code x code maxLocals ret).before args0 about1 = true := code_word (m := ⟨1, 1⟩) (meth := k1m1) (c := k1c1) (by decide +kernel) rfl rfl rfl (by decide +kernel)
set_option maxRecDepth 65536 in
theorem w_c1 : (Jvm.Cond.code ({ cls := "archetest/model/Multiplicity", name := "<init>", desc := "(II)V" } : Jvm.MethodName) prog_65_method_1_code (3 : Nat) (Option.none : Option Jvm.ClassFile.FieldType)).before args0 about1 = true := code_word (m := ⟨3, 0⟩) (meth := k3m0) (c := k3c0) (by decide +kernel) rfl rfl rfl (by decide +kernel)
set_option maxRecDepth 65536 in
theorem w_c2 : (Jvm.Cond.code ({ cls := "java/lang/Record", name := "<init>", desc := "()V" } : Jvm.MethodName) jdk_30_method_1_code (1 : Nat) (Option.none : Option Jvm.ClassFile.FieldType)).before args0 about1 = true := code_word (m := ⟨2, 0⟩) (meth := k2m0) (c := k2c0) (by decide +kernel) rfl rfl rfl (by decide +kernel)
set_option maxRecDepth 65536 in
theorem w_c3 : (Jvm.Cond.code ({ cls := "java/lang/Object", name := "<init>", desc := "()V" } : Jvm.MethodName) object_method_1_code (1 : Nat) (Option.none : Option Jvm.ClassFile.FieldType)).before args0 about1 = true := code_word (m := ⟨0, 0⟩) (meth := k0m0) (c := k0c0) (by decide +kernel) rfl rfl rfl (by decide +kernel)
set_option maxRecDepth 65536 in
theorem w_c4 : (Jvm.Cond.code ({ cls := "java/lang/Math", name := "min", desc := "(II)I" } : Jvm.MethodName) jdk_29_method_69_code (2 : Nat) (Option.some Jvm.ClassFile.FieldType.int)).before args0 about1 = true := code_word (m := ⟨4, 2⟩) (meth := k4m2) (c := k4c2) (by decide +kernel) rfl rfl rfl (by decide +kernel)
set_option maxRecDepth 65536 in
theorem w_c5 : (Jvm.Cond.code ({ cls := "archetest/model/Multiplicity", name := "contains", desc := "(I)Z" } : Jvm.MethodName) prog_65_method_2_code (2 : Nat) (Option.some Jvm.ClassFile.FieldType.boolean)).before args0 about1 = true := code_word (m := ⟨3, 1⟩) (meth := k3m1) (c := k3c1) (by decide +kernel) rfl rfl rfl (by decide +kernel)
set_option maxRecDepth 65536 in
theorem w_c6 : (Jvm.Cond.code ({ cls := "java/lang/Math", name := "max", desc := "(II)I" } : Jvm.MethodName) jdk_29_method_65_code (2 : Nat) (Option.some Jvm.ClassFile.FieldType.int)).before args0 about1 = true := code_word (m := ⟨4, 1⟩) (meth := k4m1) (c := k4c1) (by decide +kernel) rfl rfl rfl (by decide +kernel)
def codes1 : List Jvm.Cond := [Jvm.Cond.code x code maxLocals ret, Jvm.Cond.code ({ cls := "archetest/model/Multiplicity", name := "<init>", desc := "(II)V" } : Jvm.MethodName) prog_65_method_1_code (3 : Nat) (Option.none : Option Jvm.ClassFile.FieldType), Jvm.Cond.code ({ cls := "java/lang/Record", name := "<init>", desc := "()V" } : Jvm.MethodName) jdk_30_method_1_code (1 : Nat) (Option.none : Option Jvm.ClassFile.FieldType), Jvm.Cond.code ({ cls := "java/lang/Object", name := "<init>", desc := "()V" } : Jvm.MethodName) object_method_1_code (1 : Nat) (Option.none : Option Jvm.ClassFile.FieldType), Jvm.Cond.code ({ cls := "java/lang/Math", name := "min", desc := "(II)I" } : Jvm.MethodName) jdk_29_method_69_code (2 : Nat) (Option.some Jvm.ClassFile.FieldType.int), Jvm.Cond.code ({ cls := "archetest/model/Multiplicity", name := "contains", desc := "(I)Z" } : Jvm.MethodName) prog_65_method_2_code (2 : Nat) (Option.some Jvm.ClassFile.FieldType.boolean), Jvm.Cond.code ({ cls := "java/lang/Math", name := "max", desc := "(II)I" } : Jvm.MethodName) jdk_29_method_65_code (2 : Nat) (Option.some Jvm.ClassFile.FieldType.int)]
set_option maxRecDepth 65536 in
theorem codes_eq : words1.filter isCode = codes1 := rfl
theorem w_codes : ∀ c ∈ words1.filter isCode, c.before args0 about1 = true := by
  rw [codes_eq]
  intro c hc
  simp only [codes1, List.mem_cons, List.not_mem_nil, or_false] at hc
  rcases hc with rfl | rfl | rfl | rfl | rfl | rfl | rfl
  · exact w_c0
  · exact w_c1
  · exact w_c2
  · exact w_c3
  · exact w_c4
  · exact w_c5
  · exact w_c6
set_option maxRecDepth 65536 in
theorem w_t1 : (words1.take 24).all (fun c => isCode c || c.before args0 about1) = true := by decide +kernel
set_option maxRecDepth 65536 in
theorem w_t2 : (words1.drop 24).all (fun c => isCode c || c.before args0 about1) = true := by decide +kernel
theorem w_tables : (allAtoms (Jvm.Cond.code x code maxLocals ret :: tables_1)).before args0 about1 = true := by
  rw [allAtoms_all]
  show words1.all (fun c => c.before args0 about1) = true
  refine all_split ?_ w_codes
  rw [← List.take_append_drop 24 words1, List.all_append, w_t1, w_t2]
  rfl
set_option maxRecDepth 65536 in
theorem w_case : (Jvm.Cond.and given_1 narrow_1).before args0 about1 = true := by decide +kernel
theorem w_applies : (headSpec (Jvm.Cond.code x code maxLocals ret :: tables_1) room_1).applies x e0.platform about1 = true :=
  (Spec.applies_iff w_frames).mpr ⟨w_running, w_runnable, w_alone, w_named, w_hears, w_ripe, w_room, w_tables⟩
theorem atStart : AtStart classFile x code maxLocals ret World_1 tables_1 room_1 Calls_1 rest_1 Pre_1 launch0 p0 e0 about1 theMethod args0 below0 :=
  ⟨lists_1, trivial, launch0.admits_env _ _ _, launch0.least_env, fairChoices_fair.cas, fairChoices_fair.clock, w_frames, w_args, w_heap, w_applies, trivial, trivial, w_case⟩
end start1
theorem witness_1 : WitnessClaimed_1 := ⟨start1.p0, start1.e0, start1.about1, start1.theMethod, start1.args0, start1.below0, start1.atStart⟩
end Jvm.Pilot.@@N@@
