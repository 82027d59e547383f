import JvmDerived
import JvmDerived.Pilot.@@N@@Statement
import JvmDerived.Pilot.@@N@@Code
set_option linter.unusedVariables false
set_option linter.unusedSimpArgs false
namespace Jvm.RoadKit
open Sem ClassFile Op Lib Jvm.Stand Jvm.Free Jvm.LawKit
section New
variable {p : Program} {l : Launch} {e : Env} {R : Room} {s : State} {m : MethodId} {args : Array Value} {below : List Frame} {meth : Method} {c : Code} {T : State} {locs : List Loc} {cells slots : Nat}
theorem retI (X : Stand p l e R s m args below meth c T locs cells slots) (hx : p.tables.exec = Jvm.exec) {pc : Nat} {Ls : Array Slot} {z : Int32} {rest : List Value} (hret : meth.sig.returnType = some .int) (hd : decode c.code pc = .ok (.ireturn, 1)) {fs : List Frame}
    (hl : ∀ (f : JFrame) (acts : List Action), f.method = m → f.locked = none → f.entered = [] → (doReturn e (T.setTop f) acts (some (.int z))).1 = T.setFrames fs) : Steps p.tables e below (T.setTop (mkF m pc Ls (.int z :: rest))) (T.setFrames fs) := by
  have hm' : T.vm.method? m = some meth := X.method'
  have hn : narrow .int (.int z) = .int z := rfl
  show Steps p.tables e below (T.setTop { method := m, pc := pc, locals := Ls, stack := _ :: rest, locked := none }) _
  jvm_step X.here [X.here.top, hx, hd, hm', hret, hn]
  first | (intro acts; rw [hl _ acts rfl rfl rfl]) | rw [hl _ _ rfl rfl rfl]
  exact Steps.refl _
end New
end Jvm.RoadKit
namespace Jvm.Pilot.@@N@@
open Jvm Jvm.ClassFile Sem Op Lib Jvm.Free Jvm.Stand Jvm.LawKit Jvm.RoadKit Bundle Jvm.Pilot.@@N@@.Jvm.D
theorem own_eqI {args : Array Value} {Z : State} {a : Term} {k : Int32} (h : (Jvm.Cond.eq a (.int k)).value args Z none Z [] = some true) : a.eval args Z none [] Z = some (.int k) := by
  simp only [Cond.value, Term.eval] at h
  cases ha : a.eval args Z none [] Z with
  | none => simp [ha] at h
  | some x => cases x <;> simp [ha] at h ⊢; exact h
theorem own_d1_0 : decode prog_84_method_5_code 0 = .ok (.aload_n 0, 1) := by decide +kernel
theorem own_d1_1 : decode prog_84_method_5_code 1 = .ok (.getstatic 7, 3) := by decide +kernel
theorem own_d1_4 : decode prog_84_method_5_code 4 = .ok (.if_acmp .eq 19, 3) := by decide +kernel
theorem own_d1_7 : decode prog_84_method_5_code 7 = .ok (.iload_n 1, 1) := by decide +kernel
theorem own_d1_8 : decode prog_84_method_5_code 8 = .ok (.aload_n 0, 1) := by decide +kernel
theorem own_d1_9 : decode prog_84_method_5_code 9 = .ok (.getstatic 3, 3) := by decide +kernel
theorem own_d1_12 : decode prog_84_method_5_code 12 = .ok (.if_acmp .ne 7, 3) := by decide +kernel
theorem own_d1_15 : decode prog_84_method_5_code 15 = .ok (.iconst 1, 1) := by decide +kernel
theorem own_d1_16 : decode prog_84_method_5_code 16 = .ok (.goto 4, 3) := by decide +kernel
theorem own_d1_20 : decode prog_84_method_5_code 20 = .ok (.if_icmp .ne 7, 3) := by decide +kernel
theorem own_d1_23 : decode prog_84_method_5_code 23 = .ok (.iconst 1, 1) := by decide +kernel
theorem own_d1_24 : decode prog_84_method_5_code 24 = .ok (.goto 4, 3) := by decide +kernel
theorem own_d1_28 : decode prog_84_method_5_code 28 = .ok (.ireturn, 1) := by decide +kernel
theorem own_d1_27 : decode prog_84_method_5_code 27 = .ok (.iconst 0, 1) := by decide +kernel
def own_fM (p1 : Int32) : Int32 := if p1 = (1 : Int32) then (1 : Int32) else (0 : Int32)
theorem own_pn14 : plainName "archetest/model/ValidityKind" = true := by first | (simp [plainName, overriddenIn]; done) | decide +kernel
theorem own_efM (m : MethodId) (a0 : Addr) (p1 : Int32) : entryFrame m #[(.ref a0), (.int p1)] 2 = mkF m 0 #[.val (.ref a0), .val (.int p1)] [] := by first | (simp [entryFrame, mkF, argsToLocals, Value.category]; done) | rfl
def own_QM (Z : State) (a0 : Addr) (p1 : Int32) (aO : Addr) (h0 : Heap) (n0 : Nat) (v : Option Value) (h : Heap) (L : List Loc) : Prop := v = some (.int (own_fM p1)) ∧ Fr n0 L ∧ h = h0
set_option maxRecDepth 65536 in
set_option maxHeartbeats 40000000 in
theorem own_rmM (l : Launch) (Z : State) (a0 : Array Value) (hw : ∀ d ∈ tables_1, d.before a0 Z = true) (ws : List Jvm.Cond) (a0 : Addr) (p1 : Int32) (aO : Addr) (h0 : Heap) (n0 : Nat) (Z0 : n0 ≤ h0.size) (pr0 : Sta Z h0 "archetest/model/ValidityKind" "OPTIONAL" "Larchetest/model/ValidityKind;" (.ref aO)) (pr1 : Sta Z h0 "archetest/model/ValidityKind" "MANDATORY" "Larchetest/model/ValidityKind;" (.ref a0)) (ne_a0_aO : a0 ≠ aO) :
    MetFree l (⟨"archetest/model/ValidityKind", "admits", "(Z)Z"⟩ : MethodName) (head1 (Jvm.Cond.code (⟨"archetest/model/ValidityKind", "admits", "(Z)Z"⟩ : MethodName) prog_84_method_5_code 2 (some .boolean) :: ws) ({ frames := 0, cells := 0, slots := 0, locals := 0 } : Room)) (fun a U => a = #[(.ref a0), (.int p1)] ∧ Z.Warmed39 U.vm ∧ U.heap = h0) (fun _ _ _ _ _ => True) (fun _ U o U' => ∃ v L, o = .returned v ∧ own_QM Z a0 p1 aO h0 n0 v U'.heap L ∧ FrameEnd U o U' L ({ frames := 0, cells := 0, slots := 0, locals := 0 } : Room).cells ({ frames := 0, cells := 0, slots := 0, locals := 0 } : Room).slots) := by
  refine MetFree.of_bodySF (plainFor_of_name own_pn14) hisR ?_
  intro p e s m args below meth c s₁ Bd hml0 hP hK
  obtain ⟨rfl, hZ, hh⟩ := hP
  have hx := Bd.exec
  have hby := Bd.bytes
  have hml : c.maxLocals = 2 := hml0
  have hown : s.vm.findClass "archetest/model/ValidityKind" = some m.cls := findClass_of_methodNamed Bd.named
  have hnm := (name_of_methodNamed Bd.named Bd.method).1
  have X0 : Stand p l e ({ frames := 0, cells := 0, slots := 0, locals := 0 } : Room) s m #[(.ref a0), (.int p1)] below meth c s₁ [] 0 0 := Stand.of_body Bd
  have e0 : s₁.heap = h0 := by rw [← hh, Bd.state]; rfl
  have N0 := Fr.nil n0
  have pre0 : ∀ t, Steps p.tables e below (s₁.setTop (mkF m 0 #[.val (.ref a0), .val (.int p1)] [])) t → Steps p.tables e below (s₁.setTop (entryFrame m #[(.ref a0), (.int p1)] 2)) t := fun t k => castTop (own_efM m a0 p1) k
  obtain ⟨T1, X1, e1, st1⟩ := getS2 X0 hx hZ hown (host := "") (Or.inl (hw _ (List.mem_of_getElem? (i := 9) rfl))) Via.refl e0 pr0 (g := (mkF m 1 #[.val (.ref a0), .val (.int p1)] [(.ref a0)])) rfl (hb hby own_d1_1)
  obtain ⟨T2, X2, e2, st2⟩ := getS2 X1 hx hZ hown (host := "") (Or.inl (hw _ (List.mem_of_getElem? (i := 11) rfl))) Via.refl e1 pr1 (g := (mkF m 9 #[.val (.ref a0), .val (.int p1)] [(.ref a0), (.int p1)])) rfl (hb hby own_d1_9)
  have pre3 : ∀ t, Steps p.tables e below (T2.setTop (mkF m 20 #[.val (.ref a0), .val (.int p1)] [(.int (1 : Int32)), (.int p1)])) t → Steps p.tables e below (s₁.setTop (entryFrame m #[(.ref a0), (.int p1)] 2)) t := fun t kk => pre0 t (by
    show Steps p.tables e below (s₁.setTop (mkF m 0 #[.val (.ref a0), .val (.int p1)] [])) _
    refine XS.aloadN X0.here hx rfl (hb hby own_d1_0) rfl rfl ?_
    show Steps p.tables e below (s₁.setTop (mkF m 1 #[.val (.ref a0), .val (.int p1)] [(.ref a0)])) _
    refine st1 _ ?_
    show Steps p.tables e below (T1.setTop (mkF m 4 #[.val (.ref a0), .val (.int p1)] [(.ref aO), (.ref a0)])) _
    refine Jvm.RoadKit.acmp (g := (mkF m 4 #[.val (.ref a0), .val (.int p1)] [(.ref aO), (.ref a0)])) X1 hx rfl rfl rfl (pc0 := 4) (pc' := 7) (same := false) rfl (hb hby own_d1_4) rfl (decide_eq_false fun q => ne_a0_aO (Value.ref.inj q)) (by decide) (by decide) ?_
    show Steps p.tables e below (T1.setTop (mkF m 7 #[.val (.ref a0), .val (.int p1)] [])) _
    refine XS.iloadN X1.here hx rfl (hb hby own_d1_7) rfl ?_
    show Steps p.tables e below (T1.setTop (mkF m 8 #[.val (.ref a0), .val (.int p1)] [(.int p1)])) _
    refine XS.aloadN X1.here hx rfl (hb hby own_d1_8) rfl rfl ?_
    show Steps p.tables e below (T1.setTop (mkF m 9 #[.val (.ref a0), .val (.int p1)] [(.ref a0), (.int p1)])) _
    refine st2 _ ?_
    show Steps p.tables e below (T2.setTop (mkF m 12 #[.val (.ref a0), .val (.int p1)] [(.ref a0), (.ref a0), (.int p1)])) _
    refine Jvm.RoadKit.acmp (g := (mkF m 12 #[.val (.ref a0), .val (.int p1)] [(.ref a0), (.ref a0), (.int p1)])) X2 hx rfl rfl rfl (pc0 := 12) (pc' := 15) (same := true) rfl (hb hby own_d1_12) rfl (decide_eq_true rfl) (by decide) (by decide) ?_
    show Steps p.tables e below (T2.setTop (mkF m 15 #[.val (.ref a0), .val (.int p1)] [(.int p1)])) _
    refine XS.iconst X2.here hx rfl (hb hby own_d1_15) ?_
    show Steps p.tables e below (T2.setTop (mkF m 16 #[.val (.ref a0), .val (.int p1)] [(.int (1 : Int32)), (.int p1)])) _
    refine XS.goto X2.here hx rfl (pc0 := 16) (pc' := 20) rfl (hb hby own_d1_16) (by decide) (by decide) ?_
    show Steps p.tables e below (T2.setTop (mkF m 20 #[.val (.ref a0), .val (.int p1)] [(.int (1 : Int32)), (.int p1)])) _
    exact kk)
  by_cases hc4 : p1 = (1 : Int32)
  · obtain ⟨fs, hr, hrun, hended, hW, hsame⟩ := X2.leave (v := some (.int (1 : Int32))) (fun h => by rw [Bd.returns] at h; cases h)
    refine ⟨_, _, pre3 _ ?_, hrun, hended, _, _, rfl, ?_, ⟨_, rfl⟩, hW, hsame.mono (by decide) (by decide)⟩
    · show Steps p.tables e below (T2.setTop (mkF m 20 #[.val (.ref a0), .val (.int p1)] [(.int (1 : Int32)), (.int p1)])) _
      refine XS.icmpNo X2.here hx rfl (hb hby own_d1_20) rfl (teq hc4).2 ?_
      show Steps p.tables e below (T2.setTop (mkF m 23 #[.val (.ref a0), .val (.int p1)] [])) _
      refine XS.iconst X2.here hx rfl (hb hby own_d1_23) ?_
      show Steps p.tables e below (T2.setTop (mkF m 24 #[.val (.ref a0), .val (.int p1)] [(.int (1 : Int32))])) _
      refine XS.goto X2.here hx rfl (pc0 := 24) (pc' := 28) rfl (hb hby own_d1_24) (by decide) (by decide) ?_
      show Steps p.tables e below (T2.setTop (mkF m 28 #[.val (.ref a0), .val (.int p1)] [(.int (1 : Int32))])) _
      exact retN X2 hx (t := .boolean) Bd.returns (by simp) (hb hby own_d1_28) hr
    · show own_QM Z a0 p1 aO h0 n0 _ T2.heap _
      rw [e2]
      have hv : own_fM p1 = (1 : Int32) := by unfold own_fM; rw [if_pos hc4]
      exact ⟨by rw [hv], N0, rfl⟩
  · obtain ⟨fs, hr, hrun, hended, hW, hsame⟩ := X2.leave (v := some (.int (0 : Int32))) (fun h => by rw [Bd.returns] at h; cases h)
    refine ⟨_, _, pre3 _ ?_, hrun, hended, _, _, rfl, ?_, ⟨_, rfl⟩, hW, hsame.mono (by decide) (by decide)⟩
    · show Steps p.tables e below (T2.setTop (mkF m 20 #[.val (.ref a0), .val (.int p1)] [(.int (1 : Int32)), (.int p1)])) _
      refine XS.icmpYes X2.here hx rfl (pc0 := 20) (pc' := 27) rfl (hb hby own_d1_20) rfl (feq hc4).2 (by decide) (by decide) ?_
      show Steps p.tables e below (T2.setTop (mkF m 27 #[.val (.ref a0), .val (.int p1)] [])) _
      refine XS.iconst X2.here hx rfl (hb hby own_d1_27) ?_
      show Steps p.tables e below (T2.setTop (mkF m 28 #[.val (.ref a0), .val (.int p1)] [(.int (0 : Int32))])) _
      exact retN X2 hx (t := .boolean) Bd.returns (by simp) (hb hby own_d1_28) hr
    · show own_QM Z a0 p1 aO h0 n0 _ T2.heap _
      rw [e2]
      have hv : own_fM p1 = (0 : Int32) := by unfold own_fM; rw [if_neg hc4]
      exact ⟨by rw [hv], N0, rfl⟩
theorem own_fM_cases (p1 : Int32) : (p1 = (1 : Int32) ∧ (own_fM p1 = (1 : Int32))) ∨ (¬ (p1 = (1 : Int32)) ∧ (own_fM p1 = (0 : Int32))) := by
  by_cases cs0 : p1 = (1 : Int32)
  · refine Or.inl ⟨cs0, ?_⟩
    unfold own_fM; rw [if_pos cs0]
  · refine Or.inr ⟨cs0, ?_⟩
    unfold own_fM; rw [if_neg cs0]
def own_fO (p1 : Int32) : Int32 := (1 : Int32)
theorem own_efO (m : MethodId) (a0 : Addr) (p1 : Int32) : entryFrame m #[(.ref a0), (.int p1)] 2 = mkF m 0 #[.val (.ref a0), .val (.int p1)] [] := by first | (simp [entryFrame, mkF, argsToLocals, Value.category]; done) | rfl
def own_QO (Z : State) (a0 : Addr) (p1 : Int32) (h0 : Heap) (n0 : Nat) (v : Option Value) (h : Heap) (L : List Loc) : Prop := v = some (.int (own_fO p1)) ∧ Fr n0 L ∧ h = h0
set_option maxRecDepth 65536 in
set_option maxHeartbeats 40000000 in
theorem own_rmO (l : Launch) (Z : State) (a0 : Array Value) (hw : ∀ d ∈ tables_1, d.before a0 Z = true) (ws : List Jvm.Cond) (a0 : Addr) (p1 : Int32) (h0 : Heap) (n0 : Nat) (Z0 : n0 ≤ h0.size) (pr0 : Sta Z h0 "archetest/model/ValidityKind" "OPTIONAL" "Larchetest/model/ValidityKind;" (.ref a0)) :
    MetFree l (⟨"archetest/model/ValidityKind", "admits", "(Z)Z"⟩ : MethodName) (head1 (Jvm.Cond.code (⟨"archetest/model/ValidityKind", "admits", "(Z)Z"⟩ : MethodName) prog_84_method_5_code 2 (some .boolean) :: ws) ({ frames := 0, cells := 0, slots := 0, locals := 0 } : Room)) (fun a U => a = #[(.ref a0), (.int p1)] ∧ Z.Warmed39 U.vm ∧ U.heap = h0) (fun _ _ _ _ _ => True) (fun _ U o U' => ∃ v L, o = .returned v ∧ own_QO Z a0 p1 h0 n0 v U'.heap L ∧ FrameEnd U o U' L ({ frames := 0, cells := 0, slots := 0, locals := 0 } : Room).cells ({ frames := 0, cells := 0, slots := 0, locals := 0 } : Room).slots) := by
  refine MetFree.of_bodySF (plainFor_of_name own_pn14) hisR ?_
  intro p e s m args below meth c s₁ Bd hml0 hP hK
  obtain ⟨rfl, hZ, hh⟩ := hP
  have hx := Bd.exec
  have hby := Bd.bytes
  have hml : c.maxLocals = 2 := hml0
  have hown : s.vm.findClass "archetest/model/ValidityKind" = some m.cls := findClass_of_methodNamed Bd.named
  have hnm := (name_of_methodNamed Bd.named Bd.method).1
  have X0 : Stand p l e ({ frames := 0, cells := 0, slots := 0, locals := 0 } : Room) s m #[(.ref a0), (.int p1)] below meth c s₁ [] 0 0 := Stand.of_body Bd
  have e0 : s₁.heap = h0 := by rw [← hh, Bd.state]; rfl
  have N0 := Fr.nil n0
  have pre0 : ∀ t, Steps p.tables e below (s₁.setTop (mkF m 0 #[.val (.ref a0), .val (.int p1)] [])) t → Steps p.tables e below (s₁.setTop (entryFrame m #[(.ref a0), (.int p1)] 2)) t := fun t k => castTop (own_efO m a0 p1) k
  obtain ⟨T5, X5, e5, st5⟩ := getS2 X0 hx hZ hown (host := "") (Or.inl (hw _ (List.mem_of_getElem? (i := 9) rfl))) Via.refl e0 pr0 (g := (mkF m 1 #[.val (.ref a0), .val (.int p1)] [(.ref a0)])) rfl (hb hby own_d1_1)
  obtain ⟨fs, hr, hrun, hended, hW, hsame⟩ := X5.leave (v := some (.int (1 : Int32))) (fun h => by rw [Bd.returns] at h; cases h)
  refine ⟨_, _, pre0 _ ?_, hrun, hended, _, _, rfl, ?_, ⟨_, rfl⟩, hW, hsame.mono (by decide) (by decide)⟩
  · show Steps p.tables e below (s₁.setTop (mkF m 0 #[.val (.ref a0), .val (.int p1)] [])) _
    refine XS.aloadN X0.here hx rfl (hb hby own_d1_0) rfl rfl ?_
    show Steps p.tables e below (s₁.setTop (mkF m 1 #[.val (.ref a0), .val (.int p1)] [(.ref a0)])) _
    refine st5 _ ?_
    show Steps p.tables e below (T5.setTop (mkF m 4 #[.val (.ref a0), .val (.int p1)] [(.ref a0), (.ref a0)])) _
    refine Jvm.RoadKit.acmp (g := (mkF m 4 #[.val (.ref a0), .val (.int p1)] [(.ref a0), (.ref a0)])) X5 hx rfl rfl rfl (pc0 := 4) (pc' := 23) (same := true) rfl (hb hby own_d1_4) rfl (decide_eq_true rfl) (by decide) (by decide) ?_
    show Steps p.tables e below (T5.setTop (mkF m 23 #[.val (.ref a0), .val (.int p1)] [])) _
    refine XS.iconst X5.here hx rfl (hb hby own_d1_23) ?_
    show Steps p.tables e below (T5.setTop (mkF m 24 #[.val (.ref a0), .val (.int p1)] [(.int (1 : Int32))])) _
    refine XS.goto X5.here hx rfl (pc0 := 24) (pc' := 28) rfl (hb hby own_d1_24) (by decide) (by decide) ?_
    show Steps p.tables e below (T5.setTop (mkF m 28 #[.val (.ref a0), .val (.int p1)] [(.int (1 : Int32))])) _
    exact retN X5 hx (t := .boolean) Bd.returns (by simp) (hb hby own_d1_28) hr
  · show own_QO Z a0 p1 h0 n0 _ T5.heap _
    rw [e5]
    have hv : own_fO p1 = (1 : Int32) := by rfl
    exact ⟨by rw [hv], N0, rfl⟩
theorem own_fO_cases (p1 : Int32) : own_fO p1 = (1 : Int32) := by
  rfl
theorem own_d1_19 : decode prog_84_method_5_code 19 = .ok (.iconst 0, 1) := by decide +kernel
def own_fP (p1 : Int32) : Int32 := if p1 = (0 : Int32) then (1 : Int32) else (0 : Int32)
theorem own_efP (m : MethodId) (a0 : Addr) (p1 : Int32) : entryFrame m #[(.ref a0), (.int p1)] 2 = mkF m 0 #[.val (.ref a0), .val (.int p1)] [] := by first | (simp [entryFrame, mkF, argsToLocals, Value.category]; done) | rfl
def own_QP (Z : State) (a0 : Addr) (p1 : Int32) (aO : Addr) (aM : Addr) (h0 : Heap) (n0 : Nat) (v : Option Value) (h : Heap) (L : List Loc) : Prop := v = some (.int (own_fP p1)) ∧ Fr n0 L ∧ h = h0
set_option maxRecDepth 65536 in
set_option maxHeartbeats 40000000 in
theorem own_rmP (l : Launch) (Z : State) (a0 : Array Value) (hw : ∀ d ∈ tables_1, d.before a0 Z = true) (ws : List Jvm.Cond) (a0 : Addr) (p1 : Int32) (aO : Addr) (aM : Addr) (h0 : Heap) (n0 : Nat) (Z0 : n0 ≤ h0.size) (pr0 : Sta Z h0 "archetest/model/ValidityKind" "OPTIONAL" "Larchetest/model/ValidityKind;" (.ref aO)) (pr1 : Sta Z h0 "archetest/model/ValidityKind" "MANDATORY" "Larchetest/model/ValidityKind;" (.ref aM)) (ne_a0_aO : a0 ≠ aO) (ne_a0_aM : a0 ≠ aM) :
    MetFree l (⟨"archetest/model/ValidityKind", "admits", "(Z)Z"⟩ : MethodName) (head1 (Jvm.Cond.code (⟨"archetest/model/ValidityKind", "admits", "(Z)Z"⟩ : MethodName) prog_84_method_5_code 2 (some .boolean) :: ws) ({ frames := 0, cells := 0, slots := 0, locals := 0 } : Room)) (fun a U => a = #[(.ref a0), (.int p1)] ∧ Z.Warmed39 U.vm ∧ U.heap = h0) (fun _ _ _ _ _ => True) (fun _ U o U' => ∃ v L, o = .returned v ∧ own_QP Z a0 p1 aO aM h0 n0 v U'.heap L ∧ FrameEnd U o U' L ({ frames := 0, cells := 0, slots := 0, locals := 0 } : Room).cells ({ frames := 0, cells := 0, slots := 0, locals := 0 } : Room).slots) := by
  refine MetFree.of_bodySF (plainFor_of_name own_pn14) hisR ?_
  intro p e s m args below meth c s₁ Bd hml0 hP hK
  obtain ⟨rfl, hZ, hh⟩ := hP
  have hx := Bd.exec
  have hby := Bd.bytes
  have hml : c.maxLocals = 2 := hml0
  have hown : s.vm.findClass "archetest/model/ValidityKind" = some m.cls := findClass_of_methodNamed Bd.named
  have hnm := (name_of_methodNamed Bd.named Bd.method).1
  have X0 : Stand p l e ({ frames := 0, cells := 0, slots := 0, locals := 0 } : Room) s m #[(.ref a0), (.int p1)] below meth c s₁ [] 0 0 := Stand.of_body Bd
  have e0 : s₁.heap = h0 := by rw [← hh, Bd.state]; rfl
  have N0 := Fr.nil n0
  have pre0 : ∀ t, Steps p.tables e below (s₁.setTop (mkF m 0 #[.val (.ref a0), .val (.int p1)] [])) t → Steps p.tables e below (s₁.setTop (entryFrame m #[(.ref a0), (.int p1)] 2)) t := fun t k => castTop (own_efP m a0 p1) k
  obtain ⟨T6, X6, e6, st6⟩ := getS2 X0 hx hZ hown (host := "") (Or.inl (hw _ (List.mem_of_getElem? (i := 9) rfl))) Via.refl e0 pr0 (g := (mkF m 1 #[.val (.ref a0), .val (.int p1)] [(.ref a0)])) rfl (hb hby own_d1_1)
  obtain ⟨T7, X7, e7, st7⟩ := getS2 X6 hx hZ hown (host := "") (Or.inl (hw _ (List.mem_of_getElem? (i := 11) rfl))) Via.refl e6 pr1 (g := (mkF m 9 #[.val (.ref a0), .val (.int p1)] [(.ref a0), (.int p1)])) rfl (hb hby own_d1_9)
  have pre8 : ∀ t, Steps p.tables e below (T7.setTop (mkF m 20 #[.val (.ref a0), .val (.int p1)] [(.int (0 : Int32)), (.int p1)])) t → Steps p.tables e below (s₁.setTop (entryFrame m #[(.ref a0), (.int p1)] 2)) t := fun t kk => pre0 t (by
    show Steps p.tables e below (s₁.setTop (mkF m 0 #[.val (.ref a0), .val (.int p1)] [])) _
    refine XS.aloadN X0.here hx rfl (hb hby own_d1_0) rfl rfl ?_
    show Steps p.tables e below (s₁.setTop (mkF m 1 #[.val (.ref a0), .val (.int p1)] [(.ref a0)])) _
    refine st6 _ ?_
    show Steps p.tables e below (T6.setTop (mkF m 4 #[.val (.ref a0), .val (.int p1)] [(.ref aO), (.ref a0)])) _
    refine Jvm.RoadKit.acmp (g := (mkF m 4 #[.val (.ref a0), .val (.int p1)] [(.ref aO), (.ref a0)])) X6 hx rfl rfl rfl (pc0 := 4) (pc' := 7) (same := false) rfl (hb hby own_d1_4) rfl (decide_eq_false fun q => ne_a0_aO (Value.ref.inj q)) (by decide) (by decide) ?_
    show Steps p.tables e below (T6.setTop (mkF m 7 #[.val (.ref a0), .val (.int p1)] [])) _
    refine XS.iloadN X6.here hx rfl (hb hby own_d1_7) rfl ?_
    show Steps p.tables e below (T6.setTop (mkF m 8 #[.val (.ref a0), .val (.int p1)] [(.int p1)])) _
    refine XS.aloadN X6.here hx rfl (hb hby own_d1_8) rfl rfl ?_
    show Steps p.tables e below (T6.setTop (mkF m 9 #[.val (.ref a0), .val (.int p1)] [(.ref a0), (.int p1)])) _
    refine st7 _ ?_
    show Steps p.tables e below (T7.setTop (mkF m 12 #[.val (.ref a0), .val (.int p1)] [(.ref aM), (.ref a0), (.int p1)])) _
    refine Jvm.RoadKit.acmp (g := (mkF m 12 #[.val (.ref a0), .val (.int p1)] [(.ref aM), (.ref a0), (.int p1)])) X7 hx rfl rfl rfl (pc0 := 12) (pc' := 19) (same := false) rfl (hb hby own_d1_12) rfl (decide_eq_false fun q => ne_a0_aM (Value.ref.inj q)) (by decide) (by decide) ?_
    show Steps p.tables e below (T7.setTop (mkF m 19 #[.val (.ref a0), .val (.int p1)] [(.int p1)])) _
    refine XS.iconst X7.here hx rfl (hb hby own_d1_19) ?_
    show Steps p.tables e below (T7.setTop (mkF m 20 #[.val (.ref a0), .val (.int p1)] [(.int (0 : Int32)), (.int p1)])) _
    exact kk)
  by_cases hc9 : p1 = (0 : Int32)
  · obtain ⟨fs, hr, hrun, hended, hW, hsame⟩ := X7.leave (v := some (.int (1 : Int32))) (fun h => by rw [Bd.returns] at h; cases h)
    refine ⟨_, _, pre8 _ ?_, hrun, hended, _, _, rfl, ?_, ⟨_, rfl⟩, hW, hsame.mono (by decide) (by decide)⟩
    · show Steps p.tables e below (T7.setTop (mkF m 20 #[.val (.ref a0), .val (.int p1)] [(.int (0 : Int32)), (.int p1)])) _
      refine XS.icmpNo X7.here hx rfl (hb hby own_d1_20) rfl (teq hc9).2 ?_
      show Steps p.tables e below (T7.setTop (mkF m 23 #[.val (.ref a0), .val (.int p1)] [])) _
      refine XS.iconst X7.here hx rfl (hb hby own_d1_23) ?_
      show Steps p.tables e below (T7.setTop (mkF m 24 #[.val (.ref a0), .val (.int p1)] [(.int (1 : Int32))])) _
      refine XS.goto X7.here hx rfl (pc0 := 24) (pc' := 28) rfl (hb hby own_d1_24) (by decide) (by decide) ?_
      show Steps p.tables e below (T7.setTop (mkF m 28 #[.val (.ref a0), .val (.int p1)] [(.int (1 : Int32))])) _
      exact retN X7 hx (t := .boolean) Bd.returns (by simp) (hb hby own_d1_28) hr
    · show own_QP Z a0 p1 aO aM h0 n0 _ T7.heap _
      rw [e7]
      have hv : own_fP p1 = (1 : Int32) := by unfold own_fP; rw [if_pos hc9]
      exact ⟨by rw [hv], N0, rfl⟩
  · obtain ⟨fs, hr, hrun, hended, hW, hsame⟩ := X7.leave (v := some (.int (0 : Int32))) (fun h => by rw [Bd.returns] at h; cases h)
    refine ⟨_, _, pre8 _ ?_, hrun, hended, _, _, rfl, ?_, ⟨_, rfl⟩, hW, hsame.mono (by decide) (by decide)⟩
    · show Steps p.tables e below (T7.setTop (mkF m 20 #[.val (.ref a0), .val (.int p1)] [(.int (0 : Int32)), (.int p1)])) _
      refine XS.icmpYes X7.here hx rfl (pc0 := 20) (pc' := 27) rfl (hb hby own_d1_20) rfl (feq hc9).2 (by decide) (by decide) ?_
      show Steps p.tables e below (T7.setTop (mkF m 27 #[.val (.ref a0), .val (.int p1)] [])) _
      refine XS.iconst X7.here hx rfl (hb hby own_d1_27) ?_
      show Steps p.tables e below (T7.setTop (mkF m 28 #[.val (.ref a0), .val (.int p1)] [(.int (0 : Int32))])) _
      exact retN X7 hx (t := .boolean) Bd.returns (by simp) (hb hby own_d1_28) hr
    · show own_QP Z a0 p1 aO aM h0 n0 _ T7.heap _
      rw [e7]
      have hv : own_fP p1 = (0 : Int32) := by unfold own_fP; rw [if_neg hc9]
      exact ⟨by rw [hv], N0, rfl⟩
theorem own_fP_cases (p1 : Int32) : (p1 = (0 : Int32) ∧ (own_fP p1 = (1 : Int32))) ∨ (¬ (p1 = (0 : Int32)) ∧ (own_fP p1 = (0 : Int32))) := by
  by_cases cs0 : p1 = (0 : Int32)
  · refine Or.inl ⟨cs0, ?_⟩
    unfold own_fP; rw [if_pos cs0]
  · refine Or.inr ⟨cs0, ?_⟩
    unfold own_fP; rw [if_neg cs0]
theorem own_pd0 : parseMethodDescriptor "(Z)Z" = some ⟨[.boolean], some .boolean⟩ := by decide +kernel
set_option maxRecDepth 65536 in
set_option maxHeartbeats 40000000 in
theorem own_leaf0_2 (p0 : Int32) (p1 : Int32) (aM : Addr) (aO : Addr) (aP : Addr) (v10 : Int32) (hv10 : v10 = ((p0 &&& (2147483647 : Int32)) % (3 : Int32))) (v13 : Int32) (hv13 : v13 = (if (p1 &&& (1 : Int32)) = (0 : Int32) then (0 : Int32) else (1 : Int32))) (hc16 : v10 = (0 : Int32)) (hc22 : ¬ ((own_fM v13) = v13)) : False := by
  have dv13 : ((p1 &&& (1 : Int32)) = (0 : Int32) ∧ (v13 = (0 : Int32))) ∨ (¬ ((p1 &&& (1 : Int32)) = (0 : Int32)) ∧ (v13 = (1 : Int32))) := (if q0 : (p1 &&& (1 : Int32)) = (0 : Int32) then Or.inl ⟨q0, (by rw [hv13, if_pos q0])⟩ else Or.inr ⟨q0, (by rw [hv13, if_neg q0])⟩)
  clear hv13
  have := own_fM_cases v13
  have := c_mask p0 (2147483647 : Int32) 31 (by decide) (by decide)
  have := Int32.le_toInt ((p0 &&& (2147483647 : Int32))); have := Int32.toInt_lt ((p0 &&& (2147483647 : Int32)))
  have := c_irem (p0 &&& (2147483647 : Int32)) (3 : Int32) (3) (by decide)
  have := Int32.le_toInt (((p0 &&& (2147483647 : Int32)) % (3 : Int32))); have := Int32.toInt_lt (((p0 &&& (2147483647 : Int32)) % (3 : Int32)))
  have := c_mask p1 (1 : Int32) 1 (by decide) (by decide)
  have := Int32.le_toInt ((p1 &&& (1 : Int32))); have := Int32.toInt_lt ((p1 &&& (1 : Int32)))
  have := Int32.le_toInt p0; have := Int32.toInt_lt p0
  have := Int32.le_toInt p1; have := Int32.toInt_lt p1
  have := Int32.le_toInt v10; have := Int32.toInt_lt v10
  have := Int32.le_toInt v13; have := Int32.toInt_lt v13
  simp only [Int32.lt_iff_toInt_lt, Int64.lt_iff_toInt_lt, ← Int32.toInt_inj, ← Int64.toInt_inj, Int32.reduceToInt, Int64.reduceToInt] at *
  all_goals omega
set_option maxRecDepth 65536 in
set_option maxHeartbeats 40000000 in
theorem own_leaf0_4 (p0 : Int32) (p1 : Int32) (aM : Addr) (aO : Addr) (aP : Addr) (v10 : Int32) (hv10 : v10 = ((p0 &&& (2147483647 : Int32)) % (3 : Int32))) (v13 : Int32) (hv13 : v13 = (if (p1 &&& (1 : Int32)) = (0 : Int32) then (0 : Int32) else (1 : Int32))) (hc16 : ¬ (v10 = (0 : Int32))) (hc24 : v10 = (1 : Int32)) (hc30 : ¬ ((own_fO v13) = (1 : Int32))) : False := by
  have dv13 : ((p1 &&& (1 : Int32)) = (0 : Int32) ∧ (v13 = (0 : Int32))) ∨ (¬ ((p1 &&& (1 : Int32)) = (0 : Int32)) ∧ (v13 = (1 : Int32))) := (if q0 : (p1 &&& (1 : Int32)) = (0 : Int32) then Or.inl ⟨q0, (by rw [hv13, if_pos q0])⟩ else Or.inr ⟨q0, (by rw [hv13, if_neg q0])⟩)
  clear hv13
  have := own_fO_cases v13
  have := c_mask p0 (2147483647 : Int32) 31 (by decide) (by decide)
  have := Int32.le_toInt ((p0 &&& (2147483647 : Int32))); have := Int32.toInt_lt ((p0 &&& (2147483647 : Int32)))
  have := c_irem (p0 &&& (2147483647 : Int32)) (3 : Int32) (3) (by decide)
  have := Int32.le_toInt (((p0 &&& (2147483647 : Int32)) % (3 : Int32))); have := Int32.toInt_lt (((p0 &&& (2147483647 : Int32)) % (3 : Int32)))
  have := c_mask p1 (1 : Int32) 1 (by decide) (by decide)
  have := Int32.le_toInt ((p1 &&& (1 : Int32))); have := Int32.toInt_lt ((p1 &&& (1 : Int32)))
  have := Int32.le_toInt p0; have := Int32.toInt_lt p0
  have := Int32.le_toInt p1; have := Int32.toInt_lt p1
  have := Int32.le_toInt v10; have := Int32.toInt_lt v10
  have := Int32.le_toInt v13; have := Int32.toInt_lt v13
  simp only [Int32.lt_iff_toInt_lt, Int64.lt_iff_toInt_lt, ← Int32.toInt_inj, ← Int64.toInt_inj, Int32.reduceToInt, Int64.reduceToInt] at *
  all_goals omega
set_option maxRecDepth 65536 in
set_option maxHeartbeats 40000000 in
theorem own_leaf0_6 (p0 : Int32) (p1 : Int32) (aM : Addr) (aO : Addr) (aP : Addr) (v10 : Int32) (hv10 : v10 = ((p0 &&& (2147483647 : Int32)) % (3 : Int32))) (v13 : Int32) (hv13 : v13 = (if (p1 &&& (1 : Int32)) = (0 : Int32) then (0 : Int32) else (1 : Int32))) (hc16 : ¬ (v10 = (0 : Int32))) (hc24 : ¬ (v10 = (1 : Int32))) (hc33 : v13 = (0 : Int32)) (hc38 : ¬ ((own_fP v13) = (1 : Int32))) : False := by
  have dv13 : ((p1 &&& (1 : Int32)) = (0 : Int32) ∧ (v13 = (0 : Int32))) ∨ (¬ ((p1 &&& (1 : Int32)) = (0 : Int32)) ∧ (v13 = (1 : Int32))) := (if q0 : (p1 &&& (1 : Int32)) = (0 : Int32) then Or.inl ⟨q0, (by rw [hv13, if_pos q0])⟩ else Or.inr ⟨q0, (by rw [hv13, if_neg q0])⟩)
  clear hv13
  have := own_fP_cases v13
  have := c_mask p0 (2147483647 : Int32) 31 (by decide) (by decide)
  have := Int32.le_toInt ((p0 &&& (2147483647 : Int32))); have := Int32.toInt_lt ((p0 &&& (2147483647 : Int32)))
  have := c_irem (p0 &&& (2147483647 : Int32)) (3 : Int32) (3) (by decide)
  have := Int32.le_toInt (((p0 &&& (2147483647 : Int32)) % (3 : Int32))); have := Int32.toInt_lt (((p0 &&& (2147483647 : Int32)) % (3 : Int32)))
  have := c_mask p1 (1 : Int32) 1 (by decide) (by decide)
  have := Int32.le_toInt ((p1 &&& (1 : Int32))); have := Int32.toInt_lt ((p1 &&& (1 : Int32)))
  have := Int32.le_toInt p0; have := Int32.toInt_lt p0
  have := Int32.le_toInt p1; have := Int32.toInt_lt p1
  have := Int32.le_toInt v10; have := Int32.toInt_lt v10
  have := Int32.le_toInt v13; have := Int32.toInt_lt v13
  simp only [Int32.lt_iff_toInt_lt, Int64.lt_iff_toInt_lt, ← Int32.toInt_inj, ← Int64.toInt_inj, Int32.reduceToInt, Int64.reduceToInt] at *
  all_goals omega
set_option maxRecDepth 65536 in
set_option maxHeartbeats 40000000 in
theorem own_leaf0_8 (p0 : Int32) (p1 : Int32) (aM : Addr) (aO : Addr) (aP : Addr) (v10 : Int32) (hv10 : v10 = ((p0 &&& (2147483647 : Int32)) % (3 : Int32))) (v13 : Int32) (hv13 : v13 = (if (p1 &&& (1 : Int32)) = (0 : Int32) then (0 : Int32) else (1 : Int32))) (hc16 : ¬ (v10 = (0 : Int32))) (hc24 : ¬ (v10 = (1 : Int32))) (hc33 : ¬ (v13 = (0 : Int32))) (hc43 : ¬ ((own_fP v13) = (0 : Int32))) : False := by
  have dv13 : ((p1 &&& (1 : Int32)) = (0 : Int32) ∧ (v13 = (0 : Int32))) ∨ (¬ ((p1 &&& (1 : Int32)) = (0 : Int32)) ∧ (v13 = (1 : Int32))) := (if q0 : (p1 &&& (1 : Int32)) = (0 : Int32) then Or.inl ⟨q0, (by rw [hv13, if_pos q0])⟩ else Or.inr ⟨q0, (by rw [hv13, if_neg q0])⟩)
  clear hv13
  have := own_fP_cases v13
  have := c_mask p0 (2147483647 : Int32) 31 (by decide) (by decide)
  have := Int32.le_toInt ((p0 &&& (2147483647 : Int32))); have := Int32.toInt_lt ((p0 &&& (2147483647 : Int32)))
  have := c_irem (p0 &&& (2147483647 : Int32)) (3 : Int32) (3) (by decide)
  have := Int32.le_toInt (((p0 &&& (2147483647 : Int32)) % (3 : Int32))); have := Int32.toInt_lt (((p0 &&& (2147483647 : Int32)) % (3 : Int32)))
  have := c_mask p1 (1 : Int32) 1 (by decide) (by decide)
  have := Int32.le_toInt ((p1 &&& (1 : Int32))); have := Int32.toInt_lt ((p1 &&& (1 : Int32)))
  have := Int32.le_toInt p0; have := Int32.toInt_lt p0
  have := Int32.le_toInt p1; have := Int32.toInt_lt p1
  have := Int32.le_toInt v10; have := Int32.toInt_lt v10
  have := Int32.le_toInt v13; have := Int32.toInt_lt v13
  simp only [Int32.lt_iff_toInt_lt, Int64.lt_iff_toInt_lt, ← Int32.toInt_inj, ← Int64.toInt_inj, Int32.reduceToInt, Int64.reduceToInt] at *
  all_goals omega
theorem own_pn16 : plainName "archetest/model/ValidityKindAdmitsPinLaw" = true := by first | (simp [plainName, overriddenIn]; done) | decide +kernel
theorem own_ef0 (m : MethodId) (p0 : Int32) (p1 : Int32) : entryFrame m #[(.int p0), (.int p1)] maxLocals = mkF m 0 #[.val (.int p0), .val (.int p1), .unset, .unset, .unset, .unset] [] := by first | (simp [entryFrame, mkF, argsToLocals, Value.category, maxLocals]; done) | rfl
def own_Q0 (Z : State) (p0 : Int32) (p1 : Int32) (aM : Addr) (aO : Addr) (aP : Addr) (h0 : Heap) (n0 : Nat) (v : Option Value) (h : Heap) (L : List Loc) : Prop := v = some (.int 1) ∧ Fr n0 L
set_option maxRecDepth 65536 in
set_option maxHeartbeats 40000000 in
theorem own_rm0 (l : Launch) (Z : State) (a0 : Array Value) (hw : ∀ d ∈ tables_1, d.before a0 Z = true) (ws : List Jvm.Cond) (p0 : Int32) (p1 : Int32) (aM : Addr) (aO : Addr) (aP : Addr) (h0 : Heap) (n0 : Nat) (Z0 : n0 ≤ h0.size) (pr0 : Sta Z h0 "archetest/model/ValidityKind" "MANDATORY" "Larchetest/model/ValidityKind;" (.ref aM)) (pr1 : Sta Z h0 "archetest/model/ValidityKind" "OPTIONAL" "Larchetest/model/ValidityKind;" (.ref aO)) (pr2 : Sta Z h0 "archetest/model/ValidityKind" "PROHIBITED" "Larchetest/model/ValidityKind;" (.ref aP)) (pr3 : Exa Z h0 aM "archetest/model/ValidityKind") (pr4 : Exa Z h0 aO "archetest/model/ValidityKind") (pr5 : Exa Z h0 aP "archetest/model/ValidityKind") (ne_aM_aO : aM ≠ aO) (ne_aP_aO : aP ≠ aO) (ne_aP_aM : aP ≠ aM) :
    MetFree l x (head1 (Jvm.Cond.code x code maxLocals ret :: ws) room_1) (fun a U => a = #[(.int p0), (.int p1)] ∧ Z.Warmed39 U.vm ∧ U.heap = h0) (fun _ _ _ _ _ => True) (fun _ U o U' => ∃ v L, o = .returned v ∧ own_Q0 Z p0 p1 aM aO aP h0 n0 v U'.heap L ∧ FrameEnd U o U' L room_1.cells room_1.slots) := by
  refine MetFree.of_bodySF (plainFor_of_name own_pn16) hisR ?_
  intro p e s m args below meth c s₁ Bd hml0 hP hK
  obtain ⟨rfl, hZ, hh⟩ := hP
  have hx := Bd.exec
  have hby := Bd.bytes
  have hml : c.maxLocals = 6 := hml0
  have hown : s.vm.findClass "archetest/model/ValidityKindAdmitsPinLaw" = some m.cls := findClass_of_methodNamed Bd.named
  have hnm := (name_of_methodNamed Bd.named Bd.method).1
  have X0 : Stand p l e room_1 s m #[(.int p0), (.int p1)] below meth c s₁ [] 0 0 := Stand.of_body Bd
  have e0 : s₁.heap = h0 := by rw [← hh, Bd.state]; rfl
  have N0 := Fr.nil n0
  have pre0 : ∀ t, Steps p.tables e below (s₁.setTop (mkF m 0 #[.val (.int p0), .val (.int p1), .unset, .unset, .unset, .unset] [])) t → Steps p.tables e below (s₁.setTop (entryFrame m #[(.int p0), (.int p1)] maxLocals)) t := fun t k => castTop (own_ef0 m p0 p1) k
  obtain ⟨v10, hv10⟩ : ∃ z : Int32, z = ((p0 &&& (2147483647 : Int32)) % (3 : Int32)) := ⟨_, rfl⟩
  have pre11 : ∀ t, Steps p.tables e below (s₁.setTop (mkF m 10 #[.val (.int p0), .val (.int p1), .val (.int v10), .unset, .unset, .unset] [(.int (p1 &&& (1 : Int32)))])) t → Steps p.tables e below (s₁.setTop (entryFrame m #[(.int p0), (.int p1)] maxLocals)) t := fun t kk => pre0 t (by
    show Steps p.tables e below (s₁.setTop (mkF m 0 #[.val (.int p0), .val (.int p1), .unset, .unset, .unset, .unset] [])) _
    refine XS.iloadN X0.here hx rfl (hb hby at_0) rfl ?_
    show Steps p.tables e below (s₁.setTop (mkF m 1 #[.val (.int p0), .val (.int p1), .unset, .unset, .unset, .unset] [(.int p0)])) _
    refine X0.ldcInt hx hown (mvT hZ (hw _ (List.mem_of_getElem? (i := 0) rfl))) (g := (mkF m 1 #[.val (.int p0), .val (.int p1), .unset, .unset, .unset, .unset] [(.int p0)])) rfl (hb hby at_1) _ ?_
    show Steps p.tables e below (s₁.setTop (mkF m 3 #[.val (.int p0), .val (.int p1), .unset, .unset, .unset, .unset] [(.int (2147483647 : Int32)), (.int p0)])) _
    refine XS.iand X0.here hx rfl (hb hby at_3) rfl ?_
    show Steps p.tables e below (s₁.setTop (mkF m 4 #[.val (.int p0), .val (.int p1), .unset, .unset, .unset, .unset] [(.int (p0 &&& (2147483647 : Int32)))])) _
    refine XS.iconst X0.here hx rfl (hb hby at_4) ?_
    show Steps p.tables e below (s₁.setTop (mkF m 5 #[.val (.int p0), .val (.int p1), .unset, .unset, .unset, .unset] [(.int (3 : Int32)), (.int (p0 &&& (2147483647 : Int32)))])) _
    refine iremM X0 hx rfl (hb hby at_5) rfl (by decide) ?_
    show Steps p.tables e below (s₁.setTop (mkF m 6 #[.val (.int p0), .val (.int p1), .unset, .unset, .unset, .unset] [(.int ((p0 &&& (2147483647 : Int32)) % (3 : Int32)))])) _
    refine castTop (congrArg (fun z : Int32 => mkF m 6 #[.val (.int p0), .val (.int p1), .unset, .unset, .unset, .unset] [(.int z)]) hv10.symm) ?_
    show Steps p.tables e below (s₁.setTop (mkF m 6 #[.val (.int p0), .val (.int p1), .unset, .unset, .unset, .unset] [(.int v10)])) _
    refine XS.istoreN X0.here hx rfl (hb hby at_6) rfl (l' := #[.val (.int p0), .val (.int p1), .val (.int v10), .unset, .unset, .unset]) rfl ?_
    show Steps p.tables e below (s₁.setTop (mkF m 7 #[.val (.int p0), .val (.int p1), .val (.int v10), .unset, .unset, .unset] [])) _
    refine XS.iloadN X0.here hx rfl (hb hby at_7) rfl ?_
    show Steps p.tables e below (s₁.setTop (mkF m 8 #[.val (.int p0), .val (.int p1), .val (.int v10), .unset, .unset, .unset] [(.int p1)])) _
    refine XS.iconst X0.here hx rfl (hb hby at_8) ?_
    show Steps p.tables e below (s₁.setTop (mkF m 9 #[.val (.int p0), .val (.int p1), .val (.int v10), .unset, .unset, .unset] [(.int (1 : Int32)), (.int p1)])) _
    refine XS.iand X0.here hx rfl (hb hby at_9) rfl ?_
    show Steps p.tables e below (s₁.setTop (mkF m 10 #[.val (.int p0), .val (.int p1), .val (.int v10), .unset, .unset, .unset] [(.int (p1 &&& (1 : Int32)))])) _
    exact kk)
  obtain ⟨v13, hv13⟩ : ∃ z : Int32, z = (if (p1 &&& (1 : Int32)) = (0 : Int32) then (0 : Int32) else (1 : Int32)) := ⟨_, rfl⟩
  have pre14 : ∀ t, Steps p.tables e below (s₁.setTop (mkF m 18 #[.val (.int p0), .val (.int p1), .val (.int v10), .unset, .unset, .unset] [(.int v13)])) t → Steps p.tables e below (s₁.setTop (entryFrame m #[(.int p0), (.int p1)] maxLocals)) t := fun t kk => pre11 t (by
    show Steps p.tables e below (s₁.setTop (mkF m 10 #[.val (.int p0), .val (.int p1), .val (.int v10), .unset, .unset, .unset] [(.int (p1 &&& (1 : Int32)))])) _
    by_cases hc12 : (p1 &&& (1 : Int32)) = (0 : Int32)
    · refine XS.ifYes X0.here hx rfl (pc0 := 10) (pc' := 17) rfl (hb hby at_10) rfl ((if0 _ _).trans (teq hc12).1) (by decide) (by decide) ?_
      show Steps p.tables e below (s₁.setTop (mkF m 17 #[.val (.int p0), .val (.int p1), .val (.int v10), .unset, .unset, .unset] [])) _
      refine XS.iconst X0.here hx rfl (hb hby at_17) ?_
      rw [show v13 = (0 : Int32) by rw [hv13, if_pos hc12]] at kk
      exact kk
    · refine XS.ifNo X0.here hx rfl (hb hby at_10) rfl ((if0 _ _).trans (feq hc12).1) ?_
      show Steps p.tables e below (s₁.setTop (mkF m 13 #[.val (.int p0), .val (.int p1), .val (.int v10), .unset, .unset, .unset] [])) _
      refine XS.iconst X0.here hx rfl (hb hby at_13) ?_
      show Steps p.tables e below (s₁.setTop (mkF m 14 #[.val (.int p0), .val (.int p1), .val (.int v10), .unset, .unset, .unset] [(.int (1 : Int32))])) _
      refine XS.goto X0.here hx rfl (pc0 := 14) (pc' := 18) rfl (hb hby at_14) (by decide) (by decide) ?_
      rw [show v13 = (1 : Int32) by rw [hv13, if_neg hc12]] at kk
      exact kk)
  have pre15 : ∀ t, Steps p.tables e below (s₁.setTop (mkF m 20 #[.val (.int p0), .val (.int p1), .val (.int v10), .val (.int v13), .unset, .unset] [(.int v10)])) t → Steps p.tables e below (s₁.setTop (entryFrame m #[(.int p0), (.int p1)] maxLocals)) t := fun t kk => pre14 t (by
    show Steps p.tables e below (s₁.setTop (mkF m 18 #[.val (.int p0), .val (.int p1), .val (.int v10), .unset, .unset, .unset] [(.int v13)])) _
    refine XS.istoreN X0.here hx rfl (hb hby at_18) rfl (l' := #[.val (.int p0), .val (.int p1), .val (.int v10), .val (.int v13), .unset, .unset]) rfl ?_
    show Steps p.tables e below (s₁.setTop (mkF m 19 #[.val (.int p0), .val (.int p1), .val (.int v10), .val (.int v13), .unset, .unset] [])) _
    refine XS.iloadN X0.here hx rfl (hb hby at_19) rfl ?_
    show Steps p.tables e below (s₁.setTop (mkF m 20 #[.val (.int p0), .val (.int p1), .val (.int v10), .val (.int v13), .unset, .unset] [(.int v10)])) _
    exact kk)
  by_cases hc16 : v10 = (0 : Int32)
  · obtain ⟨T17, X17, e17, st17⟩ := getS2 X0 hx hZ hown (host := "") (Or.inl (hw _ (List.mem_of_getElem? (i := 1) rfl))) Via.refl e0 pr0 (g := (mkF m 23 #[.val (.int p0), .val (.int p1), .val (.int v10), .val (.int v13), .unset, .unset] [])) rfl (hb hby at_23)
    obtain ⟨cq18, kq18, q18a, q18b, q18c⟩ := isOf hZ e17 pr3
    obtain ⟨_, _, ⟨T18, L18, k18, n18⟩, -, X18, ⟨Lc18, hQ18, l18, y18, z18⟩, st18⟩ := X17.virtualBack hx (y := (⟨"archetest/model/ValidityKind", "admits", "(Z)Z"⟩ : MethodName)) (z := (⟨"archetest/model/ValidityKind", "admits", "(Z)Z"⟩ : MethodName)) hown (mvT hZ (hw _ (List.mem_of_getElem? (i := 4) rfl))) (mvT hZ (hw _ (List.mem_of_getElem? (i := 5) rfl))) (notFace_of_selects (args := #[]) (mvT hZ (hw _ (List.mem_of_getElem? (i := 7) rfl)))) (mvT hZ (hw _ (List.mem_of_getElem? (i := 7) rfl))) (mvT hZ (hw _ (List.mem_of_getElem? (i := 6) rfl))) (by decide) (backOf (W := 0) (own_rmM l Z a0 hw [] aM v13 (aO) h0 n0 Z0 pr1 pr0 ne_aM_aO) hZ (hw _ (List.mem_of_getElem? (i := 8) rfl)) (hw _ (List.mem_of_getElem? (i := 2) rfl)) (by decide) (by decide)) q18a q18c (g := (mkF m 69 #[.val (.int p0), .val (.int p1), .val (.int v10), .val (.int v13), .val (.ref aM), .val (.int v13)] [(.int v13), (.ref aM)])) rfl (by rw [hml]; rfl) (Steps.refl _) (argsL := [(.int v13)]) (rest := []) (lenOf own_pd0 rfl) rfl (by show 2 * 0 + _ ≤ _; exact Nat.le_of_eq rfl) (hb hby at_69) (fun _ _ => ⟨rfl, e17, (by decide : 0 + 0 ≤ _), (by decide : 0 + 0 ≤ _)⟩)
    dsimp only [Pt.U, Pt.locs, Pt.cells, Pt.slots] at X18 l18 y18 z18 st18 hQ18
    subst l18 y18 z18
    obtain ⟨rfl, N18q, e20⟩ := hQ18
    have N19 := Fr.app N0 N18q
    have pre21 : ∀ t, Steps p.tables e below (T18.setTop (mkF m 74 #[.val (.int p0), .val (.int p1), .val (.int v10), .val (.int v13), .val (.ref aM), .val (.int v13)] [(.int v13), (.int (own_fM v13))])) t → Steps p.tables e below (s₁.setTop (entryFrame m #[(.int p0), (.int p1)] maxLocals)) t := fun t kk => pre15 t (by
      show Steps p.tables e below (s₁.setTop (mkF m 20 #[.val (.int p0), .val (.int p1), .val (.int v10), .val (.int v13), .unset, .unset] [(.int v10)])) _
      refine XS.ifNo X0.here hx rfl (hb hby at_20) rfl ((if0 _ _).trans (teq hc16).2) ?_
      show Steps p.tables e below (s₁.setTop (mkF m 23 #[.val (.int p0), .val (.int p1), .val (.int v10), .val (.int v13), .unset, .unset] [])) _
      refine st17 _ ?_
      show Steps p.tables e below (T17.setTop (mkF m 26 #[.val (.int p0), .val (.int p1), .val (.int v10), .val (.int v13), .unset, .unset] [(.ref aM)])) _
      refine XS.astore X17.here hx rfl (hb hby at_26) rfl rfl (l' := #[.val (.int p0), .val (.int p1), .val (.int v10), .val (.int v13), .val (.ref aM), .unset]) rfl ?_
      show Steps p.tables e below (T17.setTop (mkF m 28 #[.val (.int p0), .val (.int p1), .val (.int v10), .val (.int v13), .val (.ref aM), .unset] [])) _
      refine XS.iloadN X17.here hx rfl (hb hby at_28) rfl ?_
      show Steps p.tables e below (T17.setTop (mkF m 29 #[.val (.int p0), .val (.int p1), .val (.int v10), .val (.int v13), .val (.ref aM), .unset] [(.int v13)])) _
      refine XS.istore X17.here hx rfl (hb hby at_29) rfl (l' := #[.val (.int p0), .val (.int p1), .val (.int v10), .val (.int v13), .val (.ref aM), .val (.int v13)]) rfl ?_
      show Steps p.tables e below (T17.setTop (mkF m 31 #[.val (.int p0), .val (.int p1), .val (.int v10), .val (.int v13), .val (.ref aM), .val (.int v13)] [])) _
      refine XS.goto X17.here hx rfl (pc0 := 31) (pc' := 66) rfl (hb hby at_31) (by decide) (by decide) ?_
      show Steps p.tables e below (T17.setTop (mkF m 66 #[.val (.int p0), .val (.int p1), .val (.int v10), .val (.int v13), .val (.ref aM), .val (.int v13)] [])) _
      refine XS.aload X17.here hx rfl (hb hby at_66) rfl rfl ?_
      show Steps p.tables e below (T17.setTop (mkF m 68 #[.val (.int p0), .val (.int p1), .val (.int v10), .val (.int v13), .val (.ref aM), .val (.int v13)] [(.ref aM)])) _
      refine XS.iloadN X17.here hx rfl (hb hby at_68) rfl ?_
      show Steps p.tables e below (T17.setTop (mkF m 69 #[.val (.int p0), .val (.int p1), .val (.int v10), .val (.int v13), .val (.ref aM), .val (.int v13)] [(.int v13), (.ref aM)])) _
      refine st18.trans ?_
      show Steps p.tables e below (T18.setTop (mkF m 72 #[.val (.int p0), .val (.int p1), .val (.int v10), .val (.int v13), .val (.ref aM), .val (.int v13)] [(.int (own_fM v13))])) _
      refine XS.iload X18.here hx rfl (hb hby at_72) rfl ?_
      show Steps p.tables e below (T18.setTop (mkF m 74 #[.val (.int p0), .val (.int p1), .val (.int v10), .val (.int v13), .val (.ref aM), .val (.int v13)] [(.int v13), (.int (own_fM v13))])) _
      exact kk)
    by_cases hc22 : (own_fM v13) = v13
    · obtain ⟨fs, hr, hrun, hended, hW, hsame⟩ := X18.leave (v := some (.int (1 : Int32))) (fun h => by rw [Bd.returns] at h; cases h)
      refine ⟨_, _, pre21 _ ?_, hrun, hended, _, _, rfl, ?_, ⟨_, rfl⟩, hW, hsame.mono (by decide) (by decide)⟩
      · show Steps p.tables e below (T18.setTop (mkF m 74 #[.val (.int p0), .val (.int p1), .val (.int v10), .val (.int v13), .val (.ref aM), .val (.int v13)] [(.int v13), (.int (own_fM v13))])) _
        refine XS.icmpNo X18.here hx rfl (hb hby at_74) rfl (teq hc22).2 ?_
        show Steps p.tables e below (T18.setTop (mkF m 77 #[.val (.int p0), .val (.int p1), .val (.int v10), .val (.int v13), .val (.ref aM), .val (.int v13)] [])) _
        refine XS.iconst X18.here hx rfl (hb hby at_77) ?_
        show Steps p.tables e below (T18.setTop (mkF m 78 #[.val (.int p0), .val (.int p1), .val (.int v10), .val (.int v13), .val (.ref aM), .val (.int v13)] [(.int (1 : Int32))])) _
        refine XS.goto X18.here hx rfl (pc0 := 78) (pc' := 82) rfl (hb hby at_78) (by decide) (by decide) ?_
        show Steps p.tables e below (T18.setTop (mkF m 82 #[.val (.int p0), .val (.int p1), .val (.int v10), .val (.int v13), .val (.ref aM), .val (.int v13)] [(.int (1 : Int32))])) _
        exact retN X18 hx (t := .boolean) Bd.returns (by simp) (hb hby at_82) hr
      · show own_Q0 Z p0 p1 aM aO aP h0 n0 _ T18.heap _
        rw [e20]
        exact ⟨rfl, N19⟩
    · exact (own_leaf0_2 p0 p1 aM aO aP v10 hv10 v13 hv13 hc16 hc22).elim
  · have pre23 : ∀ t, Steps p.tables e below (s₁.setTop (mkF m 36 #[.val (.int p0), .val (.int p1), .val (.int v10), .val (.int v13), .unset, .unset] [(.int (1 : Int32)), (.int v10)])) t → Steps p.tables e below (s₁.setTop (entryFrame m #[(.int p0), (.int p1)] maxLocals)) t := fun t kk => pre15 t (by
      show Steps p.tables e below (s₁.setTop (mkF m 20 #[.val (.int p0), .val (.int p1), .val (.int v10), .val (.int v13), .unset, .unset] [(.int v10)])) _
      refine XS.ifYes X0.here hx rfl (pc0 := 20) (pc' := 34) rfl (hb hby at_20) rfl ((if0 _ _).trans (feq hc16).2) (by decide) (by decide) ?_
      show Steps p.tables e below (s₁.setTop (mkF m 34 #[.val (.int p0), .val (.int p1), .val (.int v10), .val (.int v13), .unset, .unset] [])) _
      refine XS.iloadN X0.here hx rfl (hb hby at_34) rfl ?_
      show Steps p.tables e below (s₁.setTop (mkF m 35 #[.val (.int p0), .val (.int p1), .val (.int v10), .val (.int v13), .unset, .unset] [(.int v10)])) _
      refine XS.iconst X0.here hx rfl (hb hby at_35) ?_
      show Steps p.tables e below (s₁.setTop (mkF m 36 #[.val (.int p0), .val (.int p1), .val (.int v10), .val (.int v13), .unset, .unset] [(.int (1 : Int32)), (.int v10)])) _
      exact kk)
    by_cases hc24 : v10 = (1 : Int32)
    · obtain ⟨T25, X25, e25, st25⟩ := getS2 X0 hx hZ hown (host := "") (Or.inl (hw _ (List.mem_of_getElem? (i := 14) rfl))) Via.refl e0 pr1 (g := (mkF m 39 #[.val (.int p0), .val (.int p1), .val (.int v10), .val (.int v13), .unset, .unset] [])) rfl (hb hby at_39)
      obtain ⟨cq26, kq26, q26a, q26b, q26c⟩ := isOf hZ e25 pr4
      obtain ⟨_, _, ⟨T26, L26, k26, n26⟩, -, X26, ⟨Lc26, hQ26, l26, y26, z26⟩, st26⟩ := X25.virtualBack hx (y := (⟨"archetest/model/ValidityKind", "admits", "(Z)Z"⟩ : MethodName)) (z := (⟨"archetest/model/ValidityKind", "admits", "(Z)Z"⟩ : MethodName)) hown (mvT hZ (hw _ (List.mem_of_getElem? (i := 4) rfl))) (mvT hZ (hw _ (List.mem_of_getElem? (i := 5) rfl))) (notFace_of_selects (args := #[]) (mvT hZ (hw _ (List.mem_of_getElem? (i := 7) rfl)))) (mvT hZ (hw _ (List.mem_of_getElem? (i := 7) rfl))) (mvT hZ (hw _ (List.mem_of_getElem? (i := 6) rfl))) (by decide) (backOf (W := 0) (own_rmO l Z a0 hw [] aO v13 h0 n0 Z0 pr1) hZ (hw _ (List.mem_of_getElem? (i := 8) rfl)) (hw _ (List.mem_of_getElem? (i := 2) rfl)) (by decide) (by decide)) q26a q26c (g := (mkF m 69 #[.val (.int p0), .val (.int p1), .val (.int v10), .val (.int v13), .val (.ref aO), .val (.int (1 : Int32))] [(.int v13), (.ref aO)])) rfl (by rw [hml]; rfl) (Steps.refl _) (argsL := [(.int v13)]) (rest := []) (lenOf own_pd0 rfl) rfl (by show 2 * 0 + _ ≤ _; exact Nat.le_of_eq rfl) (hb hby at_69) (fun _ _ => ⟨rfl, e25, (by decide : 0 + 0 ≤ _), (by decide : 0 + 0 ≤ _)⟩)
      dsimp only [Pt.U, Pt.locs, Pt.cells, Pt.slots] at X26 l26 y26 z26 st26 hQ26
      subst l26 y26 z26
      obtain ⟨rfl, N26q, e28⟩ := hQ26
      have N27 := Fr.app N0 N26q
      have pre29 : ∀ t, Steps p.tables e below (T26.setTop (mkF m 74 #[.val (.int p0), .val (.int p1), .val (.int v10), .val (.int v13), .val (.ref aO), .val (.int (1 : Int32))] [(.int (1 : Int32)), (.int (own_fO v13))])) t → Steps p.tables e below (s₁.setTop (entryFrame m #[(.int p0), (.int p1)] maxLocals)) t := fun t kk => pre23 t (by
        show Steps p.tables e below (s₁.setTop (mkF m 36 #[.val (.int p0), .val (.int p1), .val (.int v10), .val (.int v13), .unset, .unset] [(.int (1 : Int32)), (.int v10)])) _
        refine XS.icmpNo X0.here hx rfl (hb hby at_36) rfl (teq hc24).2 ?_
        show Steps p.tables e below (s₁.setTop (mkF m 39 #[.val (.int p0), .val (.int p1), .val (.int v10), .val (.int v13), .unset, .unset] [])) _
        refine st25 _ ?_
        show Steps p.tables e below (T25.setTop (mkF m 42 #[.val (.int p0), .val (.int p1), .val (.int v10), .val (.int v13), .unset, .unset] [(.ref aO)])) _
        refine XS.astore X25.here hx rfl (hb hby at_42) rfl rfl (l' := #[.val (.int p0), .val (.int p1), .val (.int v10), .val (.int v13), .val (.ref aO), .unset]) rfl ?_
        show Steps p.tables e below (T25.setTop (mkF m 44 #[.val (.int p0), .val (.int p1), .val (.int v10), .val (.int v13), .val (.ref aO), .unset] [])) _
        refine XS.iconst X25.here hx rfl (hb hby at_44) ?_
        show Steps p.tables e below (T25.setTop (mkF m 45 #[.val (.int p0), .val (.int p1), .val (.int v10), .val (.int v13), .val (.ref aO), .unset] [(.int (1 : Int32))])) _
        refine XS.istore X25.here hx rfl (hb hby at_45) rfl (l' := #[.val (.int p0), .val (.int p1), .val (.int v10), .val (.int v13), .val (.ref aO), .val (.int (1 : Int32))]) rfl ?_
        show Steps p.tables e below (T25.setTop (mkF m 47 #[.val (.int p0), .val (.int p1), .val (.int v10), .val (.int v13), .val (.ref aO), .val (.int (1 : Int32))] [])) _
        refine XS.goto X25.here hx rfl (pc0 := 47) (pc' := 66) rfl (hb hby at_47) (by decide) (by decide) ?_
        show Steps p.tables e below (T25.setTop (mkF m 66 #[.val (.int p0), .val (.int p1), .val (.int v10), .val (.int v13), .val (.ref aO), .val (.int (1 : Int32))] [])) _
        refine XS.aload X25.here hx rfl (hb hby at_66) rfl rfl ?_
        show Steps p.tables e below (T25.setTop (mkF m 68 #[.val (.int p0), .val (.int p1), .val (.int v10), .val (.int v13), .val (.ref aO), .val (.int (1 : Int32))] [(.ref aO)])) _
        refine XS.iloadN X25.here hx rfl (hb hby at_68) rfl ?_
        show Steps p.tables e below (T25.setTop (mkF m 69 #[.val (.int p0), .val (.int p1), .val (.int v10), .val (.int v13), .val (.ref aO), .val (.int (1 : Int32))] [(.int v13), (.ref aO)])) _
        refine st26.trans ?_
        show Steps p.tables e below (T26.setTop (mkF m 72 #[.val (.int p0), .val (.int p1), .val (.int v10), .val (.int v13), .val (.ref aO), .val (.int (1 : Int32))] [(.int (own_fO v13))])) _
        refine XS.iload X26.here hx rfl (hb hby at_72) rfl ?_
        show Steps p.tables e below (T26.setTop (mkF m 74 #[.val (.int p0), .val (.int p1), .val (.int v10), .val (.int v13), .val (.ref aO), .val (.int (1 : Int32))] [(.int (1 : Int32)), (.int (own_fO v13))])) _
        exact kk)
      by_cases hc30 : (own_fO v13) = (1 : Int32)
      · obtain ⟨fs, hr, hrun, hended, hW, hsame⟩ := X26.leave (v := some (.int (1 : Int32))) (fun h => by rw [Bd.returns] at h; cases h)
        refine ⟨_, _, pre29 _ ?_, hrun, hended, _, _, rfl, ?_, ⟨_, rfl⟩, hW, hsame.mono (by decide) (by decide)⟩
        · show Steps p.tables e below (T26.setTop (mkF m 74 #[.val (.int p0), .val (.int p1), .val (.int v10), .val (.int v13), .val (.ref aO), .val (.int (1 : Int32))] [(.int (1 : Int32)), (.int (own_fO v13))])) _
          refine XS.icmpNo X26.here hx rfl (hb hby at_74) rfl (teq hc30).2 ?_
          show Steps p.tables e below (T26.setTop (mkF m 77 #[.val (.int p0), .val (.int p1), .val (.int v10), .val (.int v13), .val (.ref aO), .val (.int (1 : Int32))] [])) _
          refine XS.iconst X26.here hx rfl (hb hby at_77) ?_
          show Steps p.tables e below (T26.setTop (mkF m 78 #[.val (.int p0), .val (.int p1), .val (.int v10), .val (.int v13), .val (.ref aO), .val (.int (1 : Int32))] [(.int (1 : Int32))])) _
          refine XS.goto X26.here hx rfl (pc0 := 78) (pc' := 82) rfl (hb hby at_78) (by decide) (by decide) ?_
          show Steps p.tables e below (T26.setTop (mkF m 82 #[.val (.int p0), .val (.int p1), .val (.int v10), .val (.int v13), .val (.ref aO), .val (.int (1 : Int32))] [(.int (1 : Int32))])) _
          exact retN X26 hx (t := .boolean) Bd.returns (by simp) (hb hby at_82) hr
        · show own_Q0 Z p0 p1 aM aO aP h0 n0 _ T26.heap _
          rw [e28]
          exact ⟨rfl, N27⟩
      · exact (own_leaf0_4 p0 p1 aM aO aP v10 hv10 v13 hv13 hc16 hc24 hc30).elim
    · obtain ⟨T31, X31, e31, st31⟩ := getS2 X0 hx hZ hown (host := "") (Or.inl (hw _ (List.mem_of_getElem? (i := 12) rfl))) Via.refl e0 pr2 (g := (mkF m 50 #[.val (.int p0), .val (.int p1), .val (.int v10), .val (.int v13), .unset, .unset] [])) rfl (hb hby at_50)
      have pre32 : ∀ t, Steps p.tables e below (T31.setTop (mkF m 56 #[.val (.int p0), .val (.int p1), .val (.int v10), .val (.int v13), .val (.ref aP), .unset] [(.int v13)])) t → Steps p.tables e below (s₁.setTop (entryFrame m #[(.int p0), (.int p1)] maxLocals)) t := fun t kk => pre23 t (by
        show Steps p.tables e below (s₁.setTop (mkF m 36 #[.val (.int p0), .val (.int p1), .val (.int v10), .val (.int v13), .unset, .unset] [(.int (1 : Int32)), (.int v10)])) _
        refine XS.icmpYes X0.here hx rfl (pc0 := 36) (pc' := 50) rfl (hb hby at_36) rfl (feq hc24).2 (by decide) (by decide) ?_
        show Steps p.tables e below (s₁.setTop (mkF m 50 #[.val (.int p0), .val (.int p1), .val (.int v10), .val (.int v13), .unset, .unset] [])) _
        refine st31 _ ?_
        show Steps p.tables e below (T31.setTop (mkF m 53 #[.val (.int p0), .val (.int p1), .val (.int v10), .val (.int v13), .unset, .unset] [(.ref aP)])) _
        refine XS.astore X31.here hx rfl (hb hby at_53) rfl rfl (l' := #[.val (.int p0), .val (.int p1), .val (.int v10), .val (.int v13), .val (.ref aP), .unset]) rfl ?_
        show Steps p.tables e below (T31.setTop (mkF m 55 #[.val (.int p0), .val (.int p1), .val (.int v10), .val (.int v13), .val (.ref aP), .unset] [])) _
        refine XS.iloadN X31.here hx rfl (hb hby at_55) rfl ?_
        show Steps p.tables e below (T31.setTop (mkF m 56 #[.val (.int p0), .val (.int p1), .val (.int v10), .val (.int v13), .val (.ref aP), .unset] [(.int v13)])) _
        exact kk)
      by_cases hc33 : v13 = (0 : Int32)
      · obtain ⟨cq34, kq34, q34a, q34b, q34c⟩ := isOf hZ e31 pr5
        obtain ⟨_, _, ⟨T34, L34, k34, n34⟩, -, X34, ⟨Lc34, hQ34, l34, y34, z34⟩, st34⟩ := X31.virtualBack hx (y := (⟨"archetest/model/ValidityKind", "admits", "(Z)Z"⟩ : MethodName)) (z := (⟨"archetest/model/ValidityKind", "admits", "(Z)Z"⟩ : MethodName)) hown (mvT hZ (hw _ (List.mem_of_getElem? (i := 4) rfl))) (mvT hZ (hw _ (List.mem_of_getElem? (i := 5) rfl))) (notFace_of_selects (args := #[]) (mvT hZ (hw _ (List.mem_of_getElem? (i := 7) rfl)))) (mvT hZ (hw _ (List.mem_of_getElem? (i := 7) rfl))) (mvT hZ (hw _ (List.mem_of_getElem? (i := 6) rfl))) (by decide) (backOf (W := 0) (own_rmP l Z a0 hw [] aP v13 (aO) (aM) h0 n0 Z0 pr1 pr0 ne_aP_aO ne_aP_aM) hZ (hw _ (List.mem_of_getElem? (i := 8) rfl)) (hw _ (List.mem_of_getElem? (i := 2) rfl)) (by decide) (by decide)) q34a q34c (g := (mkF m 69 #[.val (.int p0), .val (.int p1), .val (.int v10), .val (.int v13), .val (.ref aP), .val (.int (1 : Int32))] [(.int v13), (.ref aP)])) rfl (by rw [hml]; rfl) (Steps.refl _) (argsL := [(.int v13)]) (rest := []) (lenOf own_pd0 rfl) rfl (by show 2 * 0 + _ ≤ _; exact Nat.le_of_eq rfl) (hb hby at_69) (fun _ _ => ⟨rfl, e31, (by decide : 0 + 0 ≤ _), (by decide : 0 + 0 ≤ _)⟩)
        dsimp only [Pt.U, Pt.locs, Pt.cells, Pt.slots] at X34 l34 y34 z34 st34 hQ34
        subst l34 y34 z34
        obtain ⟨rfl, N34q, e36⟩ := hQ34
        have N35 := Fr.app N0 N34q
        have pre37 : ∀ t, Steps p.tables e below (T34.setTop (mkF m 74 #[.val (.int p0), .val (.int p1), .val (.int v10), .val (.int v13), .val (.ref aP), .val (.int (1 : Int32))] [(.int (1 : Int32)), (.int (own_fP v13))])) t → Steps p.tables e below (s₁.setTop (entryFrame m #[(.int p0), (.int p1)] maxLocals)) t := fun t kk => pre32 t (by
          show Steps p.tables e below (T31.setTop (mkF m 56 #[.val (.int p0), .val (.int p1), .val (.int v10), .val (.int v13), .val (.ref aP), .unset] [(.int v13)])) _
          refine XS.ifNo X31.here hx rfl (hb hby at_56) rfl ((if0 _ _).trans (teq hc33).2) ?_
          show Steps p.tables e below (T31.setTop (mkF m 59 #[.val (.int p0), .val (.int p1), .val (.int v10), .val (.int v13), .val (.ref aP), .unset] [])) _
          refine XS.iconst X31.here hx rfl (hb hby at_59) ?_
          show Steps p.tables e below (T31.setTop (mkF m 60 #[.val (.int p0), .val (.int p1), .val (.int v10), .val (.int v13), .val (.ref aP), .unset] [(.int (1 : Int32))])) _
          refine XS.goto X31.here hx rfl (pc0 := 60) (pc' := 64) rfl (hb hby at_60) (by decide) (by decide) ?_
          show Steps p.tables e below (T31.setTop (mkF m 64 #[.val (.int p0), .val (.int p1), .val (.int v10), .val (.int v13), .val (.ref aP), .unset] [(.int (1 : Int32))])) _
          refine XS.istore X31.here hx rfl (hb hby at_64) rfl (l' := #[.val (.int p0), .val (.int p1), .val (.int v10), .val (.int v13), .val (.ref aP), .val (.int (1 : Int32))]) rfl ?_
          show Steps p.tables e below (T31.setTop (mkF m 66 #[.val (.int p0), .val (.int p1), .val (.int v10), .val (.int v13), .val (.ref aP), .val (.int (1 : Int32))] [])) _
          refine XS.aload X31.here hx rfl (hb hby at_66) rfl rfl ?_
          show Steps p.tables e below (T31.setTop (mkF m 68 #[.val (.int p0), .val (.int p1), .val (.int v10), .val (.int v13), .val (.ref aP), .val (.int (1 : Int32))] [(.ref aP)])) _
          refine XS.iloadN X31.here hx rfl (hb hby at_68) rfl ?_
          show Steps p.tables e below (T31.setTop (mkF m 69 #[.val (.int p0), .val (.int p1), .val (.int v10), .val (.int v13), .val (.ref aP), .val (.int (1 : Int32))] [(.int v13), (.ref aP)])) _
          refine st34.trans ?_
          show Steps p.tables e below (T34.setTop (mkF m 72 #[.val (.int p0), .val (.int p1), .val (.int v10), .val (.int v13), .val (.ref aP), .val (.int (1 : Int32))] [(.int (own_fP v13))])) _
          refine XS.iload X34.here hx rfl (hb hby at_72) rfl ?_
          show Steps p.tables e below (T34.setTop (mkF m 74 #[.val (.int p0), .val (.int p1), .val (.int v10), .val (.int v13), .val (.ref aP), .val (.int (1 : Int32))] [(.int (1 : Int32)), (.int (own_fP v13))])) _
          exact kk)
        by_cases hc38 : (own_fP v13) = (1 : Int32)
        · obtain ⟨fs, hr, hrun, hended, hW, hsame⟩ := X34.leave (v := some (.int (1 : Int32))) (fun h => by rw [Bd.returns] at h; cases h)
          refine ⟨_, _, pre37 _ ?_, hrun, hended, _, _, rfl, ?_, ⟨_, rfl⟩, hW, hsame.mono (by decide) (by decide)⟩
          · show Steps p.tables e below (T34.setTop (mkF m 74 #[.val (.int p0), .val (.int p1), .val (.int v10), .val (.int v13), .val (.ref aP), .val (.int (1 : Int32))] [(.int (1 : Int32)), (.int (own_fP v13))])) _
            refine XS.icmpNo X34.here hx rfl (hb hby at_74) rfl (teq hc38).2 ?_
            show Steps p.tables e below (T34.setTop (mkF m 77 #[.val (.int p0), .val (.int p1), .val (.int v10), .val (.int v13), .val (.ref aP), .val (.int (1 : Int32))] [])) _
            refine XS.iconst X34.here hx rfl (hb hby at_77) ?_
            show Steps p.tables e below (T34.setTop (mkF m 78 #[.val (.int p0), .val (.int p1), .val (.int v10), .val (.int v13), .val (.ref aP), .val (.int (1 : Int32))] [(.int (1 : Int32))])) _
            refine XS.goto X34.here hx rfl (pc0 := 78) (pc' := 82) rfl (hb hby at_78) (by decide) (by decide) ?_
            show Steps p.tables e below (T34.setTop (mkF m 82 #[.val (.int p0), .val (.int p1), .val (.int v10), .val (.int v13), .val (.ref aP), .val (.int (1 : Int32))] [(.int (1 : Int32))])) _
            exact retN X34 hx (t := .boolean) Bd.returns (by simp) (hb hby at_82) hr
          · show own_Q0 Z p0 p1 aM aO aP h0 n0 _ T34.heap _
            rw [e36]
            exact ⟨rfl, N35⟩
        · exact (own_leaf0_6 p0 p1 aM aO aP v10 hv10 v13 hv13 hc16 hc24 hc33 hc38).elim
      · obtain ⟨cq39, kq39, q39a, q39b, q39c⟩ := isOf hZ e31 pr5
        obtain ⟨_, _, ⟨T39, L39, k39, n39⟩, -, X39, ⟨Lc39, hQ39, l39, y39, z39⟩, st39⟩ := X31.virtualBack hx (y := (⟨"archetest/model/ValidityKind", "admits", "(Z)Z"⟩ : MethodName)) (z := (⟨"archetest/model/ValidityKind", "admits", "(Z)Z"⟩ : MethodName)) hown (mvT hZ (hw _ (List.mem_of_getElem? (i := 4) rfl))) (mvT hZ (hw _ (List.mem_of_getElem? (i := 5) rfl))) (notFace_of_selects (args := #[]) (mvT hZ (hw _ (List.mem_of_getElem? (i := 7) rfl)))) (mvT hZ (hw _ (List.mem_of_getElem? (i := 7) rfl))) (mvT hZ (hw _ (List.mem_of_getElem? (i := 6) rfl))) (by decide) (backOf (W := 0) (own_rmP l Z a0 hw [] aP v13 (aO) (aM) h0 n0 Z0 pr1 pr0 ne_aP_aO ne_aP_aM) hZ (hw _ (List.mem_of_getElem? (i := 8) rfl)) (hw _ (List.mem_of_getElem? (i := 2) rfl)) (by decide) (by decide)) q39a q39c (g := (mkF m 69 #[.val (.int p0), .val (.int p1), .val (.int v10), .val (.int v13), .val (.ref aP), .val (.int (0 : Int32))] [(.int v13), (.ref aP)])) rfl (by rw [hml]; rfl) (Steps.refl _) (argsL := [(.int v13)]) (rest := []) (lenOf own_pd0 rfl) rfl (by show 2 * 0 + _ ≤ _; exact Nat.le_of_eq rfl) (hb hby at_69) (fun _ _ => ⟨rfl, e31, (by decide : 0 + 0 ≤ _), (by decide : 0 + 0 ≤ _)⟩)
        dsimp only [Pt.U, Pt.locs, Pt.cells, Pt.slots] at X39 l39 y39 z39 st39 hQ39
        subst l39 y39 z39
        obtain ⟨rfl, N39q, e41⟩ := hQ39
        have N40 := Fr.app N0 N39q
        have pre42 : ∀ t, Steps p.tables e below (T39.setTop (mkF m 74 #[.val (.int p0), .val (.int p1), .val (.int v10), .val (.int v13), .val (.ref aP), .val (.int (0 : Int32))] [(.int (0 : Int32)), (.int (own_fP v13))])) t → Steps p.tables e below (s₁.setTop (entryFrame m #[(.int p0), (.int p1)] maxLocals)) t := fun t kk => pre32 t (by
          show Steps p.tables e below (T31.setTop (mkF m 56 #[.val (.int p0), .val (.int p1), .val (.int v10), .val (.int v13), .val (.ref aP), .unset] [(.int v13)])) _
          refine XS.ifYes X31.here hx rfl (pc0 := 56) (pc' := 63) rfl (hb hby at_56) rfl ((if0 _ _).trans (feq hc33).2) (by decide) (by decide) ?_
          show Steps p.tables e below (T31.setTop (mkF m 63 #[.val (.int p0), .val (.int p1), .val (.int v10), .val (.int v13), .val (.ref aP), .unset] [])) _
          refine XS.iconst X31.here hx rfl (hb hby at_63) ?_
          show Steps p.tables e below (T31.setTop (mkF m 64 #[.val (.int p0), .val (.int p1), .val (.int v10), .val (.int v13), .val (.ref aP), .unset] [(.int (0 : Int32))])) _
          refine XS.istore X31.here hx rfl (hb hby at_64) rfl (l' := #[.val (.int p0), .val (.int p1), .val (.int v10), .val (.int v13), .val (.ref aP), .val (.int (0 : Int32))]) rfl ?_
          show Steps p.tables e below (T31.setTop (mkF m 66 #[.val (.int p0), .val (.int p1), .val (.int v10), .val (.int v13), .val (.ref aP), .val (.int (0 : Int32))] [])) _
          refine XS.aload X31.here hx rfl (hb hby at_66) rfl rfl ?_
          show Steps p.tables e below (T31.setTop (mkF m 68 #[.val (.int p0), .val (.int p1), .val (.int v10), .val (.int v13), .val (.ref aP), .val (.int (0 : Int32))] [(.ref aP)])) _
          refine XS.iloadN X31.here hx rfl (hb hby at_68) rfl ?_
          show Steps p.tables e below (T31.setTop (mkF m 69 #[.val (.int p0), .val (.int p1), .val (.int v10), .val (.int v13), .val (.ref aP), .val (.int (0 : Int32))] [(.int v13), (.ref aP)])) _
          refine st39.trans ?_
          show Steps p.tables e below (T39.setTop (mkF m 72 #[.val (.int p0), .val (.int p1), .val (.int v10), .val (.int v13), .val (.ref aP), .val (.int (0 : Int32))] [(.int (own_fP v13))])) _
          refine XS.iload X39.here hx rfl (hb hby at_72) rfl ?_
          show Steps p.tables e below (T39.setTop (mkF m 74 #[.val (.int p0), .val (.int p1), .val (.int v10), .val (.int v13), .val (.ref aP), .val (.int (0 : Int32))] [(.int (0 : Int32)), (.int (own_fP v13))])) _
          exact kk)
        by_cases hc43 : (own_fP v13) = (0 : Int32)
        · obtain ⟨fs, hr, hrun, hended, hW, hsame⟩ := X39.leave (v := some (.int (1 : Int32))) (fun h => by rw [Bd.returns] at h; cases h)
          refine ⟨_, _, pre42 _ ?_, hrun, hended, _, _, rfl, ?_, ⟨_, rfl⟩, hW, hsame.mono (by decide) (by decide)⟩
          · show Steps p.tables e below (T39.setTop (mkF m 74 #[.val (.int p0), .val (.int p1), .val (.int v10), .val (.int v13), .val (.ref aP), .val (.int (0 : Int32))] [(.int (0 : Int32)), (.int (own_fP v13))])) _
            refine XS.icmpNo X39.here hx rfl (hb hby at_74) rfl (teq hc43).2 ?_
            show Steps p.tables e below (T39.setTop (mkF m 77 #[.val (.int p0), .val (.int p1), .val (.int v10), .val (.int v13), .val (.ref aP), .val (.int (0 : Int32))] [])) _
            refine XS.iconst X39.here hx rfl (hb hby at_77) ?_
            show Steps p.tables e below (T39.setTop (mkF m 78 #[.val (.int p0), .val (.int p1), .val (.int v10), .val (.int v13), .val (.ref aP), .val (.int (0 : Int32))] [(.int (1 : Int32))])) _
            refine XS.goto X39.here hx rfl (pc0 := 78) (pc' := 82) rfl (hb hby at_78) (by decide) (by decide) ?_
            show Steps p.tables e below (T39.setTop (mkF m 82 #[.val (.int p0), .val (.int p1), .val (.int v10), .val (.int v13), .val (.ref aP), .val (.int (0 : Int32))] [(.int (1 : Int32))])) _
            exact retN X39 hx (t := .boolean) Bd.returns (by simp) (hb hby at_82) hr
          · show own_Q0 Z p0 p1 aM aO aP h0 n0 _ T39.heap _
            rw [e41]
            exact ⟨rfl, N40⟩
        · exact (own_leaf0_8 p0 p1 aM aO aP v10 hv10 v13 hv13 hc16 hc24 hc33 hc43).elim
set_option maxRecDepth 65536 in
set_option maxHeartbeats 40000000 in
theorem comes_1 {Post : Tables → Env → Array Value → State → Outcome → State → Prop} (hpost : ∀ tb e args s v u, (limb_1_1.after args s (.returned v) u = true ∧ limb_1_2.after args s (.returned v) u = true ∧ True) → FrameEnd s (.returned v) u (Jvm.fieldLocs frame_1_writes args s ++ Jvm.arrayLocs frame_1_arrays args s ++ Jvm.staticLocs frame_1_statics s) 0 0 → Post tb e args s (.returned v) u) :
    ArmFor flags0 classFile x code maxLocals ret World_1 tables_1 room_1 Calls_1 rest_1 Pre_1 Post := by
  intro l hfl _ _ p e ha hc hk s m args below hf hA hF happ hP
  obtain ⟨hcalls, hrest, hpre⟩ := hP
  obtain ⟨-, -, -, hnamed, -, -, -, hat⟩ := (Spec.applies_iff hf).mp happ
  obtain ⟨hg, hn⟩ := and_e (Cond.before_iff.mp (show (Jvm.Cond.and given_1 narrow_1).before args s = true from hpre))
  obtain ⟨gg1, gg2⟩ := and_e hg
  obtain ⟨gg3, gg4⟩ := and_e gg2
  obtain ⟨w0, w1, rfl⟩ : ∃ w0 w1 : Value, args = #[w0, w1] := by
    have hs : args.size = 2 := by simpa [Cond.value, given_1] using gg1
    obtain ⟨L⟩ := args
    match L, hs with
    | [w0, w1], _ => exact ⟨w0, w1, rfl⟩
  have hw := fun d (hd : d ∈ tables_1) => atoms_spec (ws := Jvm.Cond.code x code maxLocals ret :: tables_1) hat d (List.mem_cons_of_mem _ hd)
  have hfit : Fit s := fun {y c} hc i hi => by
    obtain ⟨ha, rfl⟩ := Array.getElem?_eq_some_iff.mp hc
    have q := List.all_eq_true.mp ((Array.all_eq_true_iff_forall_mem.mp hF) _ (Array.getElem_mem ha)) i (List.mem_range.mpr hi)
    simpa [Array.getElem?_eq_getElem hi] using q
  obtain ⟨i0, ei0⟩ := is_v gg3
  obtain rfl : w0 = (.int i0) := Option.some.inj ei0
  obtain ⟨i1, ei1⟩ := is_v gg4
  obtain rfl : w1 = (.int i1) := Option.some.inj ei1
  obtain ⟨nn1, nn2⟩ := and_e hn
  obtain ⟨nn3, nn4⟩ := and_e nn2
  obtain ⟨nn5, nn6⟩ := and_e nn4
  obtain ⟨nn7, nn8⟩ := and_e nn6
  obtain ⟨nn9, nn10⟩ := and_e nn8
  obtain ⟨aM, ev_aM⟩ := exa_v nn1
  have Ex_aM := Exa.start ev_aM nn1
  have St_aM := Sta.start ev_aM (Or.inr ⟨(hw _ (List.mem_of_getElem? (i := 2) rfl)), (hw _ (List.mem_of_getElem? (i := 3) rfl))⟩)
  obtain ⟨aO, ev_aO⟩ := exa_v nn3
  have Ex_aO := Exa.start ev_aO nn3
  have St_aO := Sta.start ev_aO (Or.inr ⟨(hw _ (List.mem_of_getElem? (i := 2) rfl)), (hw _ (List.mem_of_getElem? (i := 10) rfl))⟩)
  obtain ⟨aP, ev_aP⟩ := exa_v nn9
  have Ex_aP := Exa.start ev_aP nn9
  have St_aP := Sta.start ev_aP (Or.inr ⟨(hw _ (List.mem_of_getElem? (i := 2) rfl)), (hw _ (List.mem_of_getElem? (i := 13) rfl))⟩)
  have Fo_aM := Fld.start ((fld_at ev_aM).symm.trans (own_eqI nn5))
  have Fo_aO := Fld.start ((fld_at ev_aO).symm.trans (own_eqI nn7))
  have Fo_aP := Fld.start ((fld_at ev_aP).symm.trans (own_eqI nn10))
  obtain ⟨n, o, h1, h2, h3, _, L, rfl, ⟨rfl, N⟩, hq⟩ := own_rm0 l s _ hw tables_1 i0 i1 aM aO aP s.heap s.heap.size (Nat.le_refl _) St_aM St_aO St_aP Ex_aM Ex_aO Ex_aP (Fld.ne Fo_aM Fo_aO (by intro q; injection q with q; revert q; decide)) (Fld.ne Fo_aP Fo_aO (by intro q; injection q with q; revert q; decide)) (Fld.ne Fo_aP Fo_aM (by intro q; injection q with q; revert q; decide)) p e ha hc hk s m _ below hf ((Spec.applies_iff_loose hf).mp happ).1 ⟨rfl, State.Warmed39.refl s, rfl⟩ trivial
  refine ⟨n, _, h1, h2, h3, hpost _ _ _ _ _ _ ⟨Cond.after_iff.mpr rfl, Cond.after_iff.mpr (eq_i res_at (Term.int_eval (1)) rfl), trivial⟩ ⟨hq.1, hq.2.1, (hq.2.2.sift fun y hy => Or.inr (N y hy)).mono (by decide) (by decide)⟩⟩
theorem main_1_1 : Claimed_1_1 := comes_1 fun _ _ _ _ _ _ h hF => ⟨h.1, hF⟩
theorem main_1_2 : Claimed_1_2 := comes_1 fun _ _ _ _ _ _ h hF => ⟨h.2.1, hF⟩
end Jvm.Pilot.@@N@@
namespace Jvm.Pilot.@@N@@
open Jvm Jvm.ClassFile Sem Op Lib Jvm.Free Jvm.Stand Jvm.Pilot.@@N@@.Jvm.D
/-! MADE BY PROGRAM (witnessworld.py) out of the Statement's table words and the real class files: 12 classes; the members and pool entries that the words name. The judged class is class 1, her method 1. -/
namespace start1
open Jvm.ClassFile
def u (s : String) : CpInfo := .utf8 (stringToUtf16 s)
/-- a pool by its gaps: so many unusable entries, then the entry; so many at the end -/
def gap : Nat → List CpInfo → List CpInfo
  | 0, r => r
  | n + 1, r => .unusable :: gap n r
def poolList (es : List (Nat × CpInfo)) (last : Nat) : List CpInfo := es.foldr (fun e r => gap e.1 (e.2 :: r)) (gap last [])
def pool (es : List (Nat × CpInfo)) (last : Nat) : Array CpInfo := ⟨poolList es last⟩
def fileOf (pool : Array CpInfo) (this : Nat) (attrs : Array Attribute := #[]) (ms : Array MethodInfo := #[]) (fl : Nat := 33) (sup : Nat := 0) (ifs : Array Nat := #[]) (fds : Array FieldInfo := #[]) : ClassFile where
  minorVersion := 0
  majorVersion := 65
  constantPool := pool
  accessFlags := fl
  thisClass := this
  superClass := sup
  interfaces := ifs
  fields := fds
  methods := ms
  attributes := attrs
def plain (name : String) (sup : Option ClassId) : Class where
  name := name
  kind := .ordinary
  loader := none
  accessFlags := 33
  super := sup
  interfaces := #[]
  cf := none
  fields := #[]
  methods := #[]
  instanceTypes := #[]
  staticTypes := #[]
  resolved := #[]
  callSites := []
  init := .initialized
  statics := none
  mirror := none

def pool0 : Array CpInfo := pool [(5, u "<init>"), (0, u "()V"), (1, .class_ 10), (1, u "java/lang/Object")] 113

def k0m0 : Method := { name := "<init>", desc := "()V", sig := { parameters := [], returnType := none }, accessFlags := 1, code := none }
/-- java/lang/Object -/
def k0 : Class := { plain "java/lang/Object" none with
  accessFlags := 33
  interfaces := #[]
  cf := some (fileOf pool0 8 #[] #[{ accessFlags := 1, nameIndex := 5, descriptorIndex := 6, attributes := #[] }] 33 0 #[] #[])
  fields := #[]
  methods := #[k0m0]
  instanceTypes := #[]
  staticTypes := #[]
  resolved := Array.replicate 124 none
  statics := none }

def pool1 : Array CpInfo := pool [(2, .class_ 4), (1, u "java/lang/Object"), (0, u "<init>"), (0, u "()V"), (0, .integer 2147483647), (0, .fieldref 9 10), (0, .class_ 11), (0, .nameAndType 12 13), (0, u "archetest/model/ValidityKind"), (0, u "MANDATORY"), (0, u "Larchetest/model/ValidityKind;"), (0, .fieldref 9 15), (0, .nameAndType 16 13), (0, u "OPTIONAL"), (0, .fieldref 9 18), (0, .nameAndType 19 13), (0, u "PROHIBITED"), (0, .methodref 9 21), (0, .nameAndType 22 23), (0, u "admits"), (0, u "(Z)Z"), (0, .class_ 25), (0, u "archetest/model/ValidityKindAdmitsPinLaw"), (2, u "law"), (0, u "(II)Z")] 3

def k1m0 : Method := { name := "<init>", desc := "()V", sig := { parameters := [], returnType := none }, accessFlags := 1, code := none }
def k1c1 : Code := { maxStack := 2, maxLocals := 6, code := code, exceptionTable := #[], attributes := #[] }
def k1m1 : Method := { name := "law", desc := "(II)Z", sig := { parameters := [.int, .int], returnType := some .boolean }, accessFlags := 9, code := some k1c1 }
/-- archetest/model/ValidityKindAdmitsPinLaw -/
def k1 : Class := { plain "archetest/model/ValidityKindAdmitsPinLaw" (some 0) with
  accessFlags := 49
  interfaces := #[]
  cf := some (fileOf pool1 24 #[] #[{ accessFlags := 1, nameIndex := 5, descriptorIndex := 6, attributes := #[] }, { accessFlags := 9, nameIndex := 28, descriptorIndex := 29, attributes := #[] }] 49 2 #[] #[])
  fields := #[]
  methods := #[k1m0, k1m1]
  instanceTypes := #[]
  staticTypes := #[]
  resolved := Array.replicate 33 none
  statics := none }

def pool2 : Array CpInfo := pool [(1, .class_ 2), (0, u "java/lang/constant/Constable"), (0, .class_ 4), (0, u "java/lang/Object")] 6

/-- java/lang/constant/Constable -/
def k2 : Class := { plain "java/lang/constant/Constable" (some 0) with
  accessFlags := 1537
  interfaces := #[]
  cf := some (fileOf pool2 1 #[] #[] 1537 3 #[] #[])
  fields := #[]
  methods := #[]
  instanceTypes := #[]
  staticTypes := #[]
  resolved := Array.replicate 11 none
  statics := none }

def pool3 : Array CpInfo := pool [(1, .class_ 2), (0, u "java/lang/Comparable"), (0, .class_ 4), (0, u "java/lang/Object")] 7

/-- java/lang/Comparable -/
def k3 : Class := { plain "java/lang/Comparable" (some 0) with
  accessFlags := 1537
  interfaces := #[]
  cf := some (fileOf pool3 1 #[] #[] 1537 3 #[] #[])
  fields := #[]
  methods := #[]
  instanceTypes := #[]
  staticTypes := #[]
  resolved := Array.replicate 12 none
  statics := none }

def pool4 : Array CpInfo := pool [(1, .class_ 2), (0, u "java/io/Serializable"), (0, .class_ 4), (0, u "java/lang/Object")] 2

/-- java/io/Serializable -/
def k4 : Class := { plain "java/io/Serializable" (some 0) with
  accessFlags := 1537
  interfaces := #[]
  cf := some (fileOf pool4 1 #[] #[] 1537 3 #[] #[])
  fields := #[]
  methods := #[]
  instanceTypes := #[]
  staticTypes := #[]
  resolved := Array.replicate 7 none
  statics := none }

def pool5 : Array CpInfo := pool [(2, .class_ 4), (1, u "java/lang/Enum"), (0, u "name"), (0, u "Ljava/lang/String;"), (2, u "ordinal"), (0, u "I"), (1, .class_ 14), (1, u "java/lang/Object"), (4, u "hash"), (86, .class_ 108), (1, u "java/lang/Enum$EnumDesc"), (2, .class_ 112), (0, u "java/lang/constant/Constable"), (0, .class_ 114), (0, u "java/lang/Comparable"), (0, .class_ 116), (0, u "java/io/Serializable")] 87

/-- java/lang/Enum -/
def k5 : Class := { plain "java/lang/Enum" (some 0) with
  accessFlags := 1057
  interfaces := #[2, 3, 4]
  cf := some (fileOf pool5 2 #[.nestMembers #[106]] #[] 1057 12 #[111, 113, 115] #[{ accessFlags := 18, nameIndex := 5, descriptorIndex := 6, attributes := #[] }, { accessFlags := 18, nameIndex := 9, descriptorIndex := 10, attributes := #[] }, { accessFlags := 2, nameIndex := 19, descriptorIndex := 10, attributes := #[] }])
  fields := #[{ name := "name", type := (.object "java/lang/String"), accessFlags := 18, slot := 0, constantValue := 0 }, { name := "ordinal", type := .int, accessFlags := 18, slot := 1, constantValue := 0 }, { name := "hash", type := .int, accessFlags := 2, slot := 2, constantValue := 0 }]
  methods := #[]
  instanceTypes := #[(.object "java/lang/String"), .int, .int]
  staticTypes := #[]
  resolved := Array.replicate 204 none
  statics := none }

def pool6 : Array CpInfo := pool [(1, .class_ 2), (0, u "archetest/model/ValidityKind"), (0, .fieldref 1 4), (0, .nameAndType 5 6), (0, u "MANDATORY"), (0, u "Larchetest/model/ValidityKind;"), (0, .fieldref 1 8), (0, .nameAndType 9 6), (0, u "OPTIONAL"), (2, u "PROHIBITED"), (2, u "$VALUES"), (0, u "[Larchetest/model/ValidityKind;"), (6, .class_ 25), (1, u "java/lang/Enum"), (8, u "code"), (0, u "Ljava/lang/String;"), (48, u "admits"), (0, u "(Z)Z")] 8

def k6c0 : Code := { maxStack := 3, maxLocals := 2, code := prog_84_method_5_code, exceptionTable := #[], attributes := #[] }
def k6m0 : Method := { name := "admits", desc := "(Z)Z", sig := { parameters := [.boolean], returnType := some .boolean }, accessFlags := 1, code := some k6c0 }
/-- archetest/model/ValidityKind -/
def k6 : Class := { plain "archetest/model/ValidityKind" (some 5) with
  accessFlags := 16433
  interfaces := #[]
  cf := some (fileOf pool6 1 #[] #[{ accessFlags := 1, nameIndex := 84, descriptorIndex := 85, attributes := #[] }] 16433 23 #[] #[{ accessFlags := 16409, nameIndex := 5, descriptorIndex := 6, attributes := #[] }, { accessFlags := 16409, nameIndex := 9, descriptorIndex := 6, attributes := #[] }, { accessFlags := 16409, nameIndex := 12, descriptorIndex := 6, attributes := #[] }, { accessFlags := 18, nameIndex := 34, descriptorIndex := 35, attributes := #[] }, { accessFlags := 4122, nameIndex := 15, descriptorIndex := 16, attributes := #[] }])
  fields := #[{ name := "MANDATORY", type := (.object "archetest/model/ValidityKind"), accessFlags := 16409, slot := 0, constantValue := 0 }, { name := "OPTIONAL", type := (.object "archetest/model/ValidityKind"), accessFlags := 16409, slot := 1, constantValue := 0 }, { name := "PROHIBITED", type := (.object "archetest/model/ValidityKind"), accessFlags := 16409, slot := 2, constantValue := 0 }, { name := "code", type := (.object "java/lang/String"), accessFlags := 18, slot := 3, constantValue := 0 }, { name := "$VALUES", type := (.array (.object "archetest/model/ValidityKind")), accessFlags := 4122, slot := 3, constantValue := 0 }]
  methods := #[k6m0]
  instanceTypes := #[(.object "java/lang/String"), .int, .int, (.object "java/lang/String")]
  staticTypes := #[(.object "archetest/model/ValidityKind"), (.object "archetest/model/ValidityKind"), (.object "archetest/model/ValidityKind"), (.array (.object "archetest/model/ValidityKind"))]
  resolved := Array.replicate 94 none
  statics := some 0 }

def pool7 : Array CpInfo := pool [(1, u "java/lang/Cloneable"), (0, .class_ 1), (0, u "java/lang/Object"), (0, .class_ 3)] 3

/-- java/lang/Cloneable -/
def k7 : Class := { plain "java/lang/Cloneable" (some 0) with
  accessFlags := 1537
  interfaces := #[]
  cf := some (fileOf pool7 2 #[] #[] 1537 4 #[] #[])
  fields := #[]
  methods := #[]
  instanceTypes := #[]
  staticTypes := #[]
  resolved := Array.replicate 8 none
  statics := none }

/-- the primitive byte -/
def k8 : Class := { plain "byte" none with kind := .primitive 'B', accessFlags := 0x411 }
/-- [B -/
def k9 : Class := { plain "[B" (some 0) with kind := .array 8 .byte, interfaces := #[7, 4], accessFlags := 1041 }

/-- the primitive int -/
def k10 : Class := { plain "int" none with kind := .primitive 'I', accessFlags := 0x411 }
/-- [I -/
def k11 : Class := { plain "[I" (some 0) with kind := .array 10 .int, interfaces := #[7, 4], accessFlags := 1041 }

def heap : Heap := #[{ cls := 6, slots := #[.ref 1, .ref 2, .ref 3, .null], vm := .statics 6 },
  { cls := 6, slots := #[.null, .int 0, .int 0, .null], vm := .none },
  { cls := 6, slots := #[.null, .int 1, .int 0, .null], vm := .none },
  { cls := 6, slots := #[.null, .int 2, .int 0, .null], vm := .none }]
def classes : Array Class := #[k0, k1, k2, k3, k4, k5, k6, k7, k8, k9, k10, k11]
def interned : List (Array UInt16 × Addr) := []
def slotsUsed : Nat := 16
def theMethod : MethodId := ⟨1, 1⟩
def args0 : Array Value := #[.int 5, .int 6]
def aboutOver (below : List Frame) : State where
  vm := { classes := classes, interned := interned.toArray }
  heap := heap
  slotsUsed := slotsUsed
  threads := #[{ frames := .invoking theMethod args0 :: below }]
def below0 : List Frame := [.native { method := ⟨0, 0⟩, args := #[] }]
def about1 : State := aboutOver below0
def p0 : Program := .bare "" "" ""
def e0 : Env := launch0.env 0 0 0
theorem w_frames : about1.frames = Frame.invoking theMethod args0 :: below0 := rfl
set_option maxRecDepth 65536 in
theorem w_args : argsFit about1.vm theMethod args0 = true := by decide +kernel
set_option maxRecDepth 65536 in
theorem w_heap : heapFits about1 = true := by decide +kernel
set_option maxRecDepth 65536 in
theorem w_runnable : about1.curStatus? = some .runnable := by decide +kernel
set_option maxRecDepth 65536 in
theorem w_alone : about1.alone = true := by decide +kernel
set_option maxRecDepth 65536 in
theorem w_named : about1.methodNamed? x = some theMethod := by decide +kernel
set_option maxRecDepth 65536 in
theorem w_hears : about1.hears theMethod below0 = true := by decide +kernel
set_option maxRecDepth 65536 in
theorem w_ripe : about1.ripe theMethod args0 below0 = true := by decide +kernel
theorem w_running : about1.status = .running := rfl
set_option maxRecDepth 65536 in
theorem w_room : about1.hasRoom e0.platform room_1 = true :=
  launch0.hasRoom_least _ room_1 (by decide +kernel) (by decide +kernel) (by decide +kernel) (by decide +kernel) (by decide +kernel) (by decide +kernel)
theorem allAtoms_all (ts : List Jvm.Cond) (a : Array Jvm.Value) (st : Jvm.State) : (allAtoms ts).before a st = ts.all (fun c => c.before a st) := by
  induction ts with
  | nil => rfl
  | cons c t ih =>
    show (Jvm.Cond.and c (allAtoms t)).before a st = _
    rw [Jvm.Cond.before_and, ih, List.all_cons]
def words1 : List Jvm.Cond := Jvm.Cond.code x code maxLocals ret :: tables_1
/-- a 'code' word, met by the world's own term for the bytes: nothing is compared byte by byte -/
theorem code_word {y : MethodName} {bytes : ByteArray} {mx : Nat} {rt : Option FieldType} {a : Array Value} {s : State} {m : MethodId} {meth : Method} {c : Code} (h1 : s.methodNamed? y = some m) (h2 : s.vm.method? m = some meth) (h3 : meth.code = some c) (h4 : c.code = bytes)
    (h5 : (c.maxLocals == mx && c.exceptionTable.isEmpty && decide (c.maxStack ≤ mostOperands) && decide (meth.sig.returnType = rt) && !meth.locks && decide (parseMethodDescriptor y.desc = some meth.sig)) = true) : (Jvm.Cond.code y bytes mx rt).before a s = true := by
  simp only [Bool.and_eq_true, beq_iff_eq, Bool.not_eq_true', decide_eq_true_eq] at h5
  obtain ⟨⟨⟨⟨⟨g1, g2⟩, g3⟩, g4⟩, g5⟩, g6⟩ := h5
  simp [Cond.before, Cond.holds, Cond.value, h1, h2, h3, h4, g1, g2, g3, g4, g5, g6]
def isCode : Jvm.Cond → Bool
  | .code _ _ _ _ => true
  | _ => false
theorem all_split {L : List Jvm.Cond} {P : Jvm.Cond → Bool} (h1 : L.all (fun c => isCode c || P c) = true) (h2 : ∀ c ∈ L.filter isCode, P c = true) : L.all P = true := by
  refine List.all_eq_true.mpr fun c hc => ?_
  have h := List.all_eq_true.mp h1 c hc
  rcases Bool.eq_false_or_eq_true (isCode c) with hi | hi
  · exact h2 c (List.mem_filter.mpr ⟨hc, hi⟩)
  · simpa [hi] using h
set_option maxRecDepth 65536 in
theorem w_c0 : (Jvm.Cond.code x code maxLocals ret).before args0 about1 = true := code_word (m := ⟨1, 1⟩) (meth := k1m1) (c := k1c1) (by decide +kernel) rfl rfl rfl (by decide +kernel)
set_option maxRecDepth 65536 in
theorem w_c1 : (Jvm.Cond.code ({ cls := "archetest/model/ValidityKind", name := "admits", desc := "(Z)Z" } : Jvm.MethodName) prog_84_method_5_code (2 : Nat) (Option.some Jvm.ClassFile.FieldType.boolean)).before args0 about1 = true := code_word (m := ⟨6, 0⟩) (meth := k6m0) (c := k6c0) (by decide +kernel) rfl rfl rfl (by decide +kernel)
def codes1 : List Jvm.Cond := [Jvm.Cond.code x code maxLocals ret, Jvm.Cond.code ({ cls := "archetest/model/ValidityKind", name := "admits", desc := "(Z)Z" } : Jvm.MethodName) prog_84_method_5_code (2 : Nat) (Option.some Jvm.ClassFile.FieldType.boolean)]
set_option maxRecDepth 65536 in
theorem codes_eq : words1.filter isCode = codes1 := rfl
theorem w_codes : ∀ c ∈ words1.filter isCode, c.before args0 about1 = true := by
  rw [codes_eq]
  intro c hc
  simp only [codes1, List.mem_cons, List.not_mem_nil, or_false] at hc
  rcases hc with rfl | rfl
  · exact w_c0
  · exact w_c1
set_option maxRecDepth 65536 in
theorem w_t1 : words1.all (fun c => isCode c || c.before args0 about1) = true := by decide +kernel
theorem w_tables : (allAtoms (Jvm.Cond.code x code maxLocals ret :: tables_1)).before args0 about1 = true := by
  rw [allAtoms_all]
  show words1.all (fun c => c.before args0 about1) = true
  refine all_split ?_ w_codes
  rw [w_t1]
set_option maxRecDepth 65536 in
theorem w_case : (Jvm.Cond.and given_1 narrow_1).before args0 about1 = true := by decide +kernel
theorem w_applies : (headSpec (Jvm.Cond.code x code maxLocals ret :: tables_1) room_1).applies x e0.platform about1 = true :=
  (Spec.applies_iff w_frames).mpr ⟨w_running, w_runnable, w_alone, w_named, w_hears, w_ripe, w_room, w_tables⟩
theorem atStart : AtStart classFile x code maxLocals ret World_1 tables_1 room_1 Calls_1 rest_1 Pre_1 launch0 p0 e0 about1 theMethod args0 below0 :=
  ⟨lists_1, trivial, launch0.admits_env _ _ _, launch0.least_env, fairChoices_fair.cas, fairChoices_fair.clock, w_frames, w_args, w_heap, w_applies, trivial, trivial, w_case⟩
end start1
theorem witness_1 : WitnessClaimed_1 := ⟨start1.p0, start1.e0, start1.about1, start1.theMethod, start1.args0, start1.below0, start1.atStart⟩
end Jvm.Pilot.@@N@@
