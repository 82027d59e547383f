import JvmDerived
import JvmDerived.Pilot.@@N@@Statement
import JvmDerived.Pilot.@@N@@Code
set_option linter.unusedVariables false
set_option linter.unusedSimpArgs false
namespace Jvm.RoadKit
open Sem ClassFile Op Lib Jvm.Stand Jvm.Free Jvm.LawKit
section New
variable {p : Program} {l : Launch} {e : Env} {R : Room} {s : State} {m : MethodId} {args : Array Value} {below : List Frame} {meth : Method} {c : Code} {T : State} {locs : List Loc} {cells slots : Nat}
theorem retI (X : Stand p l e R s m args below meth c T locs cells slots) (hx : p.tables.exec = Jvm.exec) {pc : Nat} {Ls : Array Slot} {z : Int32} {rest : List Value} (hret : meth.sig.returnType = some .int) (hd : decode c.code pc = .ok (.ireturn, 1)) {fs : List Frame}
    (hl : ∀ (f : JFrame) (acts : List Action), f.method = m → f.locked = none → f.entered = [] → (doReturn e (T.setTop f) acts (some (.int z))).1 = T.setFrames fs) : Steps p.tables e below (T.setTop (mkF m pc Ls (.int z :: rest))) (T.setFrames fs) := by
  have hm' : T.vm.method? m = some meth := X.method'
  have hn : narrow .int (.int z) = .int z := rfl
  show Steps p.tables e below (T.setTop { method := m, pc := pc, locals := Ls, stack := _ :: rest, locked := none }) _
  jvm_step X.here [X.here.top, hx, hd, hm', hret, hn]
  first | (intro acts; rw [hl _ acts rfl rfl rfl]) | rw [hl _ _ rfl rfl rfl]
  exact Steps.refl _
end New
end Jvm.RoadKit
namespace Jvm.Pilot.@@N@@
open Jvm Jvm.ClassFile Sem Op Lib Jvm.Free Jvm.Stand Jvm.LawKit Jvm.RoadKit Bundle Jvm.Pilot.@@N@@.Jvm.D
theorem own_d2_0 : decode jdk_29_method_65_code 0 = .ok (.iload_n 0, 1) := by decide +kernel
theorem own_d2_1 : decode jdk_29_method_65_code 1 = .ok (.iload_n 1, 1) := by decide +kernel
theorem own_d2_2 : decode jdk_29_method_65_code 2 = .ok (.if_icmp .lt 7, 3) := by decide +kernel
theorem own_d2_9 : decode jdk_29_method_65_code 9 = .ok (.iload_n 1, 1) := by decide +kernel
theorem own_d2_10 : decode jdk_29_method_65_code 10 = .ok (.ireturn, 1) := by decide +kernel
theorem own_d2_5 : decode jdk_29_method_65_code 5 = .ok (.iload_n 0, 1) := by decide +kernel
theorem own_d2_6 : decode jdk_29_method_65_code 6 = .ok (.goto 4, 3) := by decide +kernel
def own_f2 (p0 : Int32) (p1 : Int32) : Int32 := if p0 < p1 then p1 else p0
theorem own_ef2 (m : MethodId) (p0 : Int32) (p1 : Int32) : entryFrame m #[(.int p0), (.int p1)] 2 = mkF m 0 #[.val (.int p0), .val (.int p1)] [] := by first | (simp [entryFrame, mkF, argsToLocals, Value.category]; done) | rfl
def own_Q2 (Z : State) (p0 : Int32) (p1 : Int32) (h0 : Heap) (n0 : Nat) (v : Option Value) (h : Heap) (L : List Loc) : Prop := v = some (.int (own_f2 p0 p1)) ∧ Fr n0 L ∧ h = h0
set_option maxRecDepth 65536 in
set_option maxHeartbeats 40000000 in
theorem own_rm2 (l : Launch) (Z : State) (av : Array Value) (hw : ∀ d ∈ tables_1, d.before av Z = true) (ws : List Jvm.Cond) (p0 : Int32) (p1 : Int32) (h0 : Heap) (n0 : Nat) (Z0 : n0 ≤ h0.size) :
    MetFree l (⟨"java/lang/Math", "max", "(II)I"⟩ : MethodName) (head1 (Jvm.Cond.code (⟨"java/lang/Math", "max", "(II)I"⟩ : MethodName) jdk_29_method_65_code 2 (some .int) :: ws) ({ frames := 0, cells := 0, slots := 0, locals := 0 } : Room)) (fun a U => a = #[(.int p0), (.int p1)] ∧ Z.Warmed39 U.vm ∧ U.heap = h0) (fun _ _ _ _ _ => True) (fun _ U o U' => ∃ v L, o = .returned v ∧ own_Q2 Z p0 p1 h0 n0 v U'.heap L ∧ FrameEnd U o U' L ({ frames := 0, cells := 0, slots := 0, locals := 0 } : Room).cells ({ frames := 0, cells := 0, slots := 0, locals := 0 } : Room).slots) := by
  refine MetFree.of_bodySF (Jvm.Free.JP.mathPlain rfl (by decide +kernel)) hisR ?_
  intro p e s m args below meth c s₁ Bd hml0 hP hK
  obtain ⟨rfl, hZ, hh⟩ := hP
  have hx := Bd.exec
  have hby := Bd.bytes
  have hml : c.maxLocals = 2 := hml0
  have hown : s.vm.findClass "java/lang/Math" = some m.cls := findClass_of_methodNamed Bd.named
  have hnm := (name_of_methodNamed Bd.named Bd.method).1
  have X0 : Stand p l e ({ frames := 0, cells := 0, slots := 0, locals := 0 } : Room) s m #[(.int p0), (.int p1)] below meth c s₁ [] 0 0 := Stand.of_body Bd
  have e0 : s₁.heap = h0 := by rw [← hh, Bd.state]; rfl
  have N0 := Fr.nil n0
  have pre0 : ∀ t, Steps p.tables e below (s₁.setTop (mkF m 0 #[.val (.int p0), .val (.int p1)] [])) t → Steps p.tables e below (s₁.setTop (entryFrame m #[(.int p0), (.int p1)] 2)) t := fun t k => castTop (own_ef2 m p0 p1) k
  have pre1 : ∀ t, Steps p.tables e below (s₁.setTop (mkF m 2 #[.val (.int p0), .val (.int p1)] [(.int p1), (.int p0)])) t → Steps p.tables e below (s₁.setTop (entryFrame m #[(.int p0), (.int p1)] 2)) t := fun t kk => pre0 t (by
    show Steps p.tables e below (s₁.setTop (mkF m 0 #[.val (.int p0), .val (.int p1)] [])) _
    refine XS.iloadN X0.here hx rfl (hb hby own_d2_0) rfl ?_
    show Steps p.tables e below (s₁.setTop (mkF m 1 #[.val (.int p0), .val (.int p1)] [(.int p0)])) _
    refine XS.iloadN X0.here hx rfl (hb hby own_d2_1) rfl ?_
    show Steps p.tables e below (s₁.setTop (mkF m 2 #[.val (.int p0), .val (.int p1)] [(.int p1), (.int p0)])) _
    exact kk)
  by_cases hc2 : p0 < p1
  · obtain ⟨fs, hr, hrun, hended, hW, hsame⟩ := X0.leave (v := some (.int p1)) (fun h => by rw [Bd.returns] at h; cases h)
    refine ⟨_, _, pre1 _ ?_, hrun, hended, _, _, rfl, ?_, ⟨_, rfl⟩, hW, hsame.mono (by decide) (by decide)⟩
    · show Steps p.tables e below (s₁.setTop (mkF m 2 #[.val (.int p0), .val (.int p1)] [(.int p1), (.int p0)])) _
      refine XS.icmpYes X0.here hx rfl (pc0 := 2) (pc' := 9) rfl (hb hby own_d2_2) rfl (tlt hc2).1 (by decide) (by decide) ?_
      show Steps p.tables e below (s₁.setTop (mkF m 9 #[.val (.int p0), .val (.int p1)] [])) _
      refine XS.iloadN X0.here hx rfl (hb hby own_d2_9) rfl ?_
      show Steps p.tables e below (s₁.setTop (mkF m 10 #[.val (.int p0), .val (.int p1)] [(.int p1)])) _
      exact retI X0 hx Bd.returns (hb hby own_d2_10) hr
    · show own_Q2 Z p0 p1 h0 n0 _ s₁.heap _
      rw [e0]
      have hv : own_f2 p0 p1 = p1 := by unfold own_f2; rw [if_pos hc2]
      exact ⟨by rw [hv], N0, rfl⟩
  · obtain ⟨fs, hr, hrun, hended, hW, hsame⟩ := X0.leave (v := some (.int p0)) (fun h => by rw [Bd.returns] at h; cases h)
    refine ⟨_, _, pre1 _ ?_, hrun, hended, _, _, rfl, ?_, ⟨_, rfl⟩, hW, hsame.mono (by decide) (by decide)⟩
    · show Steps p.tables e below (s₁.setTop (mkF m 2 #[.val (.int p0), .val (.int p1)] [(.int p1), (.int p0)])) _
      refine XS.icmpNo X0.here hx rfl (hb hby own_d2_2) rfl (flt hc2).1 ?_
      show Steps p.tables e below (s₁.setTop (mkF m 5 #[.val (.int p0), .val (.int p1)] [])) _
      refine XS.iloadN X0.here hx rfl (hb hby own_d2_5) rfl ?_
      show Steps p.tables e below (s₁.setTop (mkF m 6 #[.val (.int p0), .val (.int p1)] [(.int p0)])) _
      refine XS.goto X0.here hx rfl (pc0 := 6) (pc' := 10) rfl (hb hby own_d2_6) (by decide) (by decide) ?_
      show Steps p.tables e below (s₁.setTop (mkF m 10 #[.val (.int p0), .val (.int p1)] [(.int p0)])) _
      exact retI X0 hx Bd.returns (hb hby own_d2_10) hr
    · show own_Q2 Z p0 p1 h0 n0 _ s₁.heap _
      rw [e0]
      have hv : own_f2 p0 p1 = p0 := by unfold own_f2; rw [if_neg hc2]
      exact ⟨by rw [hv], N0, rfl⟩
theorem own_f2_cases (p0 : Int32) (p1 : Int32) : (p0 < p1 ∧ (own_f2 p0 p1 = p1)) ∨ (¬ (p0 < p1) ∧ (own_f2 p0 p1 = p0)) := by
  by_cases cs0 : p0 < p1
  · refine Or.inl ⟨cs0, ?_⟩
    unfold own_f2; rw [if_pos cs0]
  · refine Or.inr ⟨cs0, ?_⟩
    unfold own_f2; rw [if_neg cs0]
theorem own_d3_0 : decode jdk_29_method_69_code 0 = .ok (.iload_n 0, 1) := by decide +kernel
theorem own_d3_1 : decode jdk_29_method_69_code 1 = .ok (.iload_n 1, 1) := by decide +kernel
theorem own_d3_2 : decode jdk_29_method_69_code 2 = .ok (.if_icmp .gt 7, 3) := by decide +kernel
theorem own_d3_9 : decode jdk_29_method_69_code 9 = .ok (.iload_n 1, 1) := by decide +kernel
theorem own_d3_10 : decode jdk_29_method_69_code 10 = .ok (.ireturn, 1) := by decide +kernel
theorem own_d3_5 : decode jdk_29_method_69_code 5 = .ok (.iload_n 0, 1) := by decide +kernel
theorem own_d3_6 : decode jdk_29_method_69_code 6 = .ok (.goto 4, 3) := by decide +kernel
def own_f3 (p0 : Int32) (p1 : Int32) : Int32 := if p1 < p0 then p1 else p0
theorem own_ef3 (m : MethodId) (p0 : Int32) (p1 : Int32) : entryFrame m #[(.int p0), (.int p1)] 2 = mkF m 0 #[.val (.int p0), .val (.int p1)] [] := by first | (simp [entryFrame, mkF, argsToLocals, Value.category]; done) | rfl
def own_Q3 (Z : State) (p0 : Int32) (p1 : Int32) (h0 : Heap) (n0 : Nat) (v : Option Value) (h : Heap) (L : List Loc) : Prop := v = some (.int (own_f3 p0 p1)) ∧ Fr n0 L ∧ h = h0
set_option maxRecDepth 65536 in
set_option maxHeartbeats 40000000 in
theorem own_rm3 (l : Launch) (Z : State) (av : Array Value) (hw : ∀ d ∈ tables_1, d.before av Z = true) (ws : List Jvm.Cond) (p0 : Int32) (p1 : Int32) (h0 : Heap) (n0 : Nat) (Z0 : n0 ≤ h0.size) :
    MetFree l (⟨"java/lang/Math", "min", "(II)I"⟩ : MethodName) (head1 (Jvm.Cond.code (⟨"java/lang/Math", "min", "(II)I"⟩ : MethodName) jdk_29_method_69_code 2 (some .int) :: ws) ({ frames := 0, cells := 0, slots := 0, locals := 0 } : Room)) (fun a U => a = #[(.int p0), (.int p1)] ∧ Z.Warmed39 U.vm ∧ U.heap = h0) (fun _ _ _ _ _ => True) (fun _ U o U' => ∃ v L, o = .returned v ∧ own_Q3 Z p0 p1 h0 n0 v U'.heap L ∧ FrameEnd U o U' L ({ frames := 0, cells := 0, slots := 0, locals := 0 } : Room).cells ({ frames := 0, cells := 0, slots := 0, locals := 0 } : Room).slots) := by
  refine MetFree.of_bodySF (Jvm.Free.JP.mathPlain rfl (by decide +kernel)) hisR ?_
  intro p e s m args below meth c s₁ Bd hml0 hP hK
  obtain ⟨rfl, hZ, hh⟩ := hP
  have hx := Bd.exec
  have hby := Bd.bytes
  have hml : c.maxLocals = 2 := hml0
  have hown : s.vm.findClass "java/lang/Math" = some m.cls := findClass_of_methodNamed Bd.named
  have hnm := (name_of_methodNamed Bd.named Bd.method).1
  have X0 : Stand p l e ({ frames := 0, cells := 0, slots := 0, locals := 0 } : Room) s m #[(.int p0), (.int p1)] below meth c s₁ [] 0 0 := Stand.of_body Bd
  have e0 : s₁.heap = h0 := by rw [← hh, Bd.state]; rfl
  have N0 := Fr.nil n0
  have pre0 : ∀ t, Steps p.tables e below (s₁.setTop (mkF m 0 #[.val (.int p0), .val (.int p1)] [])) t → Steps p.tables e below (s₁.setTop (entryFrame m #[(.int p0), (.int p1)] 2)) t := fun t k => castTop (own_ef3 m p0 p1) k
  have pre3 : ∀ t, Steps p.tables e below (s₁.setTop (mkF m 2 #[.val (.int p0), .val (.int p1)] [(.int p1), (.int p0)])) t → Steps p.tables e below (s₁.setTop (entryFrame m #[(.int p0), (.int p1)] 2)) t := fun t kk => pre0 t (by
    show Steps p.tables e below (s₁.setTop (mkF m 0 #[.val (.int p0), .val (.int p1)] [])) _
    refine XS.iloadN X0.here hx rfl (hb hby own_d3_0) rfl ?_
    show Steps p.tables e below (s₁.setTop (mkF m 1 #[.val (.int p0), .val (.int p1)] [(.int p0)])) _
    refine XS.iloadN X0.here hx rfl (hb hby own_d3_1) rfl ?_
    show Steps p.tables e below (s₁.setTop (mkF m 2 #[.val (.int p0), .val (.int p1)] [(.int p1), (.int p0)])) _
    exact kk)
  by_cases hc4 : p1 < p0
  · obtain ⟨fs, hr, hrun, hended, hW, hsame⟩ := X0.leave (v := some (.int p1)) (fun h => by rw [Bd.returns] at h; cases h)
    refine ⟨_, _, pre3 _ ?_, hrun, hended, _, _, rfl, ?_, ⟨_, rfl⟩, hW, hsame.mono (by decide) (by decide)⟩
    · show Steps p.tables e below (s₁.setTop (mkF m 2 #[.val (.int p0), .val (.int p1)] [(.int p1), (.int p0)])) _
      refine XS.icmpYes X0.here hx rfl (pc0 := 2) (pc' := 9) rfl (hb hby own_d3_2) rfl (tlt hc4).2.2.1 (by decide) (by decide) ?_
      show Steps p.tables e below (s₁.setTop (mkF m 9 #[.val (.int p0), .val (.int p1)] [])) _
      refine XS.iloadN X0.here hx rfl (hb hby own_d3_9) rfl ?_
      show Steps p.tables e below (s₁.setTop (mkF m 10 #[.val (.int p0), .val (.int p1)] [(.int p1)])) _
      exact retI X0 hx Bd.returns (hb hby own_d3_10) hr
    · show own_Q3 Z p0 p1 h0 n0 _ s₁.heap _
      rw [e0]
      have hv : own_f3 p0 p1 = p1 := by unfold own_f3; rw [if_pos hc4]
      exact ⟨by rw [hv], N0, rfl⟩
  · obtain ⟨fs, hr, hrun, hended, hW, hsame⟩ := X0.leave (v := some (.int p0)) (fun h => by rw [Bd.returns] at h; cases h)
    refine ⟨_, _, pre3 _ ?_, hrun, hended, _, _, rfl, ?_, ⟨_, rfl⟩, hW, hsame.mono (by decide) (by decide)⟩
    · show Steps p.tables e below (s₁.setTop (mkF m 2 #[.val (.int p0), .val (.int p1)] [(.int p1), (.int p0)])) _
      refine XS.icmpNo X0.here hx rfl (hb hby own_d3_2) rfl (flt hc4).2.2.1 ?_
      show Steps p.tables e below (s₁.setTop (mkF m 5 #[.val (.int p0), .val (.int p1)] [])) _
      refine XS.iloadN X0.here hx rfl (hb hby own_d3_5) rfl ?_
      show Steps p.tables e below (s₁.setTop (mkF m 6 #[.val (.int p0), .val (.int p1)] [(.int p0)])) _
      refine XS.goto X0.here hx rfl (pc0 := 6) (pc' := 10) rfl (hb hby own_d3_6) (by decide) (by decide) ?_
      show Steps p.tables e below (s₁.setTop (mkF m 10 #[.val (.int p0), .val (.int p1)] [(.int p0)])) _
      exact retI X0 hx Bd.returns (hb hby own_d3_10) hr
    · show own_Q3 Z p0 p1 h0 n0 _ s₁.heap _
      rw [e0]
      have hv : own_f3 p0 p1 = p0 := by unfold own_f3; rw [if_neg hc4]
      exact ⟨by rw [hv], N0, rfl⟩
theorem own_f3_cases (p0 : Int32) (p1 : Int32) : (p1 < p0 ∧ (own_f3 p0 p1 = p1)) ∨ (¬ (p1 < p0) ∧ (own_f3 p0 p1 = p0)) := by
  by_cases cs0 : p1 < p0
  · refine Or.inl ⟨cs0, ?_⟩
    unfold own_f3; rw [if_pos cs0]
  · refine Or.inr ⟨cs0, ?_⟩
    unfold own_f3; rw [if_neg cs0]
theorem own_d1_0 : decode prog_9_method_2_code 0 = .ok (.iload_n 0, 1) := by decide +kernel
theorem own_d1_1 : decode prog_9_method_2_code 1 = .ok (.iconst 0, 1) := by decide +kernel
theorem own_pd0 : parseMethodDescriptor "(II)I" = some ⟨[.int, .int], some .int⟩ := by decide +kernel
theorem own_d1_2 : decode prog_9_method_2_code 2 = .ok (.invokestatic 7, 3) := by decide +kernel
theorem own_d1_5 : decode prog_9_method_2_code 5 = .ok (.istore_n 3, 1) := by decide +kernel
theorem own_d1_6 : decode prog_9_method_2_code 6 = .ok (.iload_n 2, 1) := by decide +kernel
theorem own_d1_7 : decode prog_9_method_2_code 7 = .ok (.ifCond .ne 9, 3) := by decide +kernel
theorem own_d1_10 : decode prog_9_method_2_code 10 = .ok (.iload_n 3, 1) := by decide +kernel
theorem own_d1_11 : decode prog_9_method_2_code 11 = .ok (.iload_n 1, 1) := by decide +kernel
theorem own_d1_12 : decode prog_9_method_2_code 12 = .ok (.invokestatic 13, 3) := by decide +kernel
theorem own_d1_15 : decode prog_9_method_2_code 15 = .ok (.ireturn, 1) := by decide +kernel
theorem own_d1_16 : decode prog_9_method_2_code 16 = .ok (.iload_n 3, 1) := by decide +kernel
theorem own_d1_17 : decode prog_9_method_2_code 17 = .ok (.iload_n 1, 1) := by decide +kernel
theorem own_d1_18 : decode prog_9_method_2_code 18 = .ok (.iload_n 2, 1) := by decide +kernel
theorem own_d1_19 : decode prog_9_method_2_code 19 = .ok (.isub, 1) := by decide +kernel
theorem own_d1_20 : decode prog_9_method_2_code 20 = .ok (.if_icmp .le 5, 3) := by decide +kernel
theorem own_d1_23 : decode prog_9_method_2_code 23 = .ok (.iconst (-1), 1) := by decide +kernel
theorem own_d1_24 : decode prog_9_method_2_code 24 = .ok (.ireturn, 1) := by decide +kernel
theorem own_d1_25 : decode prog_9_method_2_code 25 = .ok (.iload_n 3, 1) := by decide +kernel
theorem own_d1_26 : decode prog_9_method_2_code 26 = .ok (.ireturn, 1) := by decide +kernel
def own_f1 (p0 : Int32) (p1 : Int32) (p2 : Int32) : Int32 := if p2 = (0 : Int32) then (own_f3 (own_f2 p0 (0 : Int32)) p1) else if (p1 - p2) < (own_f2 p0 (0 : Int32)) then (-1 : Int32) else (own_f2 p0 (0 : Int32))
theorem own_pn33 : plainName "com/example/needlework/needlework/internal/SearchRange" = true := by first | (simp [plainName, overriddenIn]; done) | decide +kernel
theorem own_ef1 (m : MethodId) (p0 : Int32) (p1 : Int32) (p2 : Int32) : entryFrame m #[(.int p0), (.int p1), (.int p2)] 4 = mkF m 0 #[.val (.int p0), .val (.int p1), .val (.int p2), .unset] [] := by first | (simp [entryFrame, mkF, argsToLocals, Value.category]; done) | rfl
def own_Q1 (Z : State) (p0 : Int32) (p1 : Int32) (p2 : Int32) (h0 : Heap) (n0 : Nat) (v : Option Value) (h : Heap) (L : List Loc) : Prop := v = some (.int (own_f1 p0 p1 p2)) ∧ Fr n0 L ∧ h = h0
set_option maxRecDepth 65536 in
set_option maxHeartbeats 40000000 in
theorem own_rm1 (l : Launch) (Z : State) (av : Array Value) (hw : ∀ d ∈ tables_1, d.before av Z = true) (ws : List Jvm.Cond) (p0 : Int32) (p1 : Int32) (p2 : Int32) (h0 : Heap) (n0 : Nat) (Z0 : n0 ≤ h0.size) :
    MetFree l (⟨"com/example/needlework/needlework/internal/SearchRange", "firstStart", "(III)I"⟩ : MethodName) (head1 (Jvm.Cond.code (⟨"com/example/needlework/needlework/internal/SearchRange", "firstStart", "(III)I"⟩ : MethodName) prog_9_method_2_code 4 (some .int) :: ws) ({ frames := 1, cells := 0, slots := 0, locals := 13 } : Room)) (fun a U => a = #[(.int p0), (.int p1), (.int p2)] ∧ Z.Warmed39 U.vm ∧ U.heap = h0) (fun _ _ _ _ _ => True) (fun _ U o U' => ∃ v L, o = .returned v ∧ own_Q1 Z p0 p1 p2 h0 n0 v U'.heap L ∧ FrameEnd U o U' L ({ frames := 1, cells := 0, slots := 0, locals := 13 } : Room).cells ({ frames := 1, cells := 0, slots := 0, locals := 13 } : Room).slots) := by
  refine MetFree.of_bodySF (plainFor_of_name own_pn33) hisR ?_
  intro p e s m args below meth c s₁ Bd hml0 hP hK
  obtain ⟨rfl, hZ, hh⟩ := hP
  have hx := Bd.exec
  have hby := Bd.bytes
  have hml : c.maxLocals = 4 := hml0
  have hown : s.vm.findClass "com/example/needlework/needlework/internal/SearchRange" = some m.cls := findClass_of_methodNamed Bd.named
  have hnm := (name_of_methodNamed Bd.named Bd.method).1
  have X0 : Stand p l e ({ frames := 1, cells := 0, slots := 0, locals := 13 } : Room) s m #[(.int p0), (.int p1), (.int p2)] below meth c s₁ [] 0 0 := Stand.of_body Bd
  have e0 : s₁.heap = h0 := by rw [← hh, Bd.state]; rfl
  have N0 := Fr.nil n0
  have pre0 : ∀ t, Steps p.tables e below (s₁.setTop (mkF m 0 #[.val (.int p0), .val (.int p1), .val (.int p2), .unset] [])) t → Steps p.tables e below (s₁.setTop (entryFrame m #[(.int p0), (.int p1), (.int p2)] 4)) t := fun t k => castTop (own_ef1 m p0 p1 p2) k
  obtain ⟨_, _, ⟨T5, L5, k5, n5⟩, -, X5, ⟨Lc5, hQ5, l5, y5, z5⟩, st5⟩ := Jvm.LawKit.callS X0 hx (y := (⟨"java/lang/Math", "max", "(II)I"⟩ : MethodName)) hown (mvT hZ (hw _ (List.mem_of_getElem? (i := 5) rfl))) (mvT hZ (hw _ (List.mem_of_getElem? (i := 6) rfl))) (mvT hZ (hw _ (List.mem_of_getElem? (i := 7) rfl))) (mvT hZ (hw _ (List.mem_of_getElem? (i := 8) rfl))) (by decide) (backOf (W := 0) (own_rm2 l Z av hw [] p0 (0 : Int32) h0 n0 Z0 ) hZ (hw _ (List.mem_of_getElem? (i := 8) rfl)) (hw _ (List.mem_of_getElem? (i := 7) rfl)) (by decide) (by decide)) (g := (mkF m 2 #[.val (.int p0), .val (.int p1), .val (.int p2), .unset] [(.int (0 : Int32)), (.int p0)])) rfl (by rw [hml]; rfl) (argsL := [(.int p0), (.int (0 : Int32))]) (rest := []) (lenOf own_pd0 rfl) rfl (by show 2 * 0 + _ ≤ _; exact Nat.le_of_eq rfl) (hb hby own_d1_2) (fun _ _ => ⟨rfl, e0, (by decide : 0 + 0 ≤ _), (by decide : 0 + 0 ≤ _)⟩)
  dsimp only [Pt.U, Pt.locs, Pt.cells, Pt.slots] at X5 l5 y5 z5 st5 hQ5
  subst l5 y5 z5
  obtain ⟨rfl, N5q, e7⟩ := hQ5
  have N6 := Fr.app N0 N5q
  have pre8 : ∀ t, Steps p.tables e below (T5.setTop (mkF m 7 #[.val (.int p0), .val (.int p1), .val (.int p2), .val (.int (own_f2 p0 (0 : Int32)))] [(.int p2)])) t → Steps p.tables e below (s₁.setTop (entryFrame m #[(.int p0), (.int p1), (.int p2)] 4)) t := fun t kk => pre0 t (by
    show Steps p.tables e below (s₁.setTop (mkF m 0 #[.val (.int p0), .val (.int p1), .val (.int p2), .unset] [])) _
    refine XS.iloadN X0.here hx rfl (hb hby own_d1_0) rfl ?_
    show Steps p.tables e below (s₁.setTop (mkF m 1 #[.val (.int p0), .val (.int p1), .val (.int p2), .unset] [(.int p0)])) _
    refine XS.iconst X0.here hx rfl (hb hby own_d1_1) ?_
    show Steps p.tables e below (s₁.setTop (mkF m 2 #[.val (.int p0), .val (.int p1), .val (.int p2), .unset] [(.int (0 : Int32)), (.int p0)])) _
    refine st5 _ ?_
    show Steps p.tables e below (T5.setTop (mkF m 5 #[.val (.int p0), .val (.int p1), .val (.int p2), .unset] [(.int (own_f2 p0 (0 : Int32)))])) _
    refine XS.istoreN X5.here hx rfl (hb hby own_d1_5) rfl (l' := #[.val (.int p0), .val (.int p1), .val (.int p2), .val (.int (own_f2 p0 (0 : Int32)))]) rfl ?_
    show Steps p.tables e below (T5.setTop (mkF m 6 #[.val (.int p0), .val (.int p1), .val (.int p2), .val (.int (own_f2 p0 (0 : Int32)))] [])) _
    refine XS.iloadN X5.here hx rfl (hb hby own_d1_6) rfl ?_
    show Steps p.tables e below (T5.setTop (mkF m 7 #[.val (.int p0), .val (.int p1), .val (.int p2), .val (.int (own_f2 p0 (0 : Int32)))] [(.int p2)])) _
    exact kk)
  by_cases hc9 : p2 = (0 : Int32)
  · obtain ⟨_, _, ⟨T10, L10, k10, n10⟩, -, X10, ⟨Lc10, hQ10, l10, y10, z10⟩, st10⟩ := Jvm.LawKit.callS X5 hx (y := (⟨"java/lang/Math", "min", "(II)I"⟩ : MethodName)) hown (mvT hZ (hw _ (List.mem_of_getElem? (i := 9) rfl))) (mvT hZ (hw _ (List.mem_of_getElem? (i := 10) rfl))) (mvT hZ (hw _ (List.mem_of_getElem? (i := 7) rfl))) (mvT hZ (hw _ (List.mem_of_getElem? (i := 11) rfl))) (by decide) (backOf (W := 0) (own_rm3 l Z av hw [] (own_f2 p0 (0 : Int32)) p1 h0 n0 Z0 ) hZ (hw _ (List.mem_of_getElem? (i := 11) rfl)) (hw _ (List.mem_of_getElem? (i := 7) rfl)) (by decide) (by decide)) (g := (mkF m 12 #[.val (.int p0), .val (.int p1), .val (.int p2), .val (.int (own_f2 p0 (0 : Int32)))] [(.int p1), (.int (own_f2 p0 (0 : Int32)))])) rfl (by rw [hml]; rfl) (argsL := [(.int (own_f2 p0 (0 : Int32))), (.int p1)]) (rest := []) (lenOf own_pd0 rfl) rfl (by show 2 * 0 + _ ≤ _; exact Nat.le_of_eq rfl) (hb hby own_d1_12) (fun _ _ => ⟨rfl, e7, (by decide : 0 + 0 ≤ _), (by decide : 0 + 0 ≤ _)⟩)
    dsimp only [Pt.U, Pt.locs, Pt.cells, Pt.slots] at X10 l10 y10 z10 st10 hQ10
    subst l10 y10 z10
    obtain ⟨rfl, N10q, e12⟩ := hQ10
    have N11 := Fr.app N6 N10q
    obtain ⟨fs, hr, hrun, hended, hW, hsame⟩ := X10.leave (v := some (.int (own_f3 (own_f2 p0 (0 : Int32)) p1))) (fun h => by rw [Bd.returns] at h; cases h)
    refine ⟨_, _, pre8 _ ?_, hrun, hended, _, _, rfl, ?_, ⟨_, rfl⟩, hW, hsame.mono (by decide) (by decide)⟩
    · show Steps p.tables e below (T5.setTop (mkF m 7 #[.val (.int p0), .val (.int p1), .val (.int p2), .val (.int (own_f2 p0 (0 : Int32)))] [(.int p2)])) _
      refine XS.ifNo X5.here hx rfl (hb hby own_d1_7) rfl ((if0 _ _).trans (teq hc9).2) ?_
      show Steps p.tables e below (T5.setTop (mkF m 10 #[.val (.int p0), .val (.int p1), .val (.int p2), .val (.int (own_f2 p0 (0 : Int32)))] [])) _
      refine XS.iloadN X5.here hx rfl (hb hby own_d1_10) rfl ?_
      show Steps p.tables e below (T5.setTop (mkF m 11 #[.val (.int p0), .val (.int p1), .val (.int p2), .val (.int (own_f2 p0 (0 : Int32)))] [(.int (own_f2 p0 (0 : Int32)))])) _
      refine XS.iloadN X5.here hx rfl (hb hby own_d1_11) rfl ?_
      show Steps p.tables e below (T5.setTop (mkF m 12 #[.val (.int p0), .val (.int p1), .val (.int p2), .val (.int (own_f2 p0 (0 : Int32)))] [(.int p1), (.int (own_f2 p0 (0 : Int32)))])) _
      refine st10 _ ?_
      show Steps p.tables e below (T10.setTop (mkF m 15 #[.val (.int p0), .val (.int p1), .val (.int p2), .val (.int (own_f2 p0 (0 : Int32)))] [(.int (own_f3 (own_f2 p0 (0 : Int32)) p1))])) _
      exact retI X10 hx Bd.returns (hb hby own_d1_15) hr
    · show own_Q1 Z p0 p1 p2 h0 n0 _ T10.heap _
      rw [e12]
      have hv : own_f1 p0 p1 p2 = (own_f3 (own_f2 p0 (0 : Int32)) p1) := by unfold own_f1; rw [if_pos hc9]
      exact ⟨by rw [hv], N11, rfl⟩
  · have pre13 : ∀ t, Steps p.tables e below (T5.setTop (mkF m 20 #[.val (.int p0), .val (.int p1), .val (.int p2), .val (.int (own_f2 p0 (0 : Int32)))] [(.int (p1 - p2)), (.int (own_f2 p0 (0 : Int32)))])) t → Steps p.tables e below (s₁.setTop (entryFrame m #[(.int p0), (.int p1), (.int p2)] 4)) t := fun t kk => pre8 t (by
      show Steps p.tables e below (T5.setTop (mkF m 7 #[.val (.int p0), .val (.int p1), .val (.int p2), .val (.int (own_f2 p0 (0 : Int32)))] [(.int p2)])) _
      refine XS.ifYes X5.here hx rfl (pc0 := 7) (pc' := 16) rfl (hb hby own_d1_7) rfl ((if0 _ _).trans (feq hc9).2) (by decide) (by decide) ?_
      show Steps p.tables e below (T5.setTop (mkF m 16 #[.val (.int p0), .val (.int p1), .val (.int p2), .val (.int (own_f2 p0 (0 : Int32)))] [])) _
      refine XS.iloadN X5.here hx rfl (hb hby own_d1_16) rfl ?_
      show Steps p.tables e below (T5.setTop (mkF m 17 #[.val (.int p0), .val (.int p1), .val (.int p2), .val (.int (own_f2 p0 (0 : Int32)))] [(.int (own_f2 p0 (0 : Int32)))])) _
      refine XS.iloadN X5.here hx rfl (hb hby own_d1_17) rfl ?_
      show Steps p.tables e below (T5.setTop (mkF m 18 #[.val (.int p0), .val (.int p1), .val (.int p2), .val (.int (own_f2 p0 (0 : Int32)))] [(.int p1), (.int (own_f2 p0 (0 : Int32)))])) _
      refine XS.iloadN X5.here hx rfl (hb hby own_d1_18) rfl ?_
      show Steps p.tables e below (T5.setTop (mkF m 19 #[.val (.int p0), .val (.int p1), .val (.int p2), .val (.int (own_f2 p0 (0 : Int32)))] [(.int p2), (.int p1), (.int (own_f2 p0 (0 : Int32)))])) _
      refine XS.isub X5.here hx rfl (hb hby own_d1_19) rfl ?_
      show Steps p.tables e below (T5.setTop (mkF m 20 #[.val (.int p0), .val (.int p1), .val (.int p2), .val (.int (own_f2 p0 (0 : Int32)))] [(.int (p1 - p2)), (.int (own_f2 p0 (0 : Int32)))])) _
      exact kk)
    by_cases hc14 : (p1 - p2) < (own_f2 p0 (0 : Int32))
    · obtain ⟨fs, hr, hrun, hended, hW, hsame⟩ := X5.leave (v := some (.int (-1 : Int32))) (fun h => by rw [Bd.returns] at h; cases h)
      refine ⟨_, _, pre13 _ ?_, hrun, hended, _, _, rfl, ?_, ⟨_, rfl⟩, hW, hsame.mono (by decide) (by decide)⟩
      · show Steps p.tables e below (T5.setTop (mkF m 20 #[.val (.int p0), .val (.int p1), .val (.int p2), .val (.int (own_f2 p0 (0 : Int32)))] [(.int (p1 - p2)), (.int (own_f2 p0 (0 : Int32)))])) _
        refine XS.icmpNo X5.here hx rfl (hb hby own_d1_20) rfl (tlt hc14).2.2.2 ?_
        show Steps p.tables e below (T5.setTop (mkF m 23 #[.val (.int p0), .val (.int p1), .val (.int p2), .val (.int (own_f2 p0 (0 : Int32)))] [])) _
        refine XS.iconst X5.here hx rfl (hb hby own_d1_23) ?_
        show Steps p.tables e below (T5.setTop (mkF m 24 #[.val (.int p0), .val (.int p1), .val (.int p2), .val (.int (own_f2 p0 (0 : Int32)))] [(.int (-1 : Int32))])) _
        exact retI X5 hx Bd.returns (hb hby own_d1_24) hr
      · show own_Q1 Z p0 p1 p2 h0 n0 _ T5.heap _
        rw [e7]
        have hv : own_f1 p0 p1 p2 = (-1 : Int32) := by unfold own_f1; rw [if_neg hc9, if_pos hc14]
        exact ⟨by rw [hv], N6, rfl⟩
    · obtain ⟨fs, hr, hrun, hended, hW, hsame⟩ := X5.leave (v := some (.int (own_f2 p0 (0 : Int32)))) (fun h => by rw [Bd.returns] at h; cases h)
      refine ⟨_, _, pre13 _ ?_, hrun, hended, _, _, rfl, ?_, ⟨_, rfl⟩, hW, hsame.mono (by decide) (by decide)⟩
      · show Steps p.tables e below (T5.setTop (mkF m 20 #[.val (.int p0), .val (.int p1), .val (.int p2), .val (.int (own_f2 p0 (0 : Int32)))] [(.int (p1 - p2)), (.int (own_f2 p0 (0 : Int32)))])) _
        refine XS.icmpYes X5.here hx rfl (pc0 := 20) (pc' := 25) rfl (hb hby own_d1_20) rfl (flt hc14).2.2.2 (by decide) (by decide) ?_
        show Steps p.tables e below (T5.setTop (mkF m 25 #[.val (.int p0), .val (.int p1), .val (.int p2), .val (.int (own_f2 p0 (0 : Int32)))] [])) _
        refine XS.iloadN X5.here hx rfl (hb hby own_d1_25) rfl ?_
        show Steps p.tables e below (T5.setTop (mkF m 26 #[.val (.int p0), .val (.int p1), .val (.int p2), .val (.int (own_f2 p0 (0 : Int32)))] [(.int (own_f2 p0 (0 : Int32)))])) _
        exact retI X5 hx Bd.returns (hb hby own_d1_26) hr
      · show own_Q1 Z p0 p1 p2 h0 n0 _ T5.heap _
        rw [e7]
        have hv : own_f1 p0 p1 p2 = (own_f2 p0 (0 : Int32)) := by unfold own_f1; rw [if_neg hc9, if_neg hc14]
        exact ⟨by rw [hv], N6, rfl⟩
theorem own_f1_cases (p0 : Int32) (p1 : Int32) (p2 : Int32) : (p2 = (0 : Int32) ∧ (own_f1 p0 p1 p2 = (own_f3 (own_f2 p0 (0 : Int32)) p1))) ∨ (¬ (p2 = (0 : Int32)) ∧ (((p1 - p2) < (own_f2 p0 (0 : Int32)) ∧ (own_f1 p0 p1 p2 = (-1 : Int32))) ∨ (¬ ((p1 - p2) < (own_f2 p0 (0 : Int32))) ∧ (own_f1 p0 p1 p2 = (own_f2 p0 (0 : Int32)))))) := by
  by_cases cs0 : p2 = (0 : Int32)
  · refine Or.inl ⟨cs0, ?_⟩
    unfold own_f1; rw [if_pos cs0]
  · refine Or.inr ⟨cs0, ?_⟩
    by_cases cs1 : (p1 - p2) < (own_f2 p0 (0 : Int32))
    · refine Or.inl ⟨cs1, ?_⟩
      unfold own_f1; rw [if_neg cs0, if_pos cs1]
    · refine Or.inr ⟨cs1, ?_⟩
      unfold own_f1; rw [if_neg cs0, if_neg cs1]
theorem own_pd1 : parseMethodDescriptor "(III)I" = some ⟨[.int, .int, .int], some .int⟩ := by decide +kernel
set_option maxRecDepth 65536 in
set_option maxHeartbeats 40000000 in
theorem own_leaf0_2 (p0 : Int32) (p1 : Int32) (p2 : Int32) (p3 : Int32) (v15 : Int32) (hv15 : v15 = (p1 &&& (2147483647 : Int32))) (v18 : Int32) (hv18 : v18 = (if (p3 &&& (1 : Int32)) = (0 : Int32) then (p2 &&& (2147483647 : Int32)) else (p2 &&& (7 : Int32)))) (v23 : Int32) (hv23 : v23 = (own_f1 p0 v15 v18)) (v24 : Int64) (hv24 : v24 = (p0.toInt64)) (v25 : Int64) (hv25 : v25 = (v15.toInt64)) (v26 : Int64) (hv26 : v26 = (v18.toInt64)) (v27 : Int64) (hv27 : v27 = (v23.toInt64)) (hc29 : v18 = (0 : Int32)) (hc31 : v25 < v24) (hc33 : ¬ (v23 = v15)) : False := by
  have dv18 : ((p3 &&& (1 : Int32)) = (0 : Int32) ∧ (v18 = (p2 &&& (2147483647 : Int32)))) ∨ (¬ ((p3 &&& (1 : Int32)) = (0 : Int32)) ∧ (v18 = (p2 &&& (7 : Int32)))) := (if cq0 : (p3 &&& (1 : Int32)) = (0 : Int32) then Or.inl ⟨cq0, (by rw [hv18, if_pos cq0])⟩ else Or.inr ⟨cq0, (by rw [hv18, if_neg cq0])⟩)
  clear hv18
  generalize hex1 : (p1 &&& (2147483647 : Int32)) = ex1 at *
  generalize hex2 : (p3 &&& (1 : Int32)) = ex2 at *
  generalize hex3 : (p2 &&& (7 : Int32)) = ex3 at *
  generalize hex4 : (p2 &&& (2147483647 : Int32)) = ex4 at *
  have fc5 := own_f1_cases p0 v15 v18
  generalize own_f1 p0 v15 v18 = ex5 at *
  have fc6 := own_f2_cases p0 (0 : Int32)
  generalize own_f2 p0 (0 : Int32) = ex6 at *
  have fc7 := own_f3_cases ex6 v15
  generalize own_f3 ex6 v15 = ex7 at *
  generalize hex8 : (v15 - v18) = ex8 at *
  generalize hex9 : (p0.toInt64) = ex9 at *
  generalize hex10 : (v15.toInt64) = ex10 at *
  generalize hex11 : (v18.toInt64) = ex11 at *
  generalize hex12 : (v23.toInt64) = ex12 at *
  try simp only [Int32.lt_iff_toInt_lt, Int64.lt_iff_toInt_lt, ← Int32.toInt_inj, ← Int64.toInt_inj, Int32.reduceToInt, Int64.reduceToInt, not_true_eq_false, not_false_eq_true, false_and, and_false, true_and, and_true, false_or, or_false, true_or, or_true] at dv18
  try simp only [Int32.lt_iff_toInt_lt, Int64.lt_iff_toInt_lt, ← Int32.toInt_inj, ← Int64.toInt_inj, Int32.reduceToInt, Int64.reduceToInt, not_true_eq_false, not_false_eq_true, false_and, and_false, true_and, and_true, false_or, or_false, true_or, or_true] at hv15
  try simp only [Int32.lt_iff_toInt_lt, Int64.lt_iff_toInt_lt, ← Int32.toInt_inj, ← Int64.toInt_inj, Int32.reduceToInt, Int64.reduceToInt, not_true_eq_false, not_false_eq_true, false_and, and_false, true_and, and_true, false_or, or_false, true_or, or_true] at hv23
  try simp only [Int32.lt_iff_toInt_lt, Int64.lt_iff_toInt_lt, ← Int32.toInt_inj, ← Int64.toInt_inj, Int32.reduceToInt, Int64.reduceToInt, not_true_eq_false, not_false_eq_true, false_and, and_false, true_and, and_true, false_or, or_false, true_or, or_true] at hv24
  try simp only [Int32.lt_iff_toInt_lt, Int64.lt_iff_toInt_lt, ← Int32.toInt_inj, ← Int64.toInt_inj, Int32.reduceToInt, Int64.reduceToInt, not_true_eq_false, not_false_eq_true, false_and, and_false, true_and, and_true, false_or, or_false, true_or, or_true] at hv25
  try simp only [Int32.lt_iff_toInt_lt, Int64.lt_iff_toInt_lt, ← Int32.toInt_inj, ← Int64.toInt_inj, Int32.reduceToInt, Int64.reduceToInt, not_true_eq_false, not_false_eq_true, false_and, and_false, true_and, and_true, false_or, or_false, true_or, or_true] at hv26
  try simp only [Int32.lt_iff_toInt_lt, Int64.lt_iff_toInt_lt, ← Int32.toInt_inj, ← Int64.toInt_inj, Int32.reduceToInt, Int64.reduceToInt, not_true_eq_false, not_false_eq_true, false_and, and_false, true_and, and_true, false_or, or_false, true_or, or_true] at hv27
  try simp only [Int32.lt_iff_toInt_lt, Int64.lt_iff_toInt_lt, ← Int32.toInt_inj, ← Int64.toInt_inj, Int32.reduceToInt, Int64.reduceToInt, not_true_eq_false, not_false_eq_true, false_and, and_false, true_and, and_true, false_or, or_false, true_or, or_true] at hc29
  try simp only [Int32.lt_iff_toInt_lt, Int64.lt_iff_toInt_lt, ← Int32.toInt_inj, ← Int64.toInt_inj, Int32.reduceToInt, Int64.reduceToInt, not_true_eq_false, not_false_eq_true, false_and, and_false, true_and, and_true, false_or, or_false, true_or, or_true] at hc31
  try simp only [Int32.lt_iff_toInt_lt, Int64.lt_iff_toInt_lt, ← Int32.toInt_inj, ← Int64.toInt_inj, Int32.reduceToInt, Int64.reduceToInt, not_true_eq_false, not_false_eq_true, false_and, and_false, true_and, and_true, false_or, or_false, true_or, or_true] at hc33
  have := Int32.le_toInt p0; have := Int32.toInt_lt p0
  have := Int32.le_toInt p1; have := Int32.toInt_lt p1
  have := Int32.le_toInt p2; have := Int32.toInt_lt p2
  have := Int32.le_toInt p3; have := Int32.toInt_lt p3
  have := Int32.le_toInt v15; have := Int32.toInt_lt v15
  have := Int32.le_toInt v18; have := Int32.toInt_lt v18
  have := Int32.le_toInt v23; have := Int32.toInt_lt v23
  have := Int64.le_toInt v24; have := Int64.toInt_lt v24
  have := Int64.le_toInt v25; have := Int64.toInt_lt v25
  have := Int64.le_toInt v26; have := Int64.toInt_lt v26
  have := Int64.le_toInt v27; have := Int64.toInt_lt v27
  have bl1 := Int32.le_toInt ex1; have bu1 := Int32.toInt_lt ex1
  have fa1 := c_mask p1 (2147483647 : Int32) 31 (by decide) (by decide); rw [hex1] at fa1; try simp only [Int32.reduceToInt, Int64.reduceToInt] at fa1
  clear hex1
  have bl2 := Int32.le_toInt ex2; have bu2 := Int32.toInt_lt ex2
  have fa2 := c_mask p3 (1 : Int32) 1 (by decide) (by decide); rw [hex2] at fa2; try simp only [Int32.reduceToInt, Int64.reduceToInt] at fa2
  clear hex2
  have bl3 := Int32.le_toInt ex3; have bu3 := Int32.toInt_lt ex3
  have fa3 := c_mask p2 (7 : Int32) 3 (by decide) (by decide); rw [hex3] at fa3; try simp only [Int32.reduceToInt, Int64.reduceToInt] at fa3
  clear hex3
  have bl4 := Int32.le_toInt ex4; have bu4 := Int32.toInt_lt ex4
  have fa4 := c_mask p2 (2147483647 : Int32) 31 (by decide) (by decide); rw [hex4] at fa4; try simp only [Int32.reduceToInt, Int64.reduceToInt] at fa4
  clear hex4
  try simp only [Int32.lt_iff_toInt_lt, Int64.lt_iff_toInt_lt, ← Int32.toInt_inj, ← Int64.toInt_inj, Int32.reduceToInt, Int64.reduceToInt, not_true_eq_false, not_false_eq_true, false_and, and_false, true_and, and_true, false_or, or_false, true_or, or_true] at fc5
  try simp only [Int32.lt_iff_toInt_lt, Int64.lt_iff_toInt_lt, ← Int32.toInt_inj, ← Int64.toInt_inj, Int32.reduceToInt, Int64.reduceToInt, not_true_eq_false, not_false_eq_true, false_and, and_false, true_and, and_true, false_or, or_false, true_or, or_true] at fc6
  try simp only [Int32.lt_iff_toInt_lt, Int64.lt_iff_toInt_lt, ← Int32.toInt_inj, ← Int64.toInt_inj, Int32.reduceToInt, Int64.reduceToInt, not_true_eq_false, not_false_eq_true, false_and, and_false, true_and, and_true, false_or, or_false, true_or, or_true] at fc7
  have bl8 := Int32.le_toInt ex8; have bu8 := Int32.toInt_lt ex8
  have fa8 := c_isub v15 v18; rw [hex8] at fa8; try simp only [Int32.reduceToInt, Int64.reduceToInt] at fa8
  clear hex8
  have bl9 := Int64.le_toInt ex9; have bu9 := Int64.toInt_lt ex9
  have fa9 := c_i2l p0; rw [hex9] at fa9; try simp only [Int32.reduceToInt, Int64.reduceToInt] at fa9
  clear hex9
  have bl10 := Int64.le_toInt ex10; have bu10 := Int64.toInt_lt ex10
  have fa10 := c_i2l v15; rw [hex10] at fa10; try simp only [Int32.reduceToInt, Int64.reduceToInt] at fa10
  clear hex10
  have bl11 := Int64.le_toInt ex11; have bu11 := Int64.toInt_lt ex11
  have fa11 := c_i2l v18; rw [hex11] at fa11; try simp only [Int32.reduceToInt, Int64.reduceToInt] at fa11
  clear hex11
  have bl12 := Int64.le_toInt ex12; have bu12 := Int64.toInt_lt ex12
  have fa12 := c_i2l v23; rw [hex12] at fa12; try simp only [Int32.reduceToInt, Int64.reduceToInt] at fa12
  clear hex12
  all_goals omega
set_option maxRecDepth 65536 in
set_option maxHeartbeats 40000000 in
theorem own_leaf0_3 (p0 : Int32) (p1 : Int32) (p2 : Int32) (p3 : Int32) (v15 : Int32) (hv15 : v15 = (p1 &&& (2147483647 : Int32))) (v18 : Int32) (hv18 : v18 = (if (p3 &&& (1 : Int32)) = (0 : Int32) then (p2 &&& (2147483647 : Int32)) else (p2 &&& (7 : Int32)))) (v23 : Int32) (hv23 : v23 = (own_f1 p0 v15 v18)) (v24 : Int64) (hv24 : v24 = (p0.toInt64)) (v25 : Int64) (hv25 : v25 = (v15.toInt64)) (v26 : Int64) (hv26 : v26 = (v18.toInt64)) (v27 : Int64) (hv27 : v27 = (v23.toInt64)) (hc29 : v18 = (0 : Int32)) (hc31 : ¬ (v25 < v24)) (hc35 : v27 < (0 : Int64)) : False := by
  have dv18 : ((p3 &&& (1 : Int32)) = (0 : Int32) ∧ (v18 = (p2 &&& (2147483647 : Int32)))) ∨ (¬ ((p3 &&& (1 : Int32)) = (0 : Int32)) ∧ (v18 = (p2 &&& (7 : Int32)))) := (if cq0 : (p3 &&& (1 : Int32)) = (0 : Int32) then Or.inl ⟨cq0, (by rw [hv18, if_pos cq0])⟩ else Or.inr ⟨cq0, (by rw [hv18, if_neg cq0])⟩)
  clear hv18
  generalize hex1 : (p1 &&& (2147483647 : Int32)) = ex1 at *
  generalize hex2 : (p3 &&& (1 : Int32)) = ex2 at *
  generalize hex3 : (p2 &&& (7 : Int32)) = ex3 at *
  generalize hex4 : (p2 &&& (2147483647 : Int32)) = ex4 at *
  have fc5 := own_f1_cases p0 v15 v18
  generalize own_f1 p0 v15 v18 = ex5 at *
  have fc6 := own_f2_cases p0 (0 : Int32)
  generalize own_f2 p0 (0 : Int32) = ex6 at *
  have fc7 := own_f3_cases ex6 v15
  generalize own_f3 ex6 v15 = ex7 at *
  generalize hex8 : (v15 - v18) = ex8 at *
  generalize hex9 : (p0.toInt64) = ex9 at *
  generalize hex10 : (v15.toInt64) = ex10 at *
  generalize hex11 : (v18.toInt64) = ex11 at *
  generalize hex12 : (v23.toInt64) = ex12 at *
  try simp only [Int32.lt_iff_toInt_lt, Int64.lt_iff_toInt_lt, ← Int32.toInt_inj, ← Int64.toInt_inj, Int32.reduceToInt, Int64.reduceToInt, not_true_eq_false, not_false_eq_true, false_and, and_false, true_and, and_true, false_or, or_false, true_or, or_true] at dv18
  try simp only [Int32.lt_iff_toInt_lt, Int64.lt_iff_toInt_lt, ← Int32.toInt_inj, ← Int64.toInt_inj, Int32.reduceToInt, Int64.reduceToInt, not_true_eq_false, not_false_eq_true, false_and, and_false, true_and, and_true, false_or, or_false, true_or, or_true] at hv15
  try simp only [Int32.lt_iff_toInt_lt, Int64.lt_iff_toInt_lt, ← Int32.toInt_inj, ← Int64.toInt_inj, Int32.reduceToInt, Int64.reduceToInt, not_true_eq_false, not_false_eq_true, false_and, and_false, true_and, and_true, false_or, or_false, true_or, or_true] at hv23
  try simp only [Int32.lt_iff_toInt_lt, Int64.lt_iff_toInt_lt, ← Int32.toInt_inj, ← Int64.toInt_inj, Int32.reduceToInt, Int64.reduceToInt, not_true_eq_false, not_false_eq_true, false_and, and_false, true_and, and_true, false_or, or_false, true_or, or_true] at hv24
  try simp only [Int32.lt_iff_toInt_lt, Int64.lt_iff_toInt_lt, ← Int32.toInt_inj, ← Int64.toInt_inj, Int32.reduceToInt, Int64.reduceToInt, not_true_eq_false, not_false_eq_true, false_and, and_false, true_and, and_true, false_or, or_false, true_or, or_true] at hv25
  try simp only [Int32.lt_iff_toInt_lt, Int64.lt_iff_toInt_lt, ← Int32.toInt_inj, ← Int64.toInt_inj, Int32.reduceToInt, Int64.reduceToInt, not_true_eq_false, not_false_eq_true, false_and, and_false, true_and, and_true, false_or, or_false, true_or, or_true] at hv26
  try simp only [Int32.lt_iff_toInt_lt, Int64.lt_iff_toInt_lt, ← Int32.toInt_inj, ← Int64.toInt_inj, Int32.reduceToInt, Int64.reduceToInt, not_true_eq_false, not_false_eq_true, false_and, and_false, true_and, and_true, false_or, or_false, true_or, or_true] at hv27
  try simp only [Int32.lt_iff_toInt_lt, Int64.lt_iff_toInt_lt, ← Int32.toInt_inj, ← Int64.toInt_inj, Int32.reduceToInt, Int64.reduceToInt, not_true_eq_false, not_false_eq_true, false_and, and_false, true_and, and_true, false_or, or_false, true_or, or_true] at hc29
  try simp only [Int32.lt_iff_toInt_lt, Int64.lt_iff_toInt_lt, ← Int32.toInt_inj, ← Int64.toInt_inj, Int32.reduceToInt, Int64.reduceToInt, not_true_eq_false, not_false_eq_true, false_and, and_false, true_and, and_true, false_or, or_false, true_or, or_true] at hc31
  try simp only [Int32.lt_iff_toInt_lt, Int64.lt_iff_toInt_lt, ← Int32.toInt_inj, ← Int64.toInt_inj, Int32.reduceToInt, Int64.reduceToInt, not_true_eq_false, not_false_eq_true, false_and, and_false, true_and, and_true, false_or, or_false, true_or, or_true] at hc35
  have := Int32.le_toInt p0; have := Int32.toInt_lt p0
  have := Int32.le_toInt p1; have := Int32.toInt_lt p1
  have := Int32.le_toInt p2; have := Int32.toInt_lt p2
  have := Int32.le_toInt p3; have := Int32.toInt_lt p3
  have := Int32.le_toInt v15; have := Int32.toInt_lt v15
  have := Int32.le_toInt v18; have := Int32.toInt_lt v18
  have := Int32.le_toInt v23; have := Int32.toInt_lt v23
  have := Int64.le_toInt v24; have := Int64.toInt_lt v24
  have := Int64.le_toInt v25; have := Int64.toInt_lt v25
  have := Int64.le_toInt v26; have := Int64.toInt_lt v26
  have := Int64.le_toInt v27; have := Int64.toInt_lt v27
  have bl1 := Int32.le_toInt ex1; have bu1 := Int32.toInt_lt ex1
  have fa1 := c_mask p1 (2147483647 : Int32) 31 (by decide) (by decide); rw [hex1] at fa1; try simp only [Int32.reduceToInt, Int64.reduceToInt] at fa1
  clear hex1
  have bl2 := Int32.le_toInt ex2; have bu2 := Int32.toInt_lt ex2
  have fa2 := c_mask p3 (1 : Int32) 1 (by decide) (by decide); rw [hex2] at fa2; try simp only [Int32.reduceToInt, Int64.reduceToInt] at fa2
  clear hex2
  have bl3 := Int32.le_toInt ex3; have bu3 := Int32.toInt_lt ex3
  have fa3 := c_mask p2 (7 : Int32) 3 (by decide) (by decide); rw [hex3] at fa3; try simp only [Int32.reduceToInt, Int64.reduceToInt] at fa3
  clear hex3
  have bl4 := Int32.le_toInt ex4; have bu4 := Int32.toInt_lt ex4
  have fa4 := c_mask p2 (2147483647 : Int32) 31 (by decide) (by decide); rw [hex4] at fa4; try simp only [Int32.reduceToInt, Int64.reduceToInt] at fa4
  clear hex4
  try simp only [Int32.lt_iff_toInt_lt, Int64.lt_iff_toInt_lt, ← Int32.toInt_inj, ← Int64.toInt_inj, Int32.reduceToInt, Int64.reduceToInt, not_true_eq_false, not_false_eq_true, false_and, and_false, true_and, and_true, false_or, or_false, true_or, or_true] at fc5
  try simp only [Int32.lt_iff_toInt_lt, Int64.lt_iff_toInt_lt, ← Int32.toInt_inj, ← Int64.toInt_inj, Int32.reduceToInt, Int64.reduceToInt, not_true_eq_false, not_false_eq_true, false_and, and_false, true_and, and_true, false_or, or_false, true_or, or_true] at fc6
  try simp only [Int32.lt_iff_toInt_lt, Int64.lt_iff_toInt_lt, ← Int32.toInt_inj, ← Int64.toInt_inj, Int32.reduceToInt, Int64.reduceToInt, not_true_eq_false, not_false_eq_true, false_and, and_false, true_and, and_true, false_or, or_false, true_or, or_true] at fc7
  have bl8 := Int32.le_toInt ex8; have bu8 := Int32.toInt_lt ex8
  have fa8 := c_isub v15 v18; rw [hex8] at fa8; try simp only [Int32.reduceToInt, Int64.reduceToInt] at fa8
  clear hex8
  have bl9 := Int64.le_toInt ex9; have bu9 := Int64.toInt_lt ex9
  have fa9 := c_i2l p0; rw [hex9] at fa9; try simp only [Int32.reduceToInt, Int64.reduceToInt] at fa9
  clear hex9
  have bl10 := Int64.le_toInt ex10; have bu10 := Int64.toInt_lt ex10
  have fa10 := c_i2l v15; rw [hex10] at fa10; try simp only [Int32.reduceToInt, Int64.reduceToInt] at fa10
  clear hex10
  have bl11 := Int64.le_toInt ex11; have bu11 := Int64.toInt_lt ex11
  have fa11 := c_i2l v18; rw [hex11] at fa11; try simp only [Int32.reduceToInt, Int64.reduceToInt] at fa11
  clear hex11
  have bl12 := Int64.le_toInt ex12; have bu12 := Int64.toInt_lt ex12
  have fa12 := c_i2l v23; rw [hex12] at fa12; try simp only [Int32.reduceToInt, Int64.reduceToInt] at fa12
  clear hex12
  all_goals omega
set_option maxRecDepth 65536 in
set_option maxHeartbeats 40000000 in
theorem own_leaf0_4 (p0 : Int32) (p1 : Int32) (p2 : Int32) (p3 : Int32) (v15 : Int32) (hv15 : v15 = (p1 &&& (2147483647 : Int32))) (v18 : Int32) (hv18 : v18 = (if (p3 &&& (1 : Int32)) = (0 : Int32) then (p2 &&& (2147483647 : Int32)) else (p2 &&& (7 : Int32)))) (v23 : Int32) (hv23 : v23 = (own_f1 p0 v15 v18)) (v24 : Int64) (hv24 : v24 = (p0.toInt64)) (v25 : Int64) (hv25 : v25 = (v15.toInt64)) (v26 : Int64) (hv26 : v26 = (v18.toInt64)) (v27 : Int64) (hv27 : v27 = (v23.toInt64)) (hc29 : v18 = (0 : Int32)) (hc31 : ¬ (v25 < v24)) (hc35 : ¬ (v27 < (0 : Int64))) (hc37 : v27 < v24) : False := by
  have dv18 : ((p3 &&& (1 : Int32)) = (0 : Int32) ∧ (v18 = (p2 &&& (2147483647 : Int32)))) ∨ (¬ ((p3 &&& (1 : Int32)) = (0 : Int32)) ∧ (v18 = (p2 &&& (7 : Int32)))) := (if cq0 : (p3 &&& (1 : Int32)) = (0 : Int32) then Or.inl ⟨cq0, (by rw [hv18, if_pos cq0])⟩ else Or.inr ⟨cq0, (by rw [hv18, if_neg cq0])⟩)
  clear hv18
  generalize hex1 : (p1 &&& (2147483647 : Int32)) = ex1 at *
  generalize hex2 : (p3 &&& (1 : Int32)) = ex2 at *
  generalize hex3 : (p2 &&& (7 : Int32)) = ex3 at *
  generalize hex4 : (p2 &&& (2147483647 : Int32)) = ex4 at *
  have fc5 := own_f1_cases p0 v15 v18
  generalize own_f1 p0 v15 v18 = ex5 at *
  have fc6 := own_f2_cases p0 (0 : Int32)
  generalize own_f2 p0 (0 : Int32) = ex6 at *
  have fc7 := own_f3_cases ex6 v15
  generalize own_f3 ex6 v15 = ex7 at *
  generalize hex8 : (v15 - v18) = ex8 at *
  generalize hex9 : (p0.toInt64) = ex9 at *
  generalize hex10 : (v15.toInt64) = ex10 at *
  generalize hex11 : (v18.toInt64) = ex11 at *
  generalize hex12 : (v23.toInt64) = ex12 at *
  try simp only [Int32.lt_iff_toInt_lt, Int64.lt_iff_toInt_lt, ← Int32.toInt_inj, ← Int64.toInt_inj, Int32.reduceToInt, Int64.reduceToInt, not_true_eq_false, not_false_eq_true, false_and, and_false, true_and, and_true, false_or, or_false, true_or, or_true] at dv18
  try simp only [Int32.lt_iff_toInt_lt, Int64.lt_iff_toInt_lt, ← Int32.toInt_inj, ← Int64.toInt_inj, Int32.reduceToInt, Int64.reduceToInt, not_true_eq_false, not_false_eq_true, false_and, and_false, true_and, and_true, false_or, or_false, true_or, or_true] at hv15
  try simp only [Int32.lt_iff_toInt_lt, Int64.lt_iff_toInt_lt, ← Int32.toInt_inj, ← Int64.toInt_inj, Int32.reduceToInt, Int64.reduceToInt, not_true_eq_false, not_false_eq_true, false_and, and_false, true_and, and_true, false_or, or_false, true_or, or_true] at hv23
  try simp only [Int32.lt_iff_toInt_lt, Int64.lt_iff_toInt_lt, ← Int32.toInt_inj, ← Int64.toInt_inj, Int32.reduceToInt, Int64.reduceToInt, not_true_eq_false, not_false_eq_true, false_and, and_false, true_and, and_true, false_or, or_false, true_or, or_true] at hv24
  try simp only [Int32.lt_iff_toInt_lt, Int64.lt_iff_toInt_lt, ← Int32.toInt_inj, ← Int64.toInt_inj, Int32.reduceToInt, Int64.reduceToInt, not_true_eq_false, not_false_eq_true, false_and, and_false, true_and, and_true, false_or, or_false, true_or, or_true] at hv25
  try simp only [Int32.lt_iff_toInt_lt, Int64.lt_iff_toInt_lt, ← Int32.toInt_inj, ← Int64.toInt_inj, Int32.reduceToInt, Int64.reduceToInt, not_true_eq_false, not_false_eq_true, false_and, and_false, true_and, and_true, false_or, or_false, true_or, or_true] at hv26
  try simp only [Int32.lt_iff_toInt_lt, Int64.lt_iff_toInt_lt, ← Int32.toInt_inj, ← Int64.toInt_inj, Int32.reduceToInt, Int64.reduceToInt, not_true_eq_false, not_false_eq_true, false_and, and_false, true_and, and_true, false_or, or_false, true_or, or_true] at hv27
  try simp only [Int32.lt_iff_toInt_lt, Int64.lt_iff_toInt_lt, ← Int32.toInt_inj, ← Int64.toInt_inj, Int32.reduceToInt, Int64.reduceToInt, not_true_eq_false, not_false_eq_true, false_and, and_false, true_and, and_true, false_or, or_false, true_or, or_true] at hc29
  try simp only [Int32.lt_iff_toInt_lt, Int64.lt_iff_toInt_lt, ← Int32.toInt_inj, ← Int64.toInt_inj, Int32.reduceToInt, Int64.reduceToInt, not_true_eq_false, not_false_eq_true, false_and, and_false, true_and, and_true, false_or, or_false, true_or, or_true] at hc31
  try simp only [Int32.lt_iff_toInt_lt, Int64.lt_iff_toInt_lt, ← Int32.toInt_inj, ← Int64.toInt_inj, Int32.reduceToInt, Int64.reduceToInt, not_true_eq_false, not_false_eq_true, false_and, and_false, true_and, and_true, false_or, or_false, true_or, or_true] at hc35
  try simp only [Int32.lt_iff_toInt_lt, Int64.lt_iff_toInt_lt, ← Int32.toInt_inj, ← Int64.toInt_inj, Int32.reduceToInt, Int64.reduceToInt, not_true_eq_false, not_false_eq_true, false_and, and_false, true_and, and_true, false_or, or_false, true_or, or_true] at hc37
  have := Int32.le_toInt p0; have := Int32.toInt_lt p0
  have := Int32.le_toInt p1; have := Int32.toInt_lt p1
  have := Int32.le_toInt p2; have := Int32.toInt_lt p2
  have := Int32.le_toInt p3; have := Int32.toInt_lt p3
  have := Int32.le_toInt v15; have := Int32.toInt_lt v15
  have := Int32.le_toInt v18; have := Int32.toInt_lt v18
  have := Int32.le_toInt v23; have := Int32.toInt_lt v23
  have := Int64.le_toInt v24; have := Int64.toInt_lt v24
  have := Int64.le_toInt v25; have := Int64.toInt_lt v25
  have := Int64.le_toInt v26; have := Int64.toInt_lt v26
  have := Int64.le_toInt v27; have := Int64.toInt_lt v27
  have bl1 := Int32.le_toInt ex1; have bu1 := Int32.toInt_lt ex1
  have fa1 := c_mask p1 (2147483647 : Int32) 31 (by decide) (by decide); rw [hex1] at fa1; try simp only [Int32.reduceToInt, Int64.reduceToInt] at fa1
  clear hex1
  have bl2 := Int32.le_toInt ex2; have bu2 := Int32.toInt_lt ex2
  have fa2 := c_mask p3 (1 : Int32) 1 (by decide) (by decide); rw [hex2] at fa2; try simp only [Int32.reduceToInt, Int64.reduceToInt] at fa2
  clear hex2
  have bl3 := Int32.le_toInt ex3; have bu3 := Int32.toInt_lt ex3
  have fa3 := c_mask p2 (7 : Int32) 3 (by decide) (by decide); rw [hex3] at fa3; try simp only [Int32.reduceToInt, Int64.reduceToInt] at fa3
  clear hex3
  have bl4 := Int32.le_toInt ex4; have bu4 := Int32.toInt_lt ex4
  have fa4 := c_mask p2 (2147483647 : Int32) 31 (by decide) (by decide); rw [hex4] at fa4; try simp only [Int32.reduceToInt, Int64.reduceToInt] at fa4
  clear hex4
  try simp only [Int32.lt_iff_toInt_lt, Int64.lt_iff_toInt_lt, ← Int32.toInt_inj, ← Int64.toInt_inj, Int32.reduceToInt, Int64.reduceToInt, not_true_eq_false, not_false_eq_true, false_and, and_false, true_and, and_true, false_or, or_false, true_or, or_true] at fc5
  try simp only [Int32.lt_iff_toInt_lt, Int64.lt_iff_toInt_lt, ← Int32.toInt_inj, ← Int64.toInt_inj, Int32.reduceToInt, Int64.reduceToInt, not_true_eq_false, not_false_eq_true, false_and, and_false, true_and, and_true, false_or, or_false, true_or, or_true] at fc6
  try simp only [Int32.lt_iff_toInt_lt, Int64.lt_iff_toInt_lt, ← Int32.toInt_inj, ← Int64.toInt_inj, Int32.reduceToInt, Int64.reduceToInt, not_true_eq_false, not_false_eq_true, false_and, and_false, true_and, and_true, false_or, or_false, true_or, or_true] at fc7
  have bl8 := Int32.le_toInt ex8; have bu8 := Int32.toInt_lt ex8
  have fa8 := c_isub v15 v18; rw [hex8] at fa8; try simp only [Int32.reduceToInt, Int64.reduceToInt] at fa8
  clear hex8
  have bl9 := Int64.le_toInt ex9; have bu9 := Int64.toInt_lt ex9
  have fa9 := c_i2l p0; rw [hex9] at fa9; try simp only [Int32.reduceToInt, Int64.reduceToInt] at fa9
  clear hex9
  have bl10 := Int64.le_toInt ex10; have bu10 := Int64.toInt_lt ex10
  have fa10 := c_i2l v15; rw [hex10] at fa10; try simp only [Int32.reduceToInt, Int64.reduceToInt] at fa10
  clear hex10
  have bl11 := Int64.le_toInt ex11; have bu11 := Int64.toInt_lt ex11
  have fa11 := c_i2l v18; rw [hex11] at fa11; try simp only [Int32.reduceToInt, Int64.reduceToInt] at fa11
  clear hex11
  have bl12 := Int64.le_toInt ex12; have bu12 := Int64.toInt_lt ex12
  have fa12 := c_i2l v23; rw [hex12] at fa12; try simp only [Int32.reduceToInt, Int64.reduceToInt] at fa12
  clear hex12
  all_goals omega
set_option maxRecDepth 65536 in
set_option maxHeartbeats 40000000 in
theorem own_leaf0_5 (p0 : Int32) (p1 : Int32) (p2 : Int32) (p3 : Int32) (v15 : Int32) (hv15 : v15 = (p1 &&& (2147483647 : Int32))) (v18 : Int32) (hv18 : v18 = (if (p3 &&& (1 : Int32)) = (0 : Int32) then (p2 &&& (2147483647 : Int32)) else (p2 &&& (7 : Int32)))) (v23 : Int32) (hv23 : v23 = (own_f1 p0 v15 v18)) (v24 : Int64) (hv24 : v24 = (p0.toInt64)) (v25 : Int64) (hv25 : v25 = (v15.toInt64)) (v26 : Int64) (hv26 : v26 = (v18.toInt64)) (v27 : Int64) (hv27 : v27 = (v23.toInt64)) (hc29 : v18 = (0 : Int32)) (hc31 : ¬ (v25 < v24)) (hc35 : ¬ (v27 < (0 : Int64))) (hc37 : ¬ (v27 < v24)) (hc39 : v25 < v27) : False := by
  have dv18 : ((p3 &&& (1 : Int32)) = (0 : Int32) ∧ (v18 = (p2 &&& (2147483647 : Int32)))) ∨ (¬ ((p3 &&& (1 : Int32)) = (0 : Int32)) ∧ (v18 = (p2 &&& (7 : Int32)))) := (if cq0 : (p3 &&& (1 : Int32)) = (0 : Int32) then Or.inl ⟨cq0, (by rw [hv18, if_pos cq0])⟩ else Or.inr ⟨cq0, (by rw [hv18, if_neg cq0])⟩)
  clear hv18
  generalize hex1 : (p1 &&& (2147483647 : Int32)) = ex1 at *
  generalize hex2 : (p3 &&& (1 : Int32)) = ex2 at *
  generalize hex3 : (p2 &&& (7 : Int32)) = ex3 at *
  generalize hex4 : (p2 &&& (2147483647 : Int32)) = ex4 at *
  have fc5 := own_f1_cases p0 v15 v18
  generalize own_f1 p0 v15 v18 = ex5 at *
  have fc6 := own_f2_cases p0 (0 : Int32)
  generalize own_f2 p0 (0 : Int32) = ex6 at *
  have fc7 := own_f3_cases ex6 v15
  generalize own_f3 ex6 v15 = ex7 at *
  generalize hex8 : (v15 - v18) = ex8 at *
  generalize hex9 : (p0.toInt64) = ex9 at *
  generalize hex10 : (v15.toInt64) = ex10 at *
  generalize hex11 : (v18.toInt64) = ex11 at *
  generalize hex12 : (v23.toInt64) = ex12 at *
  try simp only [Int32.lt_iff_toInt_lt, Int64.lt_iff_toInt_lt, ← Int32.toInt_inj, ← Int64.toInt_inj, Int32.reduceToInt, Int64.reduceToInt, not_true_eq_false, not_false_eq_true, false_and, and_false, true_and, and_true, false_or, or_false, true_or, or_true] at dv18
  try simp only [Int32.lt_iff_toInt_lt, Int64.lt_iff_toInt_lt, ← Int32.toInt_inj, ← Int64.toInt_inj, Int32.reduceToInt, Int64.reduceToInt, not_true_eq_false, not_false_eq_true, false_and, and_false, true_and, and_true, false_or, or_false, true_or, or_true] at hv15
  try simp only [Int32.lt_iff_toInt_lt, Int64.lt_iff_toInt_lt, ← Int32.toInt_inj, ← Int64.toInt_inj, Int32.reduceToInt, Int64.reduceToInt, not_true_eq_false, not_false_eq_true, false_and, and_false, true_and, and_true, false_or, or_false, true_or, or_true] at hv23
  try simp only [Int32.lt_iff_toInt_lt, Int64.lt_iff_toInt_lt, ← Int32.toInt_inj, ← Int64.toInt_inj, Int32.reduceToInt, Int64.reduceToInt, not_true_eq_false, not_false_eq_true, false_and, and_false, true_and, and_true, false_or, or_false, true_or, or_true] at hv24
  try simp only [Int32.lt_iff_toInt_lt, Int64.lt_iff_toInt_lt, ← Int32.toInt_inj, ← Int64.toInt_inj, Int32.reduceToInt, Int64.reduceToInt, not_true_eq_false, not_false_eq_true, false_and, and_false, true_and, and_true, false_or, or_false, true_or, or_true] at hv25
  try simp only [Int32.lt_iff_toInt_lt, Int64.lt_iff_toInt_lt, ← Int32.toInt_inj, ← Int64.toInt_inj, Int32.reduceToInt, Int64.reduceToInt, not_true_eq_false, not_false_eq_true, false_and, and_false, true_and, and_true, false_or, or_false, true_or, or_true] at hv26
  try simp only [Int32.lt_iff_toInt_lt, Int64.lt_iff_toInt_lt, ← Int32.toInt_inj, ← Int64.toInt_inj, Int32.reduceToInt, Int64.reduceToInt, not_true_eq_false, not_false_eq_true, false_and, and_false, true_and, and_true, false_or, or_false, true_or, or_true] at hv27
  try simp only [Int32.lt_iff_toInt_lt, Int64.lt_iff_toInt_lt, ← Int32.toInt_inj, ← Int64.toInt_inj, Int32.reduceToInt, Int64.reduceToInt, not_true_eq_false, not_false_eq_true, false_and, and_false, true_and, and_true, false_or, or_false, true_or, or_true] at hc29
  try simp only [Int32.lt_iff_toInt_lt, Int64.lt_iff_toInt_lt, ← Int32.toInt_inj, ← Int64.toInt_inj, Int32.reduceToInt, Int64.reduceToInt, not_true_eq_false, not_false_eq_true, false_and, and_false, true_and, and_true, false_or, or_false, true_or, or_true] at hc31
  try simp only [Int32.lt_iff_toInt_lt, Int64.lt_iff_toInt_lt, ← Int32.toInt_inj, ← Int64.toInt_inj, Int32.reduceToInt, Int64.reduceToInt, not_true_eq_false, not_false_eq_true, false_and, and_false, true_and, and_true, false_or, or_false, true_or, or_true] at hc35
  try simp only [Int32.lt_iff_toInt_lt, Int64.lt_iff_toInt_lt, ← Int32.toInt_inj, ← Int64.toInt_inj, Int32.reduceToInt, Int64.reduceToInt, not_true_eq_false, not_false_eq_true, false_and, and_false, true_and, and_true, false_or, or_false, true_or, or_true] at hc37
  try simp only [Int32.lt_iff_toInt_lt, Int64.lt_iff_toInt_lt, ← Int32.toInt_inj, ← Int64.toInt_inj, Int32.reduceToInt, Int64.reduceToInt, not_true_eq_false, not_false_eq_true, false_and, and_false, true_and, and_true, false_or, or_false, true_or, or_true] at hc39
  have := Int32.le_toInt p0; have := Int32.toInt_lt p0
  have := Int32.le_toInt p1; have := Int32.toInt_lt p1
  have := Int32.le_toInt p2; have := Int32.toInt_lt p2
  have := Int32.le_toInt p3; have := Int32.toInt_lt p3
  have := Int32.le_toInt v15; have := Int32.toInt_lt v15
  have := Int32.le_toInt v18; have := Int32.toInt_lt v18
  have := Int32.le_toInt v23; have := Int32.toInt_lt v23
  have := Int64.le_toInt v24; have := Int64.toInt_lt v24
  have := Int64.le_toInt v25; have := Int64.toInt_lt v25
  have := Int64.le_toInt v26; have := Int64.toInt_lt v26
  have := Int64.le_toInt v27; have := Int64.toInt_lt v27
  have bl1 := Int32.le_toInt ex1; have bu1 := Int32.toInt_lt ex1
  have fa1 := c_mask p1 (2147483647 : Int32) 31 (by decide) (by decide); rw [hex1] at fa1; try simp only [Int32.reduceToInt, Int64.reduceToInt] at fa1
  clear hex1
  have bl2 := Int32.le_toInt ex2; have bu2 := Int32.toInt_lt ex2
  have fa2 := c_mask p3 (1 : Int32) 1 (by decide) (by decide); rw [hex2] at fa2; try simp only [Int32.reduceToInt, Int64.reduceToInt] at fa2
  clear hex2
  have bl3 := Int32.le_toInt ex3; have bu3 := Int32.toInt_lt ex3
  have fa3 := c_mask p2 (7 : Int32) 3 (by decide) (by decide); rw [hex3] at fa3; try simp only [Int32.reduceToInt, Int64.reduceToInt] at fa3
  clear hex3
  have bl4 := Int32.le_toInt ex4; have bu4 := Int32.toInt_lt ex4
  have fa4 := c_mask p2 (2147483647 : Int32) 31 (by decide) (by decide); rw [hex4] at fa4; try simp only [Int32.reduceToInt, Int64.reduceToInt] at fa4
  clear hex4
  try simp only [Int32.lt_iff_toInt_lt, Int64.lt_iff_toInt_lt, ← Int32.toInt_inj, ← Int64.toInt_inj, Int32.reduceToInt, Int64.reduceToInt, not_true_eq_false, not_false_eq_true, false_and, and_false, true_and, and_true, false_or, or_false, true_or, or_true] at fc5
  try simp only [Int32.lt_iff_toInt_lt, Int64.lt_iff_toInt_lt, ← Int32.toInt_inj, ← Int64.toInt_inj, Int32.reduceToInt, Int64.reduceToInt, not_true_eq_false, not_false_eq_true, false_and, and_false, true_and, and_true, false_or, or_false, true_or, or_true] at fc6
  try simp only [Int32.lt_iff_toInt_lt, Int64.lt_iff_toInt_lt, ← Int32.toInt_inj, ← Int64.toInt_inj, Int32.reduceToInt, Int64.reduceToInt, not_true_eq_false, not_false_eq_true, false_and, and_false, true_and, and_true, false_or, or_false, true_or, or_true] at fc7
  have bl8 := Int32.le_toInt ex8; have bu8 := Int32.toInt_lt ex8
  have fa8 := c_isub v15 v18; rw [hex8] at fa8; try simp only [Int32.reduceToInt, Int64.reduceToInt] at fa8
  clear hex8
  have bl9 := Int64.le_toInt ex9; have bu9 := Int64.toInt_lt ex9
  have fa9 := c_i2l p0; rw [hex9] at fa9; try simp only [Int32.reduceToInt, Int64.reduceToInt] at fa9
  clear hex9
  have bl10 := Int64.le_toInt ex10; have bu10 := Int64.toInt_lt ex10
  have fa10 := c_i2l v15; rw [hex10] at fa10; try simp only [Int32.reduceToInt, Int64.reduceToInt] at fa10
  clear hex10
  have bl11 := Int64.le_toInt ex11; have bu11 := Int64.toInt_lt ex11
  have fa11 := c_i2l v18; rw [hex11] at fa11; try simp only [Int32.reduceToInt, Int64.reduceToInt] at fa11
  clear hex11
  have bl12 := Int64.le_toInt ex12; have bu12 := Int64.toInt_lt ex12
  have fa12 := c_i2l v23; rw [hex12] at fa12; try simp only [Int32.reduceToInt, Int64.reduceToInt] at fa12
  clear hex12
  all_goals omega
set_option maxRecDepth 65536 in
set_option maxHeartbeats 40000000 in
theorem own_leaf0_8 (p0 : Int32) (p1 : Int32) (p2 : Int32) (p3 : Int32) (v15 : Int32) (hv15 : v15 = (p1 &&& (2147483647 : Int32))) (v18 : Int32) (hv18 : v18 = (if (p3 &&& (1 : Int32)) = (0 : Int32) then (p2 &&& (2147483647 : Int32)) else (p2 &&& (7 : Int32)))) (v23 : Int32) (hv23 : v23 = (own_f1 p0 v15 v18)) (v24 : Int64) (hv24 : v24 = (p0.toInt64)) (v25 : Int64) (hv25 : v25 = (v15.toInt64)) (v26 : Int64) (hv26 : v26 = (v18.toInt64)) (v27 : Int64) (hv27 : v27 = (v23.toInt64)) (hc29 : v18 = (0 : Int32)) (hc31 : ¬ (v25 < v24)) (hc35 : ¬ (v27 < (0 : Int64))) (hc37 : ¬ (v27 < v24)) (hc39 : ¬ (v25 < v27)) (hc41 : ¬ (v27 = (0 : Int64))) (hc43 : ¬ ((v27 - (1 : Int64)) < v24)) : False := by
  have dv18 : ((p3 &&& (1 : Int32)) = (0 : Int32) ∧ (v18 = (p2 &&& (2147483647 : Int32)))) ∨ (¬ ((p3 &&& (1 : Int32)) = (0 : Int32)) ∧ (v18 = (p2 &&& (7 : Int32)))) := (if cq0 : (p3 &&& (1 : Int32)) = (0 : Int32) then Or.inl ⟨cq0, (by rw [hv18, if_pos cq0])⟩ else Or.inr ⟨cq0, (by rw [hv18, if_neg cq0])⟩)
  clear hv18
  generalize hex1 : (p1 &&& (2147483647 : Int32)) = ex1 at *
  generalize hex2 : (p3 &&& (1 : Int32)) = ex2 at *
  generalize hex3 : (p2 &&& (7 : Int32)) = ex3 at *
  generalize hex4 : (p2 &&& (2147483647 : Int32)) = ex4 at *
  have fc5 := own_f1_cases p0 v15 v18
  generalize own_f1 p0 v15 v18 = ex5 at *
  have fc6 := own_f2_cases p0 (0 : Int32)
  generalize own_f2 p0 (0 : Int32) = ex6 at *
  have fc7 := own_f3_cases ex6 v15
  generalize own_f3 ex6 v15 = ex7 at *
  generalize hex8 : (v15 - v18) = ex8 at *
  generalize hex9 : (p0.toInt64) = ex9 at *
  generalize hex10 : (v15.toInt64) = ex10 at *
  generalize hex11 : (v18.toInt64) = ex11 at *
  generalize hex12 : (v23.toInt64) = ex12 at *
  generalize hex13 : (v27 - (1 : Int64)) = ex13 at *
  try simp only [Int32.lt_iff_toInt_lt, Int64.lt_iff_toInt_lt, ← Int32.toInt_inj, ← Int64.toInt_inj, Int32.reduceToInt, Int64.reduceToInt, not_true_eq_false, not_false_eq_true, false_and, and_false, true_and, and_true, false_or, or_false, true_or, or_true] at dv18
  try simp only [Int32.lt_iff_toInt_lt, Int64.lt_iff_toInt_lt, ← Int32.toInt_inj, ← Int64.toInt_inj, Int32.reduceToInt, Int64.reduceToInt, not_true_eq_false, not_false_eq_true, false_and, and_false, true_and, and_true, false_or, or_false, true_or, or_true] at hv15
  try simp only [Int32.lt_iff_toInt_lt, Int64.lt_iff_toInt_lt, ← Int32.toInt_inj, ← Int64.toInt_inj, Int32.reduceToInt, Int64.reduceToInt, not_true_eq_false, not_false_eq_true, false_and, and_false, true_and, and_true, false_or, or_false, true_or, or_true] at hv23
  try simp only [Int32.lt_iff_toInt_lt, Int64.lt_iff_toInt_lt, ← Int32.toInt_inj, ← Int64.toInt_inj, Int32.reduceToInt, Int64.reduceToInt, not_true_eq_false, not_false_eq_true, false_and, and_false, true_and, and_true, false_or, or_false, true_or, or_true] at hv24
  try simp only [Int32.lt_iff_toInt_lt, Int64.lt_iff_toInt_lt, ← Int32.toInt_inj, ← Int64.toInt_inj, Int32.reduceToInt, Int64.reduceToInt, not_true_eq_false, not_false_eq_true, false_and, and_false, true_and, and_true, false_or, or_false, true_or, or_true] at hv25
  try simp only [Int32.lt_iff_toInt_lt, Int64.lt_iff_toInt_lt, ← Int32.toInt_inj, ← Int64.toInt_inj, Int32.reduceToInt, Int64.reduceToInt, not_true_eq_false, not_false_eq_true, false_and, and_false, true_and, and_true, false_or, or_false, true_or, or_true] at hv26
  try simp only [Int32.lt_iff_toInt_lt, Int64.lt_iff_toInt_lt, ← Int32.toInt_inj, ← Int64.toInt_inj, Int32.reduceToInt, Int64.reduceToInt, not_true_eq_false, not_false_eq_true, false_and, and_false, true_and, and_true, false_or, or_false, true_or, or_true] at hv27
  try simp only [Int32.lt_iff_toInt_lt, Int64.lt_iff_toInt_lt, ← Int32.toInt_inj, ← Int64.toInt_inj, Int32.reduceToInt, Int64.reduceToInt, not_true_eq_false, not_false_eq_true, false_and, and_false, true_and, and_true, false_or, or_false, true_or, or_true] at hc29
  try simp only [Int32.lt_iff_toInt_lt, Int64.lt_iff_toInt_lt, ← Int32.toInt_inj, ← Int64.toInt_inj, Int32.reduceToInt, Int64.reduceToInt, not_true_eq_false, not_false_eq_true, false_and, and_false, true_and, and_true, false_or, or_false, true_or, or_true] at hc31
  try simp only [Int32.lt_iff_toInt_lt, Int64.lt_iff_toInt_lt, ← Int32.toInt_inj, ← Int64.toInt_inj, Int32.reduceToInt, Int64.reduceToInt, not_true_eq_false, not_false_eq_true, false_and, and_false, true_and, and_true, false_or, or_false, true_or, or_true] at hc35
  try simp only [Int32.lt_iff_toInt_lt, Int64.lt_iff_toInt_lt, ← Int32.toInt_inj, ← Int64.toInt_inj, Int32.reduceToInt, Int64.reduceToInt, not_true_eq_false, not_false_eq_true, false_and, and_false, true_and, and_true, false_or, or_false, true_or, or_true] at hc37
  try simp only [Int32.lt_iff_toInt_lt, Int64.lt_iff_toInt_lt, ← Int32.toInt_inj, ← Int64.toInt_inj, Int32.reduceToInt, Int64.reduceToInt, not_true_eq_false, not_false_eq_true, false_and, and_false, true_and, and_true, false_or, or_false, true_or, or_true] at hc39
  try simp only [Int32.lt_iff_toInt_lt, Int64.lt_iff_toInt_lt, ← Int32.toInt_inj, ← Int64.toInt_inj, Int32.reduceToInt, Int64.reduceToInt, not_true_eq_false, not_false_eq_true, false_and, and_false, true_and, and_true, false_or, or_false, true_or, or_true] at hc41
  try simp only [Int32.lt_iff_toInt_lt, Int64.lt_iff_toInt_lt, ← Int32.toInt_inj, ← Int64.toInt_inj, Int32.reduceToInt, Int64.reduceToInt, not_true_eq_false, not_false_eq_true, false_and, and_false, true_and, and_true, false_or, or_false, true_or, or_true] at hc43
  have := Int32.le_toInt p0; have := Int32.toInt_lt p0
  have := Int32.le_toInt p1; have := Int32.toInt_lt p1
  have := Int32.le_toInt p2; have := Int32.toInt_lt p2
  have := Int32.le_toInt p3; have := Int32.toInt_lt p3
  have := Int32.le_toInt v15; have := Int32.toInt_lt v15
  have := Int32.le_toInt v18; have := Int32.toInt_lt v18
  have := Int32.le_toInt v23; have := Int32.toInt_lt v23
  have := Int64.le_toInt v24; have := Int64.toInt_lt v24
  have := Int64.le_toInt v25; have := Int64.toInt_lt v25
  have := Int64.le_toInt v26; have := Int64.toInt_lt v26
  have := Int64.le_toInt v27; have := Int64.toInt_lt v27
  have bl1 := Int32.le_toInt ex1; have bu1 := Int32.toInt_lt ex1
  have fa1 := c_mask p1 (2147483647 : Int32) 31 (by decide) (by decide); rw [hex1] at fa1; try simp only [Int32.reduceToInt, Int64.reduceToInt] at fa1
  clear hex1
  have bl2 := Int32.le_toInt ex2; have bu2 := Int32.toInt_lt ex2
  have fa2 := c_mask p3 (1 : Int32) 1 (by decide) (by decide); rw [hex2] at fa2; try simp only [Int32.reduceToInt, Int64.reduceToInt] at fa2
  clear hex2
  have bl3 := Int32.le_toInt ex3; have bu3 := Int32.toInt_lt ex3
  have fa3 := c_mask p2 (7 : Int32) 3 (by decide) (by decide); rw [hex3] at fa3; try simp only [Int32.reduceToInt, Int64.reduceToInt] at fa3
  clear hex3
  have bl4 := Int32.le_toInt ex4; have bu4 := Int32.toInt_lt ex4
  have fa4 := c_mask p2 (2147483647 : Int32) 31 (by decide) (by decide); rw [hex4] at fa4; try simp only [Int32.reduceToInt, Int64.reduceToInt] at fa4
  clear hex4
  try simp only [Int32.lt_iff_toInt_lt, Int64.lt_iff_toInt_lt, ← Int32.toInt_inj, ← Int64.toInt_inj, Int32.reduceToInt, Int64.reduceToInt, not_true_eq_false, not_false_eq_true, false_and, and_false, true_and, and_true, false_or, or_false, true_or, or_true] at fc5
  try simp only [Int32.lt_iff_toInt_lt, Int64.lt_iff_toInt_lt, ← Int32.toInt_inj, ← Int64.toInt_inj, Int32.reduceToInt, Int64.reduceToInt, not_true_eq_false, not_false_eq_true, false_and, and_false, true_and, and_true, false_or, or_false, true_or, or_true] at fc6
  try simp only [Int32.lt_iff_toInt_lt, Int64.lt_iff_toInt_lt, ← Int32.toInt_inj, ← Int64.toInt_inj, Int32.reduceToInt, Int64.reduceToInt, not_true_eq_false, not_false_eq_true, false_and, and_false, true_and, and_true, false_or, or_false, true_or, or_true] at fc7
  have bl8 := Int32.le_toInt ex8; have bu8 := Int32.toInt_lt ex8
  have fa8 := c_isub v15 v18; rw [hex8] at fa8; try simp only [Int32.reduceToInt, Int64.reduceToInt] at fa8
  clear hex8
  have bl9 := Int64.le_toInt ex9; have bu9 := Int64.toInt_lt ex9
  have fa9 := c_i2l p0; rw [hex9] at fa9; try simp only [Int32.reduceToInt, Int64.reduceToInt] at fa9
  clear hex9
  have bl10 := Int64.le_toInt ex10; have bu10 := Int64.toInt_lt ex10
  have fa10 := c_i2l v15; rw [hex10] at fa10; try simp only [Int32.reduceToInt, Int64.reduceToInt] at fa10
  clear hex10
  have bl11 := Int64.le_toInt ex11; have bu11 := Int64.toInt_lt ex11
  have fa11 := c_i2l v18; rw [hex11] at fa11; try simp only [Int32.reduceToInt, Int64.reduceToInt] at fa11
  clear hex11
  have bl12 := Int64.le_toInt ex12; have bu12 := Int64.toInt_lt ex12
  have fa12 := c_i2l v23; rw [hex12] at fa12; try simp only [Int32.reduceToInt, Int64.reduceToInt] at fa12
  clear hex12
  have bl13 := Int64.le_toInt ex13; have bu13 := Int64.toInt_lt ex13
  have fa13 := c_lsub v27 (1 : Int64); rw [hex13] at fa13; try simp only [Int32.reduceToInt, Int64.reduceToInt] at fa13
  clear hex13
  all_goals omega
set_option maxRecDepth 65536 in
set_option maxHeartbeats 40000000 in
theorem own_leaf0_10 (p0 : Int32) (p1 : Int32) (p2 : Int32) (p3 : Int32) (v15 : Int32) (hv15 : v15 = (p1 &&& (2147483647 : Int32))) (v18 : Int32) (hv18 : v18 = (if (p3 &&& (1 : Int32)) = (0 : Int32) then (p2 &&& (2147483647 : Int32)) else (p2 &&& (7 : Int32)))) (v23 : Int32) (hv23 : v23 = (own_f1 p0 v15 v18)) (v24 : Int64) (hv24 : v24 = (p0.toInt64)) (v25 : Int64) (hv25 : v25 = (v15.toInt64)) (v26 : Int64) (hv26 : v26 = (v18.toInt64)) (v27 : Int64) (hv27 : v27 = (v23.toInt64)) (hc29 : ¬ (v18 = (0 : Int32))) (hc45 : v25 < v26) (hc47 : ¬ (v23 = (-1 : Int32))) (hc49 : v27 < (0 : Int64)) (hc51 : v27 = (0 : Int64)) : False := by
  have dv18 : ((p3 &&& (1 : Int32)) = (0 : Int32) ∧ (v18 = (p2 &&& (2147483647 : Int32)))) ∨ (¬ ((p3 &&& (1 : Int32)) = (0 : Int32)) ∧ (v18 = (p2 &&& (7 : Int32)))) := (if cq0 : (p3 &&& (1 : Int32)) = (0 : Int32) then Or.inl ⟨cq0, (by rw [hv18, if_pos cq0])⟩ else Or.inr ⟨cq0, (by rw [hv18, if_neg cq0])⟩)
  clear hv18
  generalize hex1 : (p1 &&& (2147483647 : Int32)) = ex1 at *
  generalize hex2 : (p3 &&& (1 : Int32)) = ex2 at *
  generalize hex3 : (p2 &&& (7 : Int32)) = ex3 at *
  generalize hex4 : (p2 &&& (2147483647 : Int32)) = ex4 at *
  have fc5 := own_f1_cases p0 v15 v18
  generalize own_f1 p0 v15 v18 = ex5 at *
  have fc6 := own_f2_cases p0 (0 : Int32)
  generalize own_f2 p0 (0 : Int32) = ex6 at *
  have fc7 := own_f3_cases ex6 v15
  generalize own_f3 ex6 v15 = ex7 at *
  generalize hex8 : (v15 - v18) = ex8 at *
  generalize hex9 : (p0.toInt64) = ex9 at *
  generalize hex10 : (v15.toInt64) = ex10 at *
  generalize hex11 : (v18.toInt64) = ex11 at *
  generalize hex12 : (v23.toInt64) = ex12 at *
  try simp only [Int32.lt_iff_toInt_lt, Int64.lt_iff_toInt_lt, ← Int32.toInt_inj, ← Int64.toInt_inj, Int32.reduceToInt, Int64.reduceToInt, not_true_eq_false, not_false_eq_true, false_and, and_false, true_and, and_true, false_or, or_false, true_or, or_true] at dv18
  try simp only [Int32.lt_iff_toInt_lt, Int64.lt_iff_toInt_lt, ← Int32.toInt_inj, ← Int64.toInt_inj, Int32.reduceToInt, Int64.reduceToInt, not_true_eq_false, not_false_eq_true, false_and, and_false, true_and, and_true, false_or, or_false, true_or, or_true] at hv15
  try simp only [Int32.lt_iff_toInt_lt, Int64.lt_iff_toInt_lt, ← Int32.toInt_inj, ← Int64.toInt_inj, Int32.reduceToInt, Int64.reduceToInt, not_true_eq_false, not_false_eq_true, false_and, and_false, true_and, and_true, false_or, or_false, true_or, or_true] at hv23
  try simp only [Int32.lt_iff_toInt_lt, Int64.lt_iff_toInt_lt, ← Int32.toInt_inj, ← Int64.toInt_inj, Int32.reduceToInt, Int64.reduceToInt, not_true_eq_false, not_false_eq_true, false_and, and_false, true_and, and_true, false_or, or_false, true_or, or_true] at hv24
  try simp only [Int32.lt_iff_toInt_lt, Int64.lt_iff_toInt_lt, ← Int32.toInt_inj, ← Int64.toInt_inj, Int32.reduceToInt, Int64.reduceToInt, not_true_eq_false, not_false_eq_true, false_and, and_false, true_and, and_true, false_or, or_false, true_or, or_true] at hv25
  try simp only [Int32.lt_iff_toInt_lt, Int64.lt_iff_toInt_lt, ← Int32.toInt_inj, ← Int64.toInt_inj, Int32.reduceToInt, Int64.reduceToInt, not_true_eq_false, not_false_eq_true, false_and, and_false, true_and, and_true, false_or, or_false, true_or, or_true] at hv26
  try simp only [Int32.lt_iff_toInt_lt, Int64.lt_iff_toInt_lt, ← Int32.toInt_inj, ← Int64.toInt_inj, Int32.reduceToInt, Int64.reduceToInt, not_true_eq_false, not_false_eq_true, false_and, and_false, true_and, and_true, false_or, or_false, true_or, or_true] at hv27
  try simp only [Int32.lt_iff_toInt_lt, Int64.lt_iff_toInt_lt, ← Int32.toInt_inj, ← Int64.toInt_inj, Int32.reduceToInt, Int64.reduceToInt, not_true_eq_false, not_false_eq_true, false_and, and_false, true_and, and_true, false_or, or_false, true_or, or_true] at hc29
  try simp only [Int32.lt_iff_toInt_lt, Int64.lt_iff_toInt_lt, ← Int32.toInt_inj, ← Int64.toInt_inj, Int32.reduceToInt, Int64.reduceToInt, not_true_eq_false, not_false_eq_true, false_and, and_false, true_and, and_true, false_or, or_false, true_or, or_true] at hc45
  try simp only [Int32.lt_iff_toInt_lt, Int64.lt_iff_toInt_lt, ← Int32.toInt_inj, ← Int64.toInt_inj, Int32.reduceToInt, Int64.reduceToInt, not_true_eq_false, not_false_eq_true, false_and, and_false, true_and, and_true, false_or, or_false, true_or, or_true] at hc47
  try simp only [Int32.lt_iff_toInt_lt, Int64.lt_iff_toInt_lt, ← Int32.toInt_inj, ← Int64.toInt_inj, Int32.reduceToInt, Int64.reduceToInt, not_true_eq_false, not_false_eq_true, false_and, and_false, true_and, and_true, false_or, or_false, true_or, or_true] at hc49
  try simp only [Int32.lt_iff_toInt_lt, Int64.lt_iff_toInt_lt, ← Int32.toInt_inj, ← Int64.toInt_inj, Int32.reduceToInt, Int64.reduceToInt, not_true_eq_false, not_false_eq_true, false_and, and_false, true_and, and_true, false_or, or_false, true_or, or_true] at hc51
  have := Int32.le_toInt p0; have := Int32.toInt_lt p0
  have := Int32.le_toInt p1; have := Int32.toInt_lt p1
  have := Int32.le_toInt p2; have := Int32.toInt_lt p2
  have := Int32.le_toInt p3; have := Int32.toInt_lt p3
  have := Int32.le_toInt v15; have := Int32.toInt_lt v15
  have := Int32.le_toInt v18; have := Int32.toInt_lt v18
  have := Int32.le_toInt v23; have := Int32.toInt_lt v23
  have := Int64.le_toInt v24; have := Int64.toInt_lt v24
  have := Int64.le_toInt v25; have := Int64.toInt_lt v25
  have := Int64.le_toInt v26; have := Int64.toInt_lt v26
  have := Int64.le_toInt v27; have := Int64.toInt_lt v27
  have bl1 := Int32.le_toInt ex1; have bu1 := Int32.toInt_lt ex1
  have fa1 := c_mask p1 (2147483647 : Int32) 31 (by decide) (by decide); rw [hex1] at fa1; try simp only [Int32.reduceToInt, Int64.reduceToInt] at fa1
  clear hex1
  have bl2 := Int32.le_toInt ex2; have bu2 := Int32.toInt_lt ex2
  have fa2 := c_mask p3 (1 : Int32) 1 (by decide) (by decide); rw [hex2] at fa2; try simp only [Int32.reduceToInt, Int64.reduceToInt] at fa2
  clear hex2
  have bl3 := Int32.le_toInt ex3; have bu3 := Int32.toInt_lt ex3
  have fa3 := c_mask p2 (7 : Int32) 3 (by decide) (by decide); rw [hex3] at fa3; try simp only [Int32.reduceToInt, Int64.reduceToInt] at fa3
  clear hex3
  have bl4 := Int32.le_toInt ex4; have bu4 := Int32.toInt_lt ex4
  have fa4 := c_mask p2 (2147483647 : Int32) 31 (by decide) (by decide); rw [hex4] at fa4; try simp only [Int32.reduceToInt, Int64.reduceToInt] at fa4
  clear hex4
  try simp only [Int32.lt_iff_toInt_lt, Int64.lt_iff_toInt_lt, ← Int32.toInt_inj, ← Int64.toInt_inj, Int32.reduceToInt, Int64.reduceToInt, not_true_eq_false, not_false_eq_true, false_and, and_false, true_and, and_true, false_or, or_false, true_or, or_true] at fc5
  try simp only [Int32.lt_iff_toInt_lt, Int64.lt_iff_toInt_lt, ← Int32.toInt_inj, ← Int64.toInt_inj, Int32.reduceToInt, Int64.reduceToInt, not_true_eq_false, not_false_eq_true, false_and, and_false, true_and, and_true, false_or, or_false, true_or, or_true] at fc6
  try simp only [Int32.lt_iff_toInt_lt, Int64.lt_iff_toInt_lt, ← Int32.toInt_inj, ← Int64.toInt_inj, Int32.reduceToInt, Int64.reduceToInt, not_true_eq_false, not_false_eq_true, false_and, and_false, true_and, and_true, false_or, or_false, true_or, or_true] at fc7
  have bl8 := Int32.le_toInt ex8; have bu8 := Int32.toInt_lt ex8
  have fa8 := c_isub v15 v18; rw [hex8] at fa8; try simp only [Int32.reduceToInt, Int64.reduceToInt] at fa8
  clear hex8
  have bl9 := Int64.le_toInt ex9; have bu9 := Int64.toInt_lt ex9
  have fa9 := c_i2l p0; rw [hex9] at fa9; try simp only [Int32.reduceToInt, Int64.reduceToInt] at fa9
  clear hex9
  have bl10 := Int64.le_toInt ex10; have bu10 := Int64.toInt_lt ex10
  have fa10 := c_i2l v15; rw [hex10] at fa10; try simp only [Int32.reduceToInt, Int64.reduceToInt] at fa10
  clear hex10
  have bl11 := Int64.le_toInt ex11; have bu11 := Int64.toInt_lt ex11
  have fa11 := c_i2l v18; rw [hex11] at fa11; try simp only [Int32.reduceToInt, Int64.reduceToInt] at fa11
  clear hex11
  have bl12 := Int64.le_toInt ex12; have bu12 := Int64.toInt_lt ex12
  have fa12 := c_i2l v23; rw [hex12] at fa12; try simp only [Int32.reduceToInt, Int64.reduceToInt] at fa12
  clear hex12
  all_goals omega
set_option maxRecDepth 65536 in
set_option maxHeartbeats 40000000 in
theorem own_leaf0_11 (p0 : Int32) (p1 : Int32) (p2 : Int32) (p3 : Int32) (v15 : Int32) (hv15 : v15 = (p1 &&& (2147483647 : Int32))) (v18 : Int32) (hv18 : v18 = (if (p3 &&& (1 : Int32)) = (0 : Int32) then (p2 &&& (2147483647 : Int32)) else (p2 &&& (7 : Int32)))) (v23 : Int32) (hv23 : v23 = (own_f1 p0 v15 v18)) (v24 : Int64) (hv24 : v24 = (p0.toInt64)) (v25 : Int64) (hv25 : v25 = (v15.toInt64)) (v26 : Int64) (hv26 : v26 = (v18.toInt64)) (v27 : Int64) (hv27 : v27 = (v23.toInt64)) (hc29 : ¬ (v18 = (0 : Int32))) (hc45 : v25 < v26) (hc47 : ¬ (v23 = (-1 : Int32))) (hc49 : v27 < (0 : Int64)) (hc51 : ¬ (v27 = (0 : Int64))) (hc53 : (v27 - (1 : Int64)) < v24) : False := by
  have dv18 : ((p3 &&& (1 : Int32)) = (0 : Int32) ∧ (v18 = (p2 &&& (2147483647 : Int32)))) ∨ (¬ ((p3 &&& (1 : Int32)) = (0 : Int32)) ∧ (v18 = (p2 &&& (7 : Int32)))) := (if cq0 : (p3 &&& (1 : Int32)) = (0 : Int32) then Or.inl ⟨cq0, (by rw [hv18, if_pos cq0])⟩ else Or.inr ⟨cq0, (by rw [hv18, if_neg cq0])⟩)
  clear hv18
  generalize hex1 : (p1 &&& (2147483647 : Int32)) = ex1 at *
  generalize hex2 : (p3 &&& (1 : Int32)) = ex2 at *
  generalize hex3 : (p2 &&& (7 : Int32)) = ex3 at *
  generalize hex4 : (p2 &&& (2147483647 : Int32)) = ex4 at *
  have fc5 := own_f1_cases p0 v15 v18
  generalize own_f1 p0 v15 v18 = ex5 at *
  have fc6 := own_f2_cases p0 (0 : Int32)
  generalize own_f2 p0 (0 : Int32) = ex6 at *
  have fc7 := own_f3_cases ex6 v15
  generalize own_f3 ex6 v15 = ex7 at *
  generalize hex8 : (v15 - v18) = ex8 at *
  generalize hex9 : (p0.toInt64) = ex9 at *
  generalize hex10 : (v15.toInt64) = ex10 at *
  generalize hex11 : (v18.toInt64) = ex11 at *
  generalize hex12 : (v23.toInt64) = ex12 at *
  generalize hex13 : (v27 - (1 : Int64)) = ex13 at *
  try simp only [Int32.lt_iff_toInt_lt, Int64.lt_iff_toInt_lt, ← Int32.toInt_inj, ← Int64.toInt_inj, Int32.reduceToInt, Int64.reduceToInt, not_true_eq_false, not_false_eq_true, false_and, and_false, true_and, and_true, false_or, or_false, true_or, or_true] at dv18
  try simp only [Int32.lt_iff_toInt_lt, Int64.lt_iff_toInt_lt, ← Int32.toInt_inj, ← Int64.toInt_inj, Int32.reduceToInt, Int64.reduceToInt, not_true_eq_false, not_false_eq_true, false_and, and_false, true_and, and_true, false_or, or_false, true_or, or_true] at hv15
  try simp only [Int32.lt_iff_toInt_lt, Int64.lt_iff_toInt_lt, ← Int32.toInt_inj, ← Int64.toInt_inj, Int32.reduceToInt, Int64.reduceToInt, not_true_eq_false, not_false_eq_true, false_and, and_false, true_and, and_true, false_or, or_false, true_or, or_true] at hv23
  try simp only [Int32.lt_iff_toInt_lt, Int64.lt_iff_toInt_lt, ← Int32.toInt_inj, ← Int64.toInt_inj, Int32.reduceToInt, Int64.reduceToInt, not_true_eq_false, not_false_eq_true, false_and, and_false, true_and, and_true, false_or, or_false, true_or, or_true] at hv24
  try simp only [Int32.lt_iff_toInt_lt, Int64.lt_iff_toInt_lt, ← Int32.toInt_inj, ← Int64.toInt_inj, Int32.reduceToInt, Int64.reduceToInt, not_true_eq_false, not_false_eq_true, false_and, and_false, true_and, and_true, false_or, or_false, true_or, or_true] at hv25
  try simp only [Int32.lt_iff_toInt_lt, Int64.lt_iff_toInt_lt, ← Int32.toInt_inj, ← Int64.toInt_inj, Int32.reduceToInt, Int64.reduceToInt, not_true_eq_false, not_false_eq_true, false_and, and_false, true_and, and_true, false_or, or_false, true_or, or_true] at hv26
  try simp only [Int32.lt_iff_toInt_lt, Int64.lt_iff_toInt_lt, ← Int32.toInt_inj, ← Int64.toInt_inj, Int32.reduceToInt, Int64.reduceToInt, not_true_eq_false, not_false_eq_true, false_and, and_false, true_and, and_true, false_or, or_false, true_or, or_true] at hv27
  try simp only [Int32.lt_iff_toInt_lt, Int64.lt_iff_toInt_lt, ← Int32.toInt_inj, ← Int64.toInt_inj, Int32.reduceToInt, Int64.reduceToInt, not_true_eq_false, not_false_eq_true, false_and, and_false, true_and, and_true, false_or, or_false, true_or, or_true] at hc29
  try simp only [Int32.lt_iff_toInt_lt, Int64.lt_iff_toInt_lt, ← Int32.toInt_inj, ← Int64.toInt_inj, Int32.reduceToInt, Int64.reduceToInt, not_true_eq_false, not_false_eq_true, false_and, and_false, true_and, and_true, false_or, or_false, true_or, or_true] at hc45
  try simp only [Int32.lt_iff_toInt_lt, Int64.lt_iff_toInt_lt, ← Int32.toInt_inj, ← Int64.toInt_inj, Int32.reduceToInt, Int64.reduceToInt, not_true_eq_false, not_false_eq_true, false_and, and_false, true_and, and_true, false_or, or_false, true_or, or_true] at hc47
  try simp only [Int32.lt_iff_toInt_lt, Int64.lt_iff_toInt_lt, ← Int32.toInt_inj, ← Int64.toInt_inj, Int32.reduceToInt, Int64.reduceToInt, not_true_eq_false, not_false_eq_true, false_and, and_false, true_and, and_true, false_or, or_false, true_or, or_true] at hc49
  try simp only [Int32.lt_iff_toInt_lt, Int64.lt_iff_toInt_lt, ← Int32.toInt_inj, ← Int64.toInt_inj, Int32.reduceToInt, Int64.reduceToInt, not_true_eq_false, not_false_eq_true, false_and, and_false, true_and, and_true, false_or, or_false, true_or, or_true] at hc51
  try simp only [Int32.lt_iff_toInt_lt, Int64.lt_iff_toInt_lt, ← Int32.toInt_inj, ← Int64.toInt_inj, Int32.reduceToInt, Int64.reduceToInt, not_true_eq_false, not_false_eq_true, false_and, and_false, true_and, and_true, false_or, or_false, true_or, or_true] at hc53
  have := Int32.le_toInt p0; have := Int32.toInt_lt p0
  have := Int32.le_toInt p1; have := Int32.toInt_lt p1
  have := Int32.le_toInt p2; have := Int32.toInt_lt p2
  have := Int32.le_toInt p3; have := Int32.toInt_lt p3
  have := Int32.le_toInt v15; have := Int32.toInt_lt v15
  have := Int32.le_toInt v18; have := Int32.toInt_lt v18
  have := Int32.le_toInt v23; have := Int32.toInt_lt v23
  have := Int64.le_toInt v24; have := Int64.toInt_lt v24
  have := Int64.le_toInt v25; have := Int64.toInt_lt v25
  have := Int64.le_toInt v26; have := Int64.toInt_lt v26
  have := Int64.le_toInt v27; have := Int64.toInt_lt v27
  have bl1 := Int32.le_toInt ex1; have bu1 := Int32.toInt_lt ex1
  have fa1 := c_mask p1 (2147483647 : Int32) 31 (by decide) (by decide); rw [hex1] at fa1; try simp only [Int32.reduceToInt, Int64.reduceToInt] at fa1
  clear hex1
  have bl2 := Int32.le_toInt ex2; have bu2 := Int32.toInt_lt ex2
  have fa2 := c_mask p3 (1 : Int32) 1 (by decide) (by decide); rw [hex2] at fa2; try simp only [Int32.reduceToInt, Int64.reduceToInt] at fa2
  clear hex2
  have bl3 := Int32.le_toInt ex3; have bu3 := Int32.toInt_lt ex3
  have fa3 := c_mask p2 (7 : Int32) 3 (by decide) (by decide); rw [hex3] at fa3; try simp only [Int32.reduceToInt, Int64.reduceToInt] at fa3
  clear hex3
  have bl4 := Int32.le_toInt ex4; have bu4 := Int32.toInt_lt ex4
  have fa4 := c_mask p2 (2147483647 : Int32) 31 (by decide) (by decide); rw [hex4] at fa4; try simp only [Int32.reduceToInt, Int64.reduceToInt] at fa4
  clear hex4
  try simp only [Int32.lt_iff_toInt_lt, Int64.lt_iff_toInt_lt, ← Int32.toInt_inj, ← Int64.toInt_inj, Int32.reduceToInt, Int64.reduceToInt, not_true_eq_false, not_false_eq_true, false_and, and_false, true_and, and_true, false_or, or_false, true_or, or_true] at fc5
  try simp only [Int32.lt_iff_toInt_lt, Int64.lt_iff_toInt_lt, ← Int32.toInt_inj, ← Int64.toInt_inj, Int32.reduceToInt, Int64.reduceToInt, not_true_eq_false, not_false_eq_true, false_and, and_false, true_and, and_true, false_or, or_false, true_or, or_true] at fc6
  try simp only [Int32.lt_iff_toInt_lt, Int64.lt_iff_toInt_lt, ← Int32.toInt_inj, ← Int64.toInt_inj, Int32.reduceToInt, Int64.reduceToInt, not_true_eq_false, not_false_eq_true, false_and, and_false, true_and, and_true, false_or, or_false, true_or, or_true] at fc7
  have bl8 := Int32.le_toInt ex8; have bu8 := Int32.toInt_lt ex8
  have fa8 := c_isub v15 v18; rw [hex8] at fa8; try simp only [Int32.reduceToInt, Int64.reduceToInt] at fa8
  clear hex8
  have bl9 := Int64.le_toInt ex9; have bu9 := Int64.toInt_lt ex9
  have fa9 := c_i2l p0; rw [hex9] at fa9; try simp only [Int32.reduceToInt, Int64.reduceToInt] at fa9
  clear hex9
  have bl10 := Int64.le_toInt ex10; have bu10 := Int64.toInt_lt ex10
  have fa10 := c_i2l v15; rw [hex10] at fa10; try simp only [Int32.reduceToInt, Int64.reduceToInt] at fa10
  clear hex10
  have bl11 := Int64.le_toInt ex11; have bu11 := Int64.toInt_lt ex11
  have fa11 := c_i2l v18; rw [hex11] at fa11; try simp only [Int32.reduceToInt, Int64.reduceToInt] at fa11
  clear hex11
  have bl12 := Int64.le_toInt ex12; have bu12 := Int64.toInt_lt ex12
  have fa12 := c_i2l v23; rw [hex12] at fa12; try simp only [Int32.reduceToInt, Int64.reduceToInt] at fa12
  clear hex12
  have bl13 := Int64.le_toInt ex13; have bu13 := Int64.toInt_lt ex13
  have fa13 := c_lsub v27 (1 : Int64); rw [hex13] at fa13; try simp only [Int32.reduceToInt, Int64.reduceToInt] at fa13
  clear hex13
  all_goals omega
set_option maxRecDepth 65536 in
set_option maxHeartbeats 40000000 in
theorem own_leaf0_12 (p0 : Int32) (p1 : Int32) (p2 : Int32) (p3 : Int32) (v15 : Int32) (hv15 : v15 = (p1 &&& (2147483647 : Int32))) (v18 : Int32) (hv18 : v18 = (if (p3 &&& (1 : Int32)) = (0 : Int32) then (p2 &&& (2147483647 : Int32)) else (p2 &&& (7 : Int32)))) (v23 : Int32) (hv23 : v23 = (own_f1 p0 v15 v18)) (v24 : Int64) (hv24 : v24 = (p0.toInt64)) (v25 : Int64) (hv25 : v25 = (v15.toInt64)) (v26 : Int64) (hv26 : v26 = (v18.toInt64)) (v27 : Int64) (hv27 : v27 = (v23.toInt64)) (hc29 : ¬ (v18 = (0 : Int32))) (hc45 : v25 < v26) (hc47 : ¬ (v23 = (-1 : Int32))) (hc49 : v27 < (0 : Int64)) (hc51 : ¬ (v27 = (0 : Int64))) (hc53 : ¬ ((v27 - (1 : Int64)) < v24)) : False := by
  have dv18 : ((p3 &&& (1 : Int32)) = (0 : Int32) ∧ (v18 = (p2 &&& (2147483647 : Int32)))) ∨ (¬ ((p3 &&& (1 : Int32)) = (0 : Int32)) ∧ (v18 = (p2 &&& (7 : Int32)))) := (if cq0 : (p3 &&& (1 : Int32)) = (0 : Int32) then Or.inl ⟨cq0, (by rw [hv18, if_pos cq0])⟩ else Or.inr ⟨cq0, (by rw [hv18, if_neg cq0])⟩)
  clear hv18
  generalize hex1 : (p1 &&& (2147483647 : Int32)) = ex1 at *
  generalize hex2 : (p3 &&& (1 : Int32)) = ex2 at *
  generalize hex3 : (p2 &&& (7 : Int32)) = ex3 at *
  generalize hex4 : (p2 &&& (2147483647 : Int32)) = ex4 at *
  have fc5 := own_f1_cases p0 v15 v18
  generalize own_f1 p0 v15 v18 = ex5 at *
  have fc6 := own_f2_cases p0 (0 : Int32)
  generalize own_f2 p0 (0 : Int32) = ex6 at *
  have fc7 := own_f3_cases ex6 v15
  generalize own_f3 ex6 v15 = ex7 at *
  generalize hex8 : (v15 - v18) = ex8 at *
  generalize hex9 : (p0.toInt64) = ex9 at *
  generalize hex10 : (v15.toInt64) = ex10 at *
  generalize hex11 : (v18.toInt64) = ex11 at *
  generalize hex12 : (v23.toInt64) = ex12 at *
  generalize hex13 : (v27 - (1 : Int64)) = ex13 at *
  try simp only [Int32.lt_iff_toInt_lt, Int64.lt_iff_toInt_lt, ← Int32.toInt_inj, ← Int64.toInt_inj, Int32.reduceToInt, Int64.reduceToInt, not_true_eq_false, not_false_eq_true, false_and, and_false, true_and, and_true, false_or, or_false, true_or, or_true] at dv18
  try simp only [Int32.lt_iff_toInt_lt, Int64.lt_iff_toInt_lt, ← Int32.toInt_inj, ← Int64.toInt_inj, Int32.reduceToInt, Int64.reduceToInt, not_true_eq_false, not_false_eq_true, false_and, and_false, true_and, and_true, false_or, or_false, true_or, or_true] at hv15
  try simp only [Int32.lt_iff_toInt_lt, Int64.lt_iff_toInt_lt, ← Int32.toInt_inj, ← Int64.toInt_inj, Int32.reduceToInt, Int64.reduceToInt, not_true_eq_false, not_false_eq_true, false_and, and_false, true_and, and_true, false_or, or_false, true_or, or_true] at hv23
  try simp only [Int32.lt_iff_toInt_lt, Int64.lt_iff_toInt_lt, ← Int32.toInt_inj, ← Int64.toInt_inj, Int32.reduceToInt, Int64.reduceToInt, not_true_eq_false, not_false_eq_true, false_and, and_false, true_and, and_true, false_or, or_false, true_or, or_true] at hv24
  try simp only [Int32.lt_iff_toInt_lt, Int64.lt_iff_toInt_lt, ← Int32.toInt_inj, ← Int64.toInt_inj, Int32.reduceToInt, Int64.reduceToInt, not_true_eq_false, not_false_eq_true, false_and, and_false, true_and, and_true, false_or, or_false, true_or, or_true] at hv25
  try simp only [Int32.lt_iff_toInt_lt, Int64.lt_iff_toInt_lt, ← Int32.toInt_inj, ← Int64.toInt_inj, Int32.reduceToInt, Int64.reduceToInt, not_true_eq_false, not_false_eq_true, false_and, and_false, true_and, and_true, false_or, or_false, true_or, or_true] at hv26
  try simp only [Int32.lt_iff_toInt_lt, Int64.lt_iff_toInt_lt, ← Int32.toInt_inj, ← Int64.toInt_inj, Int32.reduceToInt, Int64.reduceToInt, not_true_eq_false, not_false_eq_true, false_and, and_false, true_and, and_true, false_or, or_false, true_or, or_true] at hv27
  try simp only [Int32.lt_iff_toInt_lt, Int64.lt_iff_toInt_lt, ← Int32.toInt_inj, ← Int64.toInt_inj, Int32.reduceToInt, Int64.reduceToInt, not_true_eq_false, not_false_eq_true, false_and, and_false, true_and, and_true, false_or, or_false, true_or, or_true] at hc29
  try simp only [Int32.lt_iff_toInt_lt, Int64.lt_iff_toInt_lt, ← Int32.toInt_inj, ← Int64.toInt_inj, Int32.reduceToInt, Int64.reduceToInt, not_true_eq_false, not_false_eq_true, false_and, and_false, true_and, and_true, false_or, or_false, true_or, or_true] at hc45
  try simp only [Int32.lt_iff_toInt_lt, Int64.lt_iff_toInt_lt, ← Int32.toInt_inj, ← Int64.toInt_inj, Int32.reduceToInt, Int64.reduceToInt, not_true_eq_false, not_false_eq_true, false_and, and_false, true_and, and_true, false_or, or_false, true_or, or_true] at hc47
  try simp only [Int32.lt_iff_toInt_lt, Int64.lt_iff_toInt_lt, ← Int32.toInt_inj, ← Int64.toInt_inj, Int32.reduceToInt, Int64.reduceToInt, not_true_eq_false, not_false_eq_true, false_and, and_false, true_and, and_true, false_or, or_false, true_or, or_true] at hc49
  try simp only [Int32.lt_iff_toInt_lt, Int64.lt_iff_toInt_lt, ← Int32.toInt_inj, ← Int64.toInt_inj, Int32.reduceToInt, Int64.reduceToInt, not_true_eq_false, not_false_eq_true, false_and, and_false, true_and, and_true, false_or, or_false, true_or, or_true] at hc51
  try simp only [Int32.lt_iff_toInt_lt, Int64.lt_iff_toInt_lt, ← Int32.toInt_inj, ← Int64.toInt_inj, Int32.reduceToInt, Int64.reduceToInt, not_true_eq_false, not_false_eq_true, false_and, and_false, true_and, and_true, false_or, or_false, true_or, or_true] at hc53
  have := Int32.le_toInt p0; have := Int32.toInt_lt p0
  have := Int32.le_toInt p1; have := Int32.toInt_lt p1
  have := Int32.le_toInt p2; have := Int32.toInt_lt p2
  have := Int32.le_toInt p3; have := Int32.toInt_lt p3
  have := Int32.le_toInt v15; have := Int32.toInt_lt v15
  have := Int32.le_toInt v18; have := Int32.toInt_lt v18
  have := Int32.le_toInt v23; have := Int32.toInt_lt v23
  have := Int64.le_toInt v24; have := Int64.toInt_lt v24
  have := Int64.le_toInt v25; have := Int64.toInt_lt v25
  have := Int64.le_toInt v26; have := Int64.toInt_lt v26
  have := Int64.le_toInt v27; have := Int64.toInt_lt v27
  have bl1 := Int32.le_toInt ex1; have bu1 := Int32.toInt_lt ex1
  have fa1 := c_mask p1 (2147483647 : Int32) 31 (by decide) (by decide); rw [hex1] at fa1; try simp only [Int32.reduceToInt, Int64.reduceToInt] at fa1
  clear hex1
  have bl2 := Int32.le_toInt ex2; have bu2 := Int32.toInt_lt ex2
  have fa2 := c_mask p3 (1 : Int32) 1 (by decide) (by decide); rw [hex2] at fa2; try simp only [Int32.reduceToInt, Int64.reduceToInt] at fa2
  clear hex2
  have bl3 := Int32.le_toInt ex3; have bu3 := Int32.toInt_lt ex3
  have fa3 := c_mask p2 (7 : Int32) 3 (by decide) (by decide); rw [hex3] at fa3; try simp only [Int32.reduceToInt, Int64.reduceToInt] at fa3
  clear hex3
  have bl4 := Int32.le_toInt ex4; have bu4 := Int32.toInt_lt ex4
  have fa4 := c_mask p2 (2147483647 : Int32) 31 (by decide) (by decide); rw [hex4] at fa4; try simp only [Int32.reduceToInt, Int64.reduceToInt] at fa4
  clear hex4
  try simp only [Int32.lt_iff_toInt_lt, Int64.lt_iff_toInt_lt, ← Int32.toInt_inj, ← Int64.toInt_inj, Int32.reduceToInt, Int64.reduceToInt, not_true_eq_false, not_false_eq_true, false_and, and_false, true_and, and_true, false_or, or_false, true_or, or_true] at fc5
  try simp only [Int32.lt_iff_toInt_lt, Int64.lt_iff_toInt_lt, ← Int32.toInt_inj, ← Int64.toInt_inj, Int32.reduceToInt, Int64.reduceToInt, not_true_eq_false, not_false_eq_true, false_and, and_false, true_and, and_true, false_or, or_false, true_or, or_true] at fc6
  try simp only [Int32.lt_iff_toInt_lt, Int64.lt_iff_toInt_lt, ← Int32.toInt_inj, ← Int64.toInt_inj, Int32.reduceToInt, Int64.reduceToInt, not_true_eq_false, not_false_eq_true, false_and, and_false, true_and, and_true, false_or, or_false, true_or, or_true] at fc7
  have bl8 := Int32.le_toInt ex8; have bu8 := Int32.toInt_lt ex8
  have fa8 := c_isub v15 v18; rw [hex8] at fa8; try simp only [Int32.reduceToInt, Int64.reduceToInt] at fa8
  clear hex8
  have bl9 := Int64.le_toInt ex9; have bu9 := Int64.toInt_lt ex9
  have fa9 := c_i2l p0; rw [hex9] at fa9; try simp only [Int32.reduceToInt, Int64.reduceToInt] at fa9
  clear hex9
  have bl10 := Int64.le_toInt ex10; have bu10 := Int64.toInt_lt ex10
  have fa10 := c_i2l v15; rw [hex10] at fa10; try simp only [Int32.reduceToInt, Int64.reduceToInt] at fa10
  clear hex10
  have bl11 := Int64.le_toInt ex11; have bu11 := Int64.toInt_lt ex11
  have fa11 := c_i2l v18; rw [hex11] at fa11; try simp only [Int32.reduceToInt, Int64.reduceToInt] at fa11
  clear hex11
  have bl12 := Int64.le_toInt ex12; have bu12 := Int64.toInt_lt ex12
  have fa12 := c_i2l v23; rw [hex12] at fa12; try simp only [Int32.reduceToInt, Int64.reduceToInt] at fa12
  clear hex12
  have bl13 := Int64.le_toInt ex13; have bu13 := Int64.toInt_lt ex13
  have fa13 := c_lsub v27 (1 : Int64); rw [hex13] at fa13; try simp only [Int32.reduceToInt, Int64.reduceToInt] at fa13
  clear hex13
  all_goals omega
set_option maxRecDepth 65536 in
set_option maxHeartbeats 40000000 in
theorem own_leaf0_13 (p0 : Int32) (p1 : Int32) (p2 : Int32) (p3 : Int32) (v15 : Int32) (hv15 : v15 = (p1 &&& (2147483647 : Int32))) (v18 : Int32) (hv18 : v18 = (if (p3 &&& (1 : Int32)) = (0 : Int32) then (p2 &&& (2147483647 : Int32)) else (p2 &&& (7 : Int32)))) (v23 : Int32) (hv23 : v23 = (own_f1 p0 v15 v18)) (v24 : Int64) (hv24 : v24 = (p0.toInt64)) (v25 : Int64) (hv25 : v25 = (v15.toInt64)) (v26 : Int64) (hv26 : v26 = (v18.toInt64)) (v27 : Int64) (hv27 : v27 = (v23.toInt64)) (hc29 : ¬ (v18 = (0 : Int32))) (hc45 : v25 < v26) (hc47 : ¬ (v23 = (-1 : Int32))) (hc49 : ¬ (v27 < (0 : Int64))) (hc55 : v27 < v24) (hc57 : v27 = (0 : Int64)) : False := by
  have dv18 : ((p3 &&& (1 : Int32)) = (0 : Int32) ∧ (v18 = (p2 &&& (2147483647 : Int32)))) ∨ (¬ ((p3 &&& (1 : Int32)) = (0 : Int32)) ∧ (v18 = (p2 &&& (7 : Int32)))) := (if cq0 : (p3 &&& (1 : Int32)) = (0 : Int32) then Or.inl ⟨cq0, (by rw [hv18, if_pos cq0])⟩ else Or.inr ⟨cq0, (by rw [hv18, if_neg cq0])⟩)
  clear hv18
  generalize hex1 : (p1 &&& (2147483647 : Int32)) = ex1 at *
  generalize hex2 : (p3 &&& (1 : Int32)) = ex2 at *
  generalize hex3 : (p2 &&& (7 : Int32)) = ex3 at *
  generalize hex4 : (p2 &&& (2147483647 : Int32)) = ex4 at *
  have fc5 := own_f1_cases p0 v15 v18
  generalize own_f1 p0 v15 v18 = ex5 at *
  have fc6 := own_f2_cases p0 (0 : Int32)
  generalize own_f2 p0 (0 : Int32) = ex6 at *
  have fc7 := own_f3_cases ex6 v15
  generalize own_f3 ex6 v15 = ex7 at *
  generalize hex8 : (v15 - v18) = ex8 at *
  generalize hex9 : (p0.toInt64) = ex9 at *
  generalize hex10 : (v15.toInt64) = ex10 at *
  generalize hex11 : (v18.toInt64) = ex11 at *
  generalize hex12 : (v23.toInt64) = ex12 at *
  try simp only [Int32.lt_iff_toInt_lt, Int64.lt_iff_toInt_lt, ← Int32.toInt_inj, ← Int64.toInt_inj, Int32.reduceToInt, Int64.reduceToInt, not_true_eq_false, not_false_eq_true, false_and, and_false, true_and, and_true, false_or, or_false, true_or, or_true] at dv18
  try simp only [Int32.lt_iff_toInt_lt, Int64.lt_iff_toInt_lt, ← Int32.toInt_inj, ← Int64.toInt_inj, Int32.reduceToInt, Int64.reduceToInt, not_true_eq_false, not_false_eq_true, false_and, and_false, true_and, and_true, false_or, or_false, true_or, or_true] at hv15
  try simp only [Int32.lt_iff_toInt_lt, Int64.lt_iff_toInt_lt, ← Int32.toInt_inj, ← Int64.toInt_inj, Int32.reduceToInt, Int64.reduceToInt, not_true_eq_false, not_false_eq_true, false_and, and_false, true_and, and_true, false_or, or_false, true_or, or_true] at hv23
  try simp only [Int32.lt_iff_toInt_lt, Int64.lt_iff_toInt_lt, ← Int32.toInt_inj, ← Int64.toInt_inj, Int32.reduceToInt, Int64.reduceToInt, not_true_eq_false, not_false_eq_true, false_and, and_false, true_and, and_true, false_or, or_false, true_or, or_true] at hv24
  try simp only [Int32.lt_iff_toInt_lt, Int64.lt_iff_toInt_lt, ← Int32.toInt_inj, ← Int64.toInt_inj, Int32.reduceToInt, Int64.reduceToInt, not_true_eq_false, not_false_eq_true, false_and, and_false, true_and, and_true, false_or, or_false, true_or, or_true] at hv25
  try simp only [Int32.lt_iff_toInt_lt, Int64.lt_iff_toInt_lt, ← Int32.toInt_inj, ← Int64.toInt_inj, Int32.reduceToInt, Int64.reduceToInt, not_true_eq_false, not_false_eq_true, false_and, and_false, true_and, and_true, false_or, or_false, true_or, or_true] at hv26
  try simp only [Int32.lt_iff_toInt_lt, Int64.lt_iff_toInt_lt, ← Int32.toInt_inj, ← Int64.toInt_inj, Int32.reduceToInt, Int64.reduceToInt, not_true_eq_false, not_false_eq_true, false_and, and_false, true_and, and_true, false_or, or_false, true_or, or_true] at hv27
  try simp only [Int32.lt_iff_toInt_lt, Int64.lt_iff_toInt_lt, ← Int32.toInt_inj, ← Int64.toInt_inj, Int32.reduceToInt, Int64.reduceToInt, not_true_eq_false, not_false_eq_true, false_and, and_false, true_and, and_true, false_or, or_false, true_or, or_true] at hc29
  try simp only [Int32.lt_iff_toInt_lt, Int64.lt_iff_toInt_lt, ← Int32.toInt_inj, ← Int64.toInt_inj, Int32.reduceToInt, Int64.reduceToInt, not_true_eq_false, not_false_eq_true, false_and, and_false, true_and, and_true, false_or, or_false, true_or, or_true] at hc45
  try simp only [Int32.lt_iff_toInt_lt, Int64.lt_iff_toInt_lt, ← Int32.toInt_inj, ← Int64.toInt_inj, Int32.reduceToInt, Int64.reduceToInt, not_true_eq_false, not_false_eq_true, false_and, and_false, true_and, and_true, false_or, or_false, true_or, or_true] at hc47
  try simp only [Int32.lt_iff_toInt_lt, Int64.lt_iff_toInt_lt, ← Int32.toInt_inj, ← Int64.toInt_inj, Int32.reduceToInt, Int64.reduceToInt, not_true_eq_false, not_false_eq_true, false_and, and_false, true_and, and_true, false_or, or_false, true_or, or_true] at hc49
  try simp only [Int32.lt_iff_toInt_lt, Int64.lt_iff_toInt_lt, ← Int32.toInt_inj, ← Int64.toInt_inj, Int32.reduceToInt, Int64.reduceToInt, not_true_eq_false, not_false_eq_true, false_and, and_false, true_and, and_true, false_or, or_false, true_or, or_true] at hc55
  try simp only [Int32.lt_iff_toInt_lt, Int64.lt_iff_toInt_lt, ← Int32.toInt_inj, ← Int64.toInt_inj, Int32.reduceToInt, Int64.reduceToInt, not_true_eq_false, not_false_eq_true, false_and, and_false, true_and, and_true, false_or, or_false, true_or, or_true] at hc57
  have := Int32.le_toInt p0; have := Int32.toInt_lt p0
  have := Int32.le_toInt p1; have := Int32.toInt_lt p1
  have := Int32.le_toInt p2; have := Int32.toInt_lt p2
  have := Int32.le_toInt p3; have := Int32.toInt_lt p3
  have := Int32.le_toInt v15; have := Int32.toInt_lt v15
  have := Int32.le_toInt v18; have := Int32.toInt_lt v18
  have := Int32.le_toInt v23; have := Int32.toInt_lt v23
  have := Int64.le_toInt v24; have := Int64.toInt_lt v24
  have := Int64.le_toInt v25; have := Int64.toInt_lt v25
  have := Int64.le_toInt v26; have := Int64.toInt_lt v26
  have := Int64.le_toInt v27; have := Int64.toInt_lt v27
  have bl1 := Int32.le_toInt ex1; have bu1 := Int32.toInt_lt ex1
  have fa1 := c_mask p1 (2147483647 : Int32) 31 (by decide) (by decide); rw [hex1] at fa1; try simp only [Int32.reduceToInt, Int64.reduceToInt] at fa1
  clear hex1
  have bl2 := Int32.le_toInt ex2; have bu2 := Int32.toInt_lt ex2
  have fa2 := c_mask p3 (1 : Int32) 1 (by decide) (by decide); rw [hex2] at fa2; try simp only [Int32.reduceToInt, Int64.reduceToInt] at fa2
  clear hex2
  have bl3 := Int32.le_toInt ex3; have bu3 := Int32.toInt_lt ex3
  have fa3 := c_mask p2 (7 : Int32) 3 (by decide) (by decide); rw [hex3] at fa3; try simp only [Int32.reduceToInt, Int64.reduceToInt] at fa3
  clear hex3
  have bl4 := Int32.le_toInt ex4; have bu4 := Int32.toInt_lt ex4
  have fa4 := c_mask p2 (2147483647 : Int32) 31 (by decide) (by decide); rw [hex4] at fa4; try simp only [Int32.reduceToInt, Int64.reduceToInt] at fa4
  clear hex4
  try simp only [Int32.lt_iff_toInt_lt, Int64.lt_iff_toInt_lt, ← Int32.toInt_inj, ← Int64.toInt_inj, Int32.reduceToInt, Int64.reduceToInt, not_true_eq_false, not_false_eq_true, false_and, and_false, true_and, and_true, false_or, or_false, true_or, or_true] at fc5
  try simp only [Int32.lt_iff_toInt_lt, Int64.lt_iff_toInt_lt, ← Int32.toInt_inj, ← Int64.toInt_inj, Int32.reduceToInt, Int64.reduceToInt, not_true_eq_false, not_false_eq_true, false_and, and_false, true_and, and_true, false_or, or_false, true_or, or_true] at fc6
  try simp only [Int32.lt_iff_toInt_lt, Int64.lt_iff_toInt_lt, ← Int32.toInt_inj, ← Int64.toInt_inj, Int32.reduceToInt, Int64.reduceToInt, not_true_eq_false, not_false_eq_true, false_and, and_false, true_and, and_true, false_or, or_false, true_or, or_true] at fc7
  have bl8 := Int32.le_toInt ex8; have bu8 := Int32.toInt_lt ex8
  have fa8 := c_isub v15 v18; rw [hex8] at fa8; try simp only [Int32.reduceToInt, Int64.reduceToInt] at fa8
  clear hex8
  have bl9 := Int64.le_toInt ex9; have bu9 := Int64.toInt_lt ex9
  have fa9 := c_i2l p0; rw [hex9] at fa9; try simp only [Int32.reduceToInt, Int64.reduceToInt] at fa9
  clear hex9
  have bl10 := Int64.le_toInt ex10; have bu10 := Int64.toInt_lt ex10
  have fa10 := c_i2l v15; rw [hex10] at fa10; try simp only [Int32.reduceToInt, Int64.reduceToInt] at fa10
  clear hex10
  have bl11 := Int64.le_toInt ex11; have bu11 := Int64.toInt_lt ex11
  have fa11 := c_i2l v18; rw [hex11] at fa11; try simp only [Int32.reduceToInt, Int64.reduceToInt] at fa11
  clear hex11
  have bl12 := Int64.le_toInt ex12; have bu12 := Int64.toInt_lt ex12
  have fa12 := c_i2l v23; rw [hex12] at fa12; try simp only [Int32.reduceToInt, Int64.reduceToInt] at fa12
  clear hex12
  all_goals omega
set_option maxRecDepth 65536 in
set_option maxHeartbeats 40000000 in
theorem own_leaf0_14 (p0 : Int32) (p1 : Int32) (p2 : Int32) (p3 : Int32) (v15 : Int32) (hv15 : v15 = (p1 &&& (2147483647 : Int32))) (v18 : Int32) (hv18 : v18 = (if (p3 &&& (1 : Int32)) = (0 : Int32) then (p2 &&& (2147483647 : Int32)) else (p2 &&& (7 : Int32)))) (v23 : Int32) (hv23 : v23 = (own_f1 p0 v15 v18)) (v24 : Int64) (hv24 : v24 = (p0.toInt64)) (v25 : Int64) (hv25 : v25 = (v15.toInt64)) (v26 : Int64) (hv26 : v26 = (v18.toInt64)) (v27 : Int64) (hv27 : v27 = (v23.toInt64)) (hc29 : ¬ (v18 = (0 : Int32))) (hc45 : v25 < v26) (hc47 : ¬ (v23 = (-1 : Int32))) (hc49 : ¬ (v27 < (0 : Int64))) (hc55 : v27 < v24) (hc57 : ¬ (v27 = (0 : Int64))) (hc59 : (v27 - (1 : Int64)) < v24) : False := by
  have dv18 : ((p3 &&& (1 : Int32)) = (0 : Int32) ∧ (v18 = (p2 &&& (2147483647 : Int32)))) ∨ (¬ ((p3 &&& (1 : Int32)) = (0 : Int32)) ∧ (v18 = (p2 &&& (7 : Int32)))) := (if cq0 : (p3 &&& (1 : Int32)) = (0 : Int32) then Or.inl ⟨cq0, (by rw [hv18, if_pos cq0])⟩ else Or.inr ⟨cq0, (by rw [hv18, if_neg cq0])⟩)
  clear hv18
  generalize hex1 : (p1 &&& (2147483647 : Int32)) = ex1 at *
  generalize hex2 : (p3 &&& (1 : Int32)) = ex2 at *
  generalize hex3 : (p2 &&& (7 : Int32)) = ex3 at *
  generalize hex4 : (p2 &&& (2147483647 : Int32)) = ex4 at *
  have fc5 := own_f1_cases p0 v15 v18
  generalize own_f1 p0 v15 v18 = ex5 at *
  have fc6 := own_f2_cases p0 (0 : Int32)
  generalize own_f2 p0 (0 : Int32) = ex6 at *
  have fc7 := own_f3_cases ex6 v15
  generalize own_f3 ex6 v15 = ex7 at *
  generalize hex8 : (v15 - v18) = ex8 at *
  generalize hex9 : (p0.toInt64) = ex9 at *
  generalize hex10 : (v15.toInt64) = ex10 at *
  generalize hex11 : (v18.toInt64) = ex11 at *
  generalize hex12 : (v23.toInt64) = ex12 at *
  generalize hex13 : (v27 - (1 : Int64)) = ex13 at *
  try simp only [Int32.lt_iff_toInt_lt, Int64.lt_iff_toInt_lt, ← Int32.toInt_inj, ← Int64.toInt_inj, Int32.reduceToInt, Int64.reduceToInt, not_true_eq_false, not_false_eq_true, false_and, and_false, true_and, and_true, false_or, or_false, true_or, or_true] at dv18
  try simp only [Int32.lt_iff_toInt_lt, Int64.lt_iff_toInt_lt, ← Int32.toInt_inj, ← Int64.toInt_inj, Int32.reduceToInt, Int64.reduceToInt, not_true_eq_false, not_false_eq_true, false_and, and_false, true_and, and_true, false_or, or_false, true_or, or_true] at hv15
  try simp only [Int32.lt_iff_toInt_lt, Int64.lt_iff_toInt_lt, ← Int32.toInt_inj, ← Int64.toInt_inj, Int32.reduceToInt, Int64.reduceToInt, not_true_eq_false, not_false_eq_true, false_and, and_false, true_and, and_true, false_or, or_false, true_or, or_true] at hv23
  try simp only [Int32.lt_iff_toInt_lt, Int64.lt_iff_toInt_lt, ← Int32.toInt_inj, ← Int64.toInt_inj, Int32.reduceToInt, Int64.reduceToInt, not_true_eq_false, not_false_eq_true, false_and, and_false, true_and, and_true, false_or, or_false, true_or, or_true] at hv24
  try simp only [Int32.lt_iff_toInt_lt, Int64.lt_iff_toInt_lt, ← Int32.toInt_inj, ← Int64.toInt_inj, Int32.reduceToInt, Int64.reduceToInt, not_true_eq_false, not_false_eq_true, false_and, and_false, true_and, and_true, false_or, or_false, true_or, or_true] at hv25
  try simp only [Int32.lt_iff_toInt_lt, Int64.lt_iff_toInt_lt, ← Int32.toInt_inj, ← Int64.toInt_inj, Int32.reduceToInt, Int64.reduceToInt, not_true_eq_false, not_false_eq_true, false_and, and_false, true_and, and_true, false_or, or_false, true_or, or_true] at hv26
  try simp only [Int32.lt_iff_toInt_lt, Int64.lt_iff_toInt_lt, ← Int32.toInt_inj, ← Int64.toInt_inj, Int32.reduceToInt, Int64.reduceToInt, not_true_eq_false, not_false_eq_true, false_and, and_false, true_and, and_true, false_or, or_false, true_or, or_true] at hv27
  try simp only [Int32.lt_iff_toInt_lt, Int64.lt_iff_toInt_lt, ← Int32.toInt_inj, ← Int64.toInt_inj, Int32.reduceToInt, Int64.reduceToInt, not_true_eq_false, not_false_eq_true, false_and, and_false, true_and, and_true, false_or, or_false, true_or, or_true] at hc29
  try simp only [Int32.lt_iff_toInt_lt, Int64.lt_iff_toInt_lt, ← Int32.toInt_inj, ← Int64.toInt_inj, Int32.reduceToInt, Int64.reduceToInt, not_true_eq_false, not_false_eq_true, false_and, and_false, true_and, and_true, false_or, or_false, true_or, or_true] at hc45
  try simp only [Int32.lt_iff_toInt_lt, Int64.lt_iff_toInt_lt, ← Int32.toInt_inj, ← Int64.toInt_inj, Int32.reduceToInt, Int64.reduceToInt, not_true_eq_false, not_false_eq_true, false_and, and_false, true_and, and_true, false_or, or_false, true_or, or_true] at hc47
  try simp only [Int32.lt_iff_toInt_lt, Int64.lt_iff_toInt_lt, ← Int32.toInt_inj, ← Int64.toInt_inj, Int32.reduceToInt, Int64.reduceToInt, not_true_eq_false, not_false_eq_true, false_and, and_false, true_and, and_true, false_or, or_false, true_or, or_true] at hc49
  try simp only [Int32.lt_iff_toInt_lt, Int64.lt_iff_toInt_lt, ← Int32.toInt_inj, ← Int64.toInt_inj, Int32.reduceToInt, Int64.reduceToInt, not_true_eq_false, not_false_eq_true, false_and, and_false, true_and, and_true, false_or, or_false, true_or, or_true] at hc55
  try simp only [Int32.lt_iff_toInt_lt, Int64.lt_iff_toInt_lt, ← Int32.toInt_inj, ← Int64.toInt_inj, Int32.reduceToInt, Int64.reduceToInt, not_true_eq_false, not_false_eq_true, false_and, and_false, true_and, and_true, false_or, or_false, true_or, or_true] at hc57
  try simp only [Int32.lt_iff_toInt_lt, Int64.lt_iff_toInt_lt, ← Int32.toInt_inj, ← Int64.toInt_inj, Int32.reduceToInt, Int64.reduceToInt, not_true_eq_false, not_false_eq_true, false_and, and_false, true_and, and_true, false_or, or_false, true_or, or_true] at hc59
  have := Int32.le_toInt p0; have := Int32.toInt_lt p0
  have := Int32.le_toInt p1; have := Int32.toInt_lt p1
  have := Int32.le_toInt p2; have := Int32.toInt_lt p2
  have := Int32.le_toInt p3; have := Int32.toInt_lt p3
  have := Int32.le_toInt v15; have := Int32.toInt_lt v15
  have := Int32.le_toInt v18; have := Int32.toInt_lt v18
  have := Int32.le_toInt v23; have := Int32.toInt_lt v23
  have := Int64.le_toInt v24; have := Int64.toInt_lt v24
  have := Int64.le_toInt v25; have := Int64.toInt_lt v25
  have := Int64.le_toInt v26; have := Int64.toInt_lt v26
  have := Int64.le_toInt v27; have := Int64.toInt_lt v27
  have bl1 := Int32.le_toInt ex1; have bu1 := Int32.toInt_lt ex1
  have fa1 := c_mask p1 (2147483647 : Int32) 31 (by decide) (by decide); rw [hex1] at fa1; try simp only [Int32.reduceToInt, Int64.reduceToInt] at fa1
  clear hex1
  have bl2 := Int32.le_toInt ex2; have bu2 := Int32.toInt_lt ex2
  have fa2 := c_mask p3 (1 : Int32) 1 (by decide) (by decide); rw [hex2] at fa2; try simp only [Int32.reduceToInt, Int64.reduceToInt] at fa2
  clear hex2
  have bl3 := Int32.le_toInt ex3; have bu3 := Int32.toInt_lt ex3
  have fa3 := c_mask p2 (7 : Int32) 3 (by decide) (by decide); rw [hex3] at fa3; try simp only [Int32.reduceToInt, Int64.reduceToInt] at fa3
  clear hex3
  have bl4 := Int32.le_toInt ex4; have bu4 := Int32.toInt_lt ex4
  have fa4 := c_mask p2 (2147483647 : Int32) 31 (by decide) (by decide); rw [hex4] at fa4; try simp only [Int32.reduceToInt, Int64.reduceToInt] at fa4
  clear hex4
  try simp only [Int32.lt_iff_toInt_lt, Int64.lt_iff_toInt_lt, ← Int32.toInt_inj, ← Int64.toInt_inj, Int32.reduceToInt, Int64.reduceToInt, not_true_eq_false, not_false_eq_true, false_and, and_false, true_and, and_true, false_or, or_false, true_or, or_true] at fc5
  try simp only [Int32.lt_iff_toInt_lt, Int64.lt_iff_toInt_lt, ← Int32.toInt_inj, ← Int64.toInt_inj, Int32.reduceToInt, Int64.reduceToInt, not_true_eq_false, not_false_eq_true, false_and, and_false, true_and, and_true, false_or, or_false, true_or, or_true] at fc6
  try simp only [Int32.lt_iff_toInt_lt, Int64.lt_iff_toInt_lt, ← Int32.toInt_inj, ← Int64.toInt_inj, Int32.reduceToInt, Int64.reduceToInt, not_true_eq_false, not_false_eq_true, false_and, and_false, true_and, and_true, false_or, or_false, true_or, or_true] at fc7
  have bl8 := Int32.le_toInt ex8; have bu8 := Int32.toInt_lt ex8
  have fa8 := c_isub v15 v18; rw [hex8] at fa8; try simp only [Int32.reduceToInt, Int64.reduceToInt] at fa8
  clear hex8
  have bl9 := Int64.le_toInt ex9; have bu9 := Int64.toInt_lt ex9
  have fa9 := c_i2l p0; rw [hex9] at fa9; try simp only [Int32.reduceToInt, Int64.reduceToInt] at fa9
  clear hex9
  have bl10 := Int64.le_toInt ex10; have bu10 := Int64.toInt_lt ex10
  have fa10 := c_i2l v15; rw [hex10] at fa10; try simp only [Int32.reduceToInt, Int64.reduceToInt] at fa10
  clear hex10
  have bl11 := Int64.le_toInt ex11; have bu11 := Int64.toInt_lt ex11
  have fa11 := c_i2l v18; rw [hex11] at fa11; try simp only [Int32.reduceToInt, Int64.reduceToInt] at fa11
  clear hex11
  have bl12 := Int64.le_toInt ex12; have bu12 := Int64.toInt_lt ex12
  have fa12 := c_i2l v23; rw [hex12] at fa12; try simp only [Int32.reduceToInt, Int64.reduceToInt] at fa12
  clear hex12
  have bl13 := Int64.le_toInt ex13; have bu13 := Int64.toInt_lt ex13
  have fa13 := c_lsub v27 (1 : Int64); rw [hex13] at fa13; try simp only [Int32.reduceToInt, Int64.reduceToInt] at fa13
  clear hex13
  all_goals omega
set_option maxRecDepth 65536 in
set_option maxHeartbeats 40000000 in
theorem own_leaf0_15 (p0 : Int32) (p1 : Int32) (p2 : Int32) (p3 : Int32) (v15 : Int32) (hv15 : v15 = (p1 &&& (2147483647 : Int32))) (v18 : Int32) (hv18 : v18 = (if (p3 &&& (1 : Int32)) = (0 : Int32) then (p2 &&& (2147483647 : Int32)) else (p2 &&& (7 : Int32)))) (v23 : Int32) (hv23 : v23 = (own_f1 p0 v15 v18)) (v24 : Int64) (hv24 : v24 = (p0.toInt64)) (v25 : Int64) (hv25 : v25 = (v15.toInt64)) (v26 : Int64) (hv26 : v26 = (v18.toInt64)) (v27 : Int64) (hv27 : v27 = (v23.toInt64)) (hc29 : ¬ (v18 = (0 : Int32))) (hc45 : v25 < v26) (hc47 : ¬ (v23 = (-1 : Int32))) (hc49 : ¬ (v27 < (0 : Int64))) (hc55 : v27 < v24) (hc57 : ¬ (v27 = (0 : Int64))) (hc59 : ¬ ((v27 - (1 : Int64)) < v24)) : False := by
  have dv18 : ((p3 &&& (1 : Int32)) = (0 : Int32) ∧ (v18 = (p2 &&& (2147483647 : Int32)))) ∨ (¬ ((p3 &&& (1 : Int32)) = (0 : Int32)) ∧ (v18 = (p2 &&& (7 : Int32)))) := (if cq0 : (p3 &&& (1 : Int32)) = (0 : Int32) then Or.inl ⟨cq0, (by rw [hv18, if_pos cq0])⟩ else Or.inr ⟨cq0, (by rw [hv18, if_neg cq0])⟩)
  clear hv18
  generalize hex1 : (p1 &&& (2147483647 : Int32)) = ex1 at *
  generalize hex2 : (p3 &&& (1 : Int32)) = ex2 at *
  generalize hex3 : (p2 &&& (7 : Int32)) = ex3 at *
  generalize hex4 : (p2 &&& (2147483647 : Int32)) = ex4 at *
  have fc5 := own_f1_cases p0 v15 v18
  generalize own_f1 p0 v15 v18 = ex5 at *
  have fc6 := own_f2_cases p0 (0 : Int32)
  generalize own_f2 p0 (0 : Int32) = ex6 at *
  have fc7 := own_f3_cases ex6 v15
  generalize own_f3 ex6 v15 = ex7 at *
  generalize hex8 : (v15 - v18) = ex8 at *
  generalize hex9 : (p0.toInt64) = ex9 at *
  generalize hex10 : (v15.toInt64) = ex10 at *
  generalize hex11 : (v18.toInt64) = ex11 at *
  generalize hex12 : (v23.toInt64) = ex12 at *
  generalize hex13 : (v27 - (1 : Int64)) = ex13 at *
  try simp only [Int32.lt_iff_toInt_lt, Int64.lt_iff_toInt_lt, ← Int32.toInt_inj, ← Int64.toInt_inj, Int32.reduceToInt, Int64.reduceToInt, not_true_eq_false, not_false_eq_true, false_and, and_false, true_and, and_true, false_or, or_false, true_or, or_true] at dv18
  try simp only [Int32.lt_iff_toInt_lt, Int64.lt_iff_toInt_lt, ← Int32.toInt_inj, ← Int64.toInt_inj, Int32.reduceToInt, Int64.reduceToInt, not_true_eq_false, not_false_eq_true, false_and, and_false, true_and, and_true, false_or, or_false, true_or, or_true] at hv15
  try simp only [Int32.lt_iff_toInt_lt, Int64.lt_iff_toInt_lt, ← Int32.toInt_inj, ← Int64.toInt_inj, Int32.reduceToInt, Int64.reduceToInt, not_true_eq_false, not_false_eq_true, false_and, and_false, true_and, and_true, false_or, or_false, true_or, or_true] at hv23
  try simp only [Int32.lt_iff_toInt_lt, Int64.lt_iff_toInt_lt, ← Int32.toInt_inj, ← Int64.toInt_inj, Int32.reduceToInt, Int64.reduceToInt, not_true_eq_false, not_false_eq_true, false_and, and_false, true_and, and_true, false_or, or_false, true_or, or_true] at hv24
  try simp only [Int32.lt_iff_toInt_lt, Int64.lt_iff_toInt_lt, ← Int32.toInt_inj, ← Int64.toInt_inj, Int32.reduceToInt, Int64.reduceToInt, not_true_eq_false, not_false_eq_true, false_and, and_false, true_and, and_true, false_or, or_false, true_or, or_true] at hv25
  try simp only [Int32.lt_iff_toInt_lt, Int64.lt_iff_toInt_lt, ← Int32.toInt_inj, ← Int64.toInt_inj, Int32.reduceToInt, Int64.reduceToInt, not_true_eq_false, not_false_eq_true, false_and, and_false, true_and, and_true, false_or, or_false, true_or, or_true] at hv26
  try simp only [Int32.lt_iff_toInt_lt, Int64.lt_iff_toInt_lt, ← Int32.toInt_inj, ← Int64.toInt_inj, Int32.reduceToInt, Int64.reduceToInt, not_true_eq_false, not_false_eq_true, false_and, and_false, true_and, and_true, false_or, or_false, true_or, or_true] at hv27
  try simp only [Int32.lt_iff_toInt_lt, Int64.lt_iff_toInt_lt, ← Int32.toInt_inj, ← Int64.toInt_inj, Int32.reduceToInt, Int64.reduceToInt, not_true_eq_false, not_false_eq_true, false_and, and_false, true_and, and_true, false_or, or_false, true_or, or_true] at hc29
  try simp only [Int32.lt_iff_toInt_lt, Int64.lt_iff_toInt_lt, ← Int32.toInt_inj, ← Int64.toInt_inj, Int32.reduceToInt, Int64.reduceToInt, not_true_eq_false, not_false_eq_true, false_and, and_false, true_and, and_true, false_or, or_false, true_or, or_true] at hc45
  try simp only [Int32.lt_iff_toInt_lt, Int64.lt_iff_toInt_lt, ← Int32.toInt_inj, ← Int64.toInt_inj, Int32.reduceToInt, Int64.reduceToInt, not_true_eq_false, not_false_eq_true, false_and, and_false, true_and, and_true, false_or, or_false, true_or, or_true] at hc47
  try simp only [Int32.lt_iff_toInt_lt, Int64.lt_iff_toInt_lt, ← Int32.toInt_inj, ← Int64.toInt_inj, Int32.reduceToInt, Int64.reduceToInt, not_true_eq_false, not_false_eq_true, false_and, and_false, true_and, and_true, false_or, or_false, true_or, or_true] at hc49
  try simp only [Int32.lt_iff_toInt_lt, Int64.lt_iff_toInt_lt, ← Int32.toInt_inj, ← Int64.toInt_inj, Int32.reduceToInt, Int64.reduceToInt, not_true_eq_false, not_false_eq_true, false_and, and_false, true_and, and_true, false_or, or_false, true_or, or_true] at hc55
  try simp only [Int32.lt_iff_toInt_lt, Int64.lt_iff_toInt_lt, ← Int32.toInt_inj, ← Int64.toInt_inj, Int32.reduceToInt, Int64.reduceToInt, not_true_eq_false, not_false_eq_true, false_and, and_false, true_and, and_true, false_or, or_false, true_or, or_true] at hc57
  try simp only [Int32.lt_iff_toInt_lt, Int64.lt_iff_toInt_lt, ← Int32.toInt_inj, ← Int64.toInt_inj, Int32.reduceToInt, Int64.reduceToInt, not_true_eq_false, not_false_eq_true, false_and, and_false, true_and, and_true, false_or, or_false, true_or, or_true] at hc59
  have := Int32.le_toInt p0; have := Int32.toInt_lt p0
  have := Int32.le_toInt p1; have := Int32.toInt_lt p1
  have := Int32.le_toInt p2; have := Int32.toInt_lt p2
  have := Int32.le_toInt p3; have := Int32.toInt_lt p3
  have := Int32.le_toInt v15; have := Int32.toInt_lt v15
  have := Int32.le_toInt v18; have := Int32.toInt_lt v18
  have := Int32.le_toInt v23; have := Int32.toInt_lt v23
  have := Int64.le_toInt v24; have := Int64.toInt_lt v24
  have := Int64.le_toInt v25; have := Int64.toInt_lt v25
  have := Int64.le_toInt v26; have := Int64.toInt_lt v26
  have := Int64.le_toInt v27; have := Int64.toInt_lt v27
  have bl1 := Int32.le_toInt ex1; have bu1 := Int32.toInt_lt ex1
  have fa1 := c_mask p1 (2147483647 : Int32) 31 (by decide) (by decide); rw [hex1] at fa1; try simp only [Int32.reduceToInt, Int64.reduceToInt] at fa1
  clear hex1
  have bl2 := Int32.le_toInt ex2; have bu2 := Int32.toInt_lt ex2
  have fa2 := c_mask p3 (1 : Int32) 1 (by decide) (by decide); rw [hex2] at fa2; try simp only [Int32.reduceToInt, Int64.reduceToInt] at fa2
  clear hex2
  have bl3 := Int32.le_toInt ex3; have bu3 := Int32.toInt_lt ex3
  have fa3 := c_mask p2 (7 : Int32) 3 (by decide) (by decide); rw [hex3] at fa3; try simp only [Int32.reduceToInt, Int64.reduceToInt] at fa3
  clear hex3
  have bl4 := Int32.le_toInt ex4; have bu4 := Int32.toInt_lt ex4
  have fa4 := c_mask p2 (2147483647 : Int32) 31 (by decide) (by decide); rw [hex4] at fa4; try simp only [Int32.reduceToInt, Int64.reduceToInt] at fa4
  clear hex4
  try simp only [Int32.lt_iff_toInt_lt, Int64.lt_iff_toInt_lt, ← Int32.toInt_inj, ← Int64.toInt_inj, Int32.reduceToInt, Int64.reduceToInt, not_true_eq_false, not_false_eq_true, false_and, and_false, true_and, and_true, false_or, or_false, true_or, or_true] at fc5
  try simp only [Int32.lt_iff_toInt_lt, Int64.lt_iff_toInt_lt, ← Int32.toInt_inj, ← Int64.toInt_inj, Int32.reduceToInt, Int64.reduceToInt, not_true_eq_false, not_false_eq_true, false_and, and_false, true_and, and_true, false_or, or_false, true_or, or_true] at fc6
  try simp only [Int32.lt_iff_toInt_lt, Int64.lt_iff_toInt_lt, ← Int32.toInt_inj, ← Int64.toInt_inj, Int32.reduceToInt, Int64.reduceToInt, not_true_eq_false, not_false_eq_true, false_and, and_false, true_and, and_true, false_or, or_false, true_or, or_true] at fc7
  have bl8 := Int32.le_toInt ex8; have bu8 := Int32.toInt_lt ex8
  have fa8 := c_isub v15 v18; rw [hex8] at fa8; try simp only [Int32.reduceToInt, Int64.reduceToInt] at fa8
  clear hex8
  have bl9 := Int64.le_toInt ex9; have bu9 := Int64.toInt_lt ex9
  have fa9 := c_i2l p0; rw [hex9] at fa9; try simp only [Int32.reduceToInt, Int64.reduceToInt] at fa9
  clear hex9
  have bl10 := Int64.le_toInt ex10; have bu10 := Int64.toInt_lt ex10
  have fa10 := c_i2l v15; rw [hex10] at fa10; try simp only [Int32.reduceToInt, Int64.reduceToInt] at fa10
  clear hex10
  have bl11 := Int64.le_toInt ex11; have bu11 := Int64.toInt_lt ex11
  have fa11 := c_i2l v18; rw [hex11] at fa11; try simp only [Int32.reduceToInt, Int64.reduceToInt] at fa11
  clear hex11
  have bl12 := Int64.le_toInt ex12; have bu12 := Int64.toInt_lt ex12
  have fa12 := c_i2l v23; rw [hex12] at fa12; try simp only [Int32.reduceToInt, Int64.reduceToInt] at fa12
  clear hex12
  have bl13 := Int64.le_toInt ex13; have bu13 := Int64.toInt_lt ex13
  have fa13 := c_lsub v27 (1 : Int64); rw [hex13] at fa13; try simp only [Int32.reduceToInt, Int64.reduceToInt] at fa13
  clear hex13
  all_goals omega
set_option maxRecDepth 65536 in
set_option maxHeartbeats 40000000 in
theorem own_leaf0_16 (p0 : Int32) (p1 : Int32) (p2 : Int32) (p3 : Int32) (v15 : Int32) (hv15 : v15 = (p1 &&& (2147483647 : Int32))) (v18 : Int32) (hv18 : v18 = (if (p3 &&& (1 : Int32)) = (0 : Int32) then (p2 &&& (2147483647 : Int32)) else (p2 &&& (7 : Int32)))) (v23 : Int32) (hv23 : v23 = (own_f1 p0 v15 v18)) (v24 : Int64) (hv24 : v24 = (p0.toInt64)) (v25 : Int64) (hv25 : v25 = (v15.toInt64)) (v26 : Int64) (hv26 : v26 = (v18.toInt64)) (v27 : Int64) (hv27 : v27 = (v23.toInt64)) (hc29 : ¬ (v18 = (0 : Int32))) (hc45 : v25 < v26) (hc47 : ¬ (v23 = (-1 : Int32))) (hc49 : ¬ (v27 < (0 : Int64))) (hc55 : ¬ (v27 < v24)) (hc61 : v25 < (v27 + v26)) (hc63 : v27 = (0 : Int64)) : False := by
  have dv18 : ((p3 &&& (1 : Int32)) = (0 : Int32) ∧ (v18 = (p2 &&& (2147483647 : Int32)))) ∨ (¬ ((p3 &&& (1 : Int32)) = (0 : Int32)) ∧ (v18 = (p2 &&& (7 : Int32)))) := (if cq0 : (p3 &&& (1 : Int32)) = (0 : Int32) then Or.inl ⟨cq0, (by rw [hv18, if_pos cq0])⟩ else Or.inr ⟨cq0, (by rw [hv18, if_neg cq0])⟩)
  clear hv18
  generalize hex1 : (p1 &&& (2147483647 : Int32)) = ex1 at *
  generalize hex2 : (p3 &&& (1 : Int32)) = ex2 at *
  generalize hex3 : (p2 &&& (7 : Int32)) = ex3 at *
  generalize hex4 : (p2 &&& (2147483647 : Int32)) = ex4 at *
  have fc5 := own_f1_cases p0 v15 v18
  generalize own_f1 p0 v15 v18 = ex5 at *
  have fc6 := own_f2_cases p0 (0 : Int32)
  generalize own_f2 p0 (0 : Int32) = ex6 at *
  have fc7 := own_f3_cases ex6 v15
  generalize own_f3 ex6 v15 = ex7 at *
  generalize hex8 : (v15 - v18) = ex8 at *
  generalize hex9 : (p0.toInt64) = ex9 at *
  generalize hex10 : (v15.toInt64) = ex10 at *
  generalize hex11 : (v18.toInt64) = ex11 at *
  generalize hex12 : (v23.toInt64) = ex12 at *
  generalize hex13 : (v27 + v26) = ex13 at *
  try simp only [Int32.lt_iff_toInt_lt, Int64.lt_iff_toInt_lt, ← Int32.toInt_inj, ← Int64.toInt_inj, Int32.reduceToInt, Int64.reduceToInt, not_true_eq_false, not_false_eq_true, false_and, and_false, true_and, and_true, false_or, or_false, true_or, or_true] at dv18
  try simp only [Int32.lt_iff_toInt_lt, Int64.lt_iff_toInt_lt, ← Int32.toInt_inj, ← Int64.toInt_inj, Int32.reduceToInt, Int64.reduceToInt, not_true_eq_false, not_false_eq_true, false_and, and_false, true_and, and_true, false_or, or_false, true_or, or_true] at hv15
  try simp only [Int32.lt_iff_toInt_lt, Int64.lt_iff_toInt_lt, ← Int32.toInt_inj, ← Int64.toInt_inj, Int32.reduceToInt, Int64.reduceToInt, not_true_eq_false, not_false_eq_true, false_and, and_false, true_and, and_true, false_or, or_false, true_or, or_true] at hv23
  try simp only [Int32.lt_iff_toInt_lt, Int64.lt_iff_toInt_lt, ← Int32.toInt_inj, ← Int64.toInt_inj, Int32.reduceToInt, Int64.reduceToInt, not_true_eq_false, not_false_eq_true, false_and, and_false, true_and, and_true, false_or, or_false, true_or, or_true] at hv24
  try simp only [Int32.lt_iff_toInt_lt, Int64.lt_iff_toInt_lt, ← Int32.toInt_inj, ← Int64.toInt_inj, Int32.reduceToInt, Int64.reduceToInt, not_true_eq_false, not_false_eq_true, false_and, and_false, true_and, and_true, false_or, or_false, true_or, or_true] at hv25
  try simp only [Int32.lt_iff_toInt_lt, Int64.lt_iff_toInt_lt, ← Int32.toInt_inj, ← Int64.toInt_inj, Int32.reduceToInt, Int64.reduceToInt, not_true_eq_false, not_false_eq_true, false_and, and_false, true_and, and_true, false_or, or_false, true_or, or_true] at hv26
  try simp only [Int32.lt_iff_toInt_lt, Int64.lt_iff_toInt_lt, ← Int32.toInt_inj, ← Int64.toInt_inj, Int32.reduceToInt, Int64.reduceToInt, not_true_eq_false, not_false_eq_true, false_and, and_false, true_and, and_true, false_or, or_false, true_or, or_true] at hv27
  try simp only [Int32.lt_iff_toInt_lt, Int64.lt_iff_toInt_lt, ← Int32.toInt_inj, ← Int64.toInt_inj, Int32.reduceToInt, Int64.reduceToInt, not_true_eq_false, not_false_eq_true, false_and, and_false, true_and, and_true, false_or, or_false, true_or, or_true] at hc29
  try simp only [Int32.lt_iff_toInt_lt, Int64.lt_iff_toInt_lt, ← Int32.toInt_inj, ← Int64.toInt_inj, Int32.reduceToInt, Int64.reduceToInt, not_true_eq_false, not_false_eq_true, false_and, and_false, true_and, and_true, false_or, or_false, true_or, or_true] at hc45
  try simp only [Int32.lt_iff_toInt_lt, Int64.lt_iff_toInt_lt, ← Int32.toInt_inj, ← Int64.toInt_inj, Int32.reduceToInt, Int64.reduceToInt, not_true_eq_false, not_false_eq_true, false_and, and_false, true_and, and_true, false_or, or_false, true_or, or_true] at hc47
  try simp only [Int32.lt_iff_toInt_lt, Int64.lt_iff_toInt_lt, ← Int32.toInt_inj, ← Int64.toInt_inj, Int32.reduceToInt, Int64.reduceToInt, not_true_eq_false, not_false_eq_true, false_and, and_false, true_and, and_true, false_or, or_false, true_or, or_true] at hc49
  try simp only [Int32.lt_iff_toInt_lt, Int64.lt_iff_toInt_lt, ← Int32.toInt_inj, ← Int64.toInt_inj, Int32.reduceToInt, Int64.reduceToInt, not_true_eq_false, not_false_eq_true, false_and, and_false, true_and, and_true, false_or, or_false, true_or, or_true] at hc55
  try simp only [Int32.lt_iff_toInt_lt, Int64.lt_iff_toInt_lt, ← Int32.toInt_inj, ← Int64.toInt_inj, Int32.reduceToInt, Int64.reduceToInt, not_true_eq_false, not_false_eq_true, false_and, and_false, true_and, and_true, false_or, or_false, true_or, or_true] at hc61
  try simp only [Int32.lt_iff_toInt_lt, Int64.lt_iff_toInt_lt, ← Int32.toInt_inj, ← Int64.toInt_inj, Int32.reduceToInt, Int64.reduceToInt, not_true_eq_false, not_false_eq_true, false_and, and_false, true_and, and_true, false_or, or_false, true_or, or_true] at hc63
  have := Int32.le_toInt p0; have := Int32.toInt_lt p0
  have := Int32.le_toInt p1; have := Int32.toInt_lt p1
  have := Int32.le_toInt p2; have := Int32.toInt_lt p2
  have := Int32.le_toInt p3; have := Int32.toInt_lt p3
  have := Int32.le_toInt v15; have := Int32.toInt_lt v15
  have := Int32.le_toInt v18; have := Int32.toInt_lt v18
  have := Int32.le_toInt v23; have := Int32.toInt_lt v23
  have := Int64.le_toInt v24; have := Int64.toInt_lt v24
  have := Int64.le_toInt v25; have := Int64.toInt_lt v25
  have := Int64.le_toInt v26; have := Int64.toInt_lt v26
  have := Int64.le_toInt v27; have := Int64.toInt_lt v27
  have bl1 := Int32.le_toInt ex1; have bu1 := Int32.toInt_lt ex1
  have fa1 := c_mask p1 (2147483647 : Int32) 31 (by decide) (by decide); rw [hex1] at fa1; try simp only [Int32.reduceToInt, Int64.reduceToInt] at fa1
  clear hex1
  have bl2 := Int32.le_toInt ex2; have bu2 := Int32.toInt_lt ex2
  have fa2 := c_mask p3 (1 : Int32) 1 (by decide) (by decide); rw [hex2] at fa2; try simp only [Int32.reduceToInt, Int64.reduceToInt] at fa2
  clear hex2
  have bl3 := Int32.le_toInt ex3; have bu3 := Int32.toInt_lt ex3
  have fa3 := c_mask p2 (7 : Int32) 3 (by decide) (by decide); rw [hex3] at fa3; try simp only [Int32.reduceToInt, Int64.reduceToInt] at fa3
  clear hex3
  have bl4 := Int32.le_toInt ex4; have bu4 := Int32.toInt_lt ex4
  have fa4 := c_mask p2 (2147483647 : Int32) 31 (by decide) (by decide); rw [hex4] at fa4; try simp only [Int32.reduceToInt, Int64.reduceToInt] at fa4
  clear hex4
  try simp only [Int32.lt_iff_toInt_lt, Int64.lt_iff_toInt_lt, ← Int32.toInt_inj, ← Int64.toInt_inj, Int32.reduceToInt, Int64.reduceToInt, not_true_eq_false, not_false_eq_true, false_and, and_false, true_and, and_true, false_or, or_false, true_or, or_true] at fc5
  try simp only [Int32.lt_iff_toInt_lt, Int64.lt_iff_toInt_lt, ← Int32.toInt_inj, ← Int64.toInt_inj, Int32.reduceToInt, Int64.reduceToInt, not_true_eq_false, not_false_eq_true, false_and, and_false, true_and, and_true, false_or, or_false, true_or, or_true] at fc6
  try simp only [Int32.lt_iff_toInt_lt, Int64.lt_iff_toInt_lt, ← Int32.toInt_inj, ← Int64.toInt_inj, Int32.reduceToInt, Int64.reduceToInt, not_true_eq_false, not_false_eq_true, false_and, and_false, true_and, and_true, false_or, or_false, true_or, or_true] at fc7
  have bl8 := Int32.le_toInt ex8; have bu8 := Int32.toInt_lt ex8
  have fa8 := c_isub v15 v18; rw [hex8] at fa8; try simp only [Int32.reduceToInt, Int64.reduceToInt] at fa8
  clear hex8
  have bl9 := Int64.le_toInt ex9; have bu9 := Int64.toInt_lt ex9
  have fa9 := c_i2l p0; rw [hex9] at fa9; try simp only [Int32.reduceToInt, Int64.reduceToInt] at fa9
  clear hex9
  have bl10 := Int64.le_toInt ex10; have bu10 := Int64.toInt_lt ex10
  have fa10 := c_i2l v15; rw [hex10] at fa10; try simp only [Int32.reduceToInt, Int64.reduceToInt] at fa10
  clear hex10
  have bl11 := Int64.le_toInt ex11; have bu11 := Int64.toInt_lt ex11
  have fa11 := c_i2l v18; rw [hex11] at fa11; try simp only [Int32.reduceToInt, Int64.reduceToInt] at fa11
  clear hex11
  have bl12 := Int64.le_toInt ex12; have bu12 := Int64.toInt_lt ex12
  have fa12 := c_i2l v23; rw [hex12] at fa12; try simp only [Int32.reduceToInt, Int64.reduceToInt] at fa12
  clear hex12
  have bl13 := Int64.le_toInt ex13; have bu13 := Int64.toInt_lt ex13
  have fa13 := c_ladd v27 v26; rw [hex13] at fa13; try simp only [Int32.reduceToInt, Int64.reduceToInt] at fa13
  clear hex13
  all_goals omega
set_option maxRecDepth 65536 in
set_option maxHeartbeats 40000000 in
theorem own_leaf0_17 (p0 : Int32) (p1 : Int32) (p2 : Int32) (p3 : Int32) (v15 : Int32) (hv15 : v15 = (p1 &&& (2147483647 : Int32))) (v18 : Int32) (hv18 : v18 = (if (p3 &&& (1 : Int32)) = (0 : Int32) then (p2 &&& (2147483647 : Int32)) else (p2 &&& (7 : Int32)))) (v23 : Int32) (hv23 : v23 = (own_f1 p0 v15 v18)) (v24 : Int64) (hv24 : v24 = (p0.toInt64)) (v25 : Int64) (hv25 : v25 = (v15.toInt64)) (v26 : Int64) (hv26 : v26 = (v18.toInt64)) (v27 : Int64) (hv27 : v27 = (v23.toInt64)) (hc29 : ¬ (v18 = (0 : Int32))) (hc45 : v25 < v26) (hc47 : ¬ (v23 = (-1 : Int32))) (hc49 : ¬ (v27 < (0 : Int64))) (hc55 : ¬ (v27 < v24)) (hc61 : v25 < (v27 + v26)) (hc63 : ¬ (v27 = (0 : Int64))) (hc65 : (v27 - (1 : Int64)) < v24) : False := by
  have dv18 : ((p3 &&& (1 : Int32)) = (0 : Int32) ∧ (v18 = (p2 &&& (2147483647 : Int32)))) ∨ (¬ ((p3 &&& (1 : Int32)) = (0 : Int32)) ∧ (v18 = (p2 &&& (7 : Int32)))) := (if cq0 : (p3 &&& (1 : Int32)) = (0 : Int32) then Or.inl ⟨cq0, (by rw [hv18, if_pos cq0])⟩ else Or.inr ⟨cq0, (by rw [hv18, if_neg cq0])⟩)
  clear hv18
  generalize hex1 : (p1 &&& (2147483647 : Int32)) = ex1 at *
  generalize hex2 : (p3 &&& (1 : Int32)) = ex2 at *
  generalize hex3 : (p2 &&& (7 : Int32)) = ex3 at *
  generalize hex4 : (p2 &&& (2147483647 : Int32)) = ex4 at *
  have fc5 := own_f1_cases p0 v15 v18
  generalize own_f1 p0 v15 v18 = ex5 at *
  have fc6 := own_f2_cases p0 (0 : Int32)
  generalize own_f2 p0 (0 : Int32) = ex6 at *
  have fc7 := own_f3_cases ex6 v15
  generalize own_f3 ex6 v15 = ex7 at *
  generalize hex8 : (v15 - v18) = ex8 at *
  generalize hex9 : (p0.toInt64) = ex9 at *
  generalize hex10 : (v15.toInt64) = ex10 at *
  generalize hex11 : (v18.toInt64) = ex11 at *
  generalize hex12 : (v23.toInt64) = ex12 at *
  generalize hex13 : (v27 + v26) = ex13 at *
  generalize hex14 : (v27 - (1 : Int64)) = ex14 at *
  try simp only [Int32.lt_iff_toInt_lt, Int64.lt_iff_toInt_lt, ← Int32.toInt_inj, ← Int64.toInt_inj, Int32.reduceToInt, Int64.reduceToInt, not_true_eq_false, not_false_eq_true, false_and, and_false, true_and, and_true, false_or, or_false, true_or, or_true] at dv18
  try simp only [Int32.lt_iff_toInt_lt, Int64.lt_iff_toInt_lt, ← Int32.toInt_inj, ← Int64.toInt_inj, Int32.reduceToInt, Int64.reduceToInt, not_true_eq_false, not_false_eq_true, false_and, and_false, true_and, and_true, false_or, or_false, true_or, or_true] at hv15
  try simp only [Int32.lt_iff_toInt_lt, Int64.lt_iff_toInt_lt, ← Int32.toInt_inj, ← Int64.toInt_inj, Int32.reduceToInt, Int64.reduceToInt, not_true_eq_false, not_false_eq_true, false_and, and_false, true_and, and_true, false_or, or_false, true_or, or_true] at hv23
  try simp only [Int32.lt_iff_toInt_lt, Int64.lt_iff_toInt_lt, ← Int32.toInt_inj, ← Int64.toInt_inj, Int32.reduceToInt, Int64.reduceToInt, not_true_eq_false, not_false_eq_true, false_and, and_false, true_and, and_true, false_or, or_false, true_or, or_true] at hv24
  try simp only [Int32.lt_iff_toInt_lt, Int64.lt_iff_toInt_lt, ← Int32.toInt_inj, ← Int64.toInt_inj, Int32.reduceToInt, Int64.reduceToInt, not_true_eq_false, not_false_eq_true, false_and, and_false, true_and, and_true, false_or, or_false, true_or, or_true] at hv25
  try simp only [Int32.lt_iff_toInt_lt, Int64.lt_iff_toInt_lt, ← Int32.toInt_inj, ← Int64.toInt_inj, Int32.reduceToInt, Int64.reduceToInt, not_true_eq_false, not_false_eq_true, false_and, and_false, true_and, and_true, false_or, or_false, true_or, or_true] at hv26
  try simp only [Int32.lt_iff_toInt_lt, Int64.lt_iff_toInt_lt, ← Int32.toInt_inj, ← Int64.toInt_inj, Int32.reduceToInt, Int64.reduceToInt, not_true_eq_false, not_false_eq_true, false_and, and_false, true_and, and_true, false_or, or_false, true_or, or_true] at hv27
  try simp only [Int32.lt_iff_toInt_lt, Int64.lt_iff_toInt_lt, ← Int32.toInt_inj, ← Int64.toInt_inj, Int32.reduceToInt, Int64.reduceToInt, not_true_eq_false, not_false_eq_true, false_and, and_false, true_and, and_true, false_or, or_false, true_or, or_true] at hc29
  try simp only [Int32.lt_iff_toInt_lt, Int64.lt_iff_toInt_lt, ← Int32.toInt_inj, ← Int64.toInt_inj, Int32.reduceToInt, Int64.reduceToInt, not_true_eq_false, not_false_eq_true, false_and, and_false, true_and, and_true, false_or, or_false, true_or, or_true] at hc45
  try simp only [Int32.lt_iff_toInt_lt, Int64.lt_iff_toInt_lt, ← Int32.toInt_inj, ← Int64.toInt_inj, Int32.reduceToInt, Int64.reduceToInt, not_true_eq_false, not_false_eq_true, false_and, and_false, true_and, and_true, false_or, or_false, true_or, or_true] at hc47
  try simp only [Int32.lt_iff_toInt_lt, Int64.lt_iff_toInt_lt, ← Int32.toInt_inj, ← Int64.toInt_inj, Int32.reduceToInt, Int64.reduceToInt, not_true_eq_false, not_false_eq_true, false_and, and_false, true_and, and_true, false_or, or_false, true_or, or_true] at hc49
  try simp only [Int32.lt_iff_toInt_lt, Int64.lt_iff_toInt_lt, ← Int32.toInt_inj, ← Int64.toInt_inj, Int32.reduceToInt, Int64.reduceToInt, not_true_eq_false, not_false_eq_true, false_and, and_false, true_and, and_true, false_or, or_false, true_or, or_true] at hc55
  try simp only [Int32.lt_iff_toInt_lt, Int64.lt_iff_toInt_lt, ← Int32.toInt_inj, ← Int64.toInt_inj, Int32.reduceToInt, Int64.reduceToInt, not_true_eq_false, not_false_eq_true, false_and, and_false, true_and, and_true, false_or, or_false, true_or, or_true] at hc61
  try simp only [Int32.lt_iff_toInt_lt, Int64.lt_iff_toInt_lt, ← Int32.toInt_inj, ← Int64.toInt_inj, Int32.reduceToInt, Int64.reduceToInt, not_true_eq_false, not_false_eq_true, false_and, and_false, true_and, and_true, false_or, or_false, true_or, or_true] at hc63
  try simp only [Int32.lt_iff_toInt_lt, Int64.lt_iff_toInt_lt, ← Int32.toInt_inj, ← Int64.toInt_inj, Int32.reduceToInt, Int64.reduceToInt, not_true_eq_false, not_false_eq_true, false_and, and_false, true_and, and_true, false_or, or_false, true_or, or_true] at hc65
  have := Int32.le_toInt p0; have := Int32.toInt_lt p0
  have := Int32.le_toInt p1; have := Int32.toInt_lt p1
  have := Int32.le_toInt p2; have := Int32.toInt_lt p2
  have := Int32.le_toInt p3; have := Int32.toInt_lt p3
  have := Int32.le_toInt v15; have := Int32.toInt_lt v15
  have := Int32.le_toInt v18; have := Int32.toInt_lt v18
  have := Int32.le_toInt v23; have := Int32.toInt_lt v23
  have := Int64.le_toInt v24; have := Int64.toInt_lt v24
  have := Int64.le_toInt v25; have := Int64.toInt_lt v25
  have := Int64.le_toInt v26; have := Int64.toInt_lt v26
  have := Int64.le_toInt v27; have := Int64.toInt_lt v27
  have bl1 := Int32.le_toInt ex1; have bu1 := Int32.toInt_lt ex1
  have fa1 := c_mask p1 (2147483647 : Int32) 31 (by decide) (by decide); rw [hex1] at fa1; try simp only [Int32.reduceToInt, Int64.reduceToInt] at fa1
  clear hex1
  have bl2 := Int32.le_toInt ex2; have bu2 := Int32.toInt_lt ex2
  have fa2 := c_mask p3 (1 : Int32) 1 (by decide) (by decide); rw [hex2] at fa2; try simp only [Int32.reduceToInt, Int64.reduceToInt] at fa2
  clear hex2
  have bl3 := Int32.le_toInt ex3; have bu3 := Int32.toInt_lt ex3
  have fa3 := c_mask p2 (7 : Int32) 3 (by decide) (by decide); rw [hex3] at fa3; try simp only [Int32.reduceToInt, Int64.reduceToInt] at fa3
  clear hex3
  have bl4 := Int32.le_toInt ex4; have bu4 := Int32.toInt_lt ex4
  have fa4 := c_mask p2 (2147483647 : Int32) 31 (by decide) (by decide); rw [hex4] at fa4; try simp only [Int32.reduceToInt, Int64.reduceToInt] at fa4
  clear hex4
  try simp only [Int32.lt_iff_toInt_lt, Int64.lt_iff_toInt_lt, ← Int32.toInt_inj, ← Int64.toInt_inj, Int32.reduceToInt, Int64.reduceToInt, not_true_eq_false, not_false_eq_true, false_and, and_false, true_and, and_true, false_or, or_false, true_or, or_true] at fc5
  try simp only [Int32.lt_iff_toInt_lt, Int64.lt_iff_toInt_lt, ← Int32.toInt_inj, ← Int64.toInt_inj, Int32.reduceToInt, Int64.reduceToInt, not_true_eq_false, not_false_eq_true, false_and, and_false, true_and, and_true, false_or, or_false, true_or, or_true] at fc6
  try simp only [Int32.lt_iff_toInt_lt, Int64.lt_iff_toInt_lt, ← Int32.toInt_inj, ← Int64.toInt_inj, Int32.reduceToInt, Int64.reduceToInt, not_true_eq_false, not_false_eq_true, false_and, and_false, true_and, and_true, false_or, or_false, true_or, or_true] at fc7
  have bl8 := Int32.le_toInt ex8; have bu8 := Int32.toInt_lt ex8
  have fa8 := c_isub v15 v18; rw [hex8] at fa8; try simp only [Int32.reduceToInt, Int64.reduceToInt] at fa8
  clear hex8
  have bl9 := Int64.le_toInt ex9; have bu9 := Int64.toInt_lt ex9
  have fa9 := c_i2l p0; rw [hex9] at fa9; try simp only [Int32.reduceToInt, Int64.reduceToInt] at fa9
  clear hex9
  have bl10 := Int64.le_toInt ex10; have bu10 := Int64.toInt_lt ex10
  have fa10 := c_i2l v15; rw [hex10] at fa10; try simp only [Int32.reduceToInt, Int64.reduceToInt] at fa10
  clear hex10
  have bl11 := Int64.le_toInt ex11; have bu11 := Int64.toInt_lt ex11
  have fa11 := c_i2l v18; rw [hex11] at fa11; try simp only [Int32.reduceToInt, Int64.reduceToInt] at fa11
  clear hex11
  have bl12 := Int64.le_toInt ex12; have bu12 := Int64.toInt_lt ex12
  have fa12 := c_i2l v23; rw [hex12] at fa12; try simp only [Int32.reduceToInt, Int64.reduceToInt] at fa12
  clear hex12
  have bl13 := Int64.le_toInt ex13; have bu13 := Int64.toInt_lt ex13
  have fa13 := c_ladd v27 v26; rw [hex13] at fa13; try simp only [Int32.reduceToInt, Int64.reduceToInt] at fa13
  clear hex13
  have bl14 := Int64.le_toInt ex14; have bu14 := Int64.toInt_lt ex14
  have fa14 := c_lsub v27 (1 : Int64); rw [hex14] at fa14; try simp only [Int32.reduceToInt, Int64.reduceToInt] at fa14
  clear hex14
  all_goals omega
set_option maxRecDepth 65536 in
set_option maxHeartbeats 40000000 in
theorem own_leaf0_18 (p0 : Int32) (p1 : Int32) (p2 : Int32) (p3 : Int32) (v15 : Int32) (hv15 : v15 = (p1 &&& (2147483647 : Int32))) (v18 : Int32) (hv18 : v18 = (if (p3 &&& (1 : Int32)) = (0 : Int32) then (p2 &&& (2147483647 : Int32)) else (p2 &&& (7 : Int32)))) (v23 : Int32) (hv23 : v23 = (own_f1 p0 v15 v18)) (v24 : Int64) (hv24 : v24 = (p0.toInt64)) (v25 : Int64) (hv25 : v25 = (v15.toInt64)) (v26 : Int64) (hv26 : v26 = (v18.toInt64)) (v27 : Int64) (hv27 : v27 = (v23.toInt64)) (hc29 : ¬ (v18 = (0 : Int32))) (hc45 : v25 < v26) (hc47 : ¬ (v23 = (-1 : Int32))) (hc49 : ¬ (v27 < (0 : Int64))) (hc55 : ¬ (v27 < v24)) (hc61 : v25 < (v27 + v26)) (hc63 : ¬ (v27 = (0 : Int64))) (hc65 : ¬ ((v27 - (1 : Int64)) < v24)) : False := by
  have dv18 : ((p3 &&& (1 : Int32)) = (0 : Int32) ∧ (v18 = (p2 &&& (2147483647 : Int32)))) ∨ (¬ ((p3 &&& (1 : Int32)) = (0 : Int32)) ∧ (v18 = (p2 &&& (7 : Int32)))) := (if cq0 : (p3 &&& (1 : Int32)) = (0 : Int32) then Or.inl ⟨cq0, (by rw [hv18, if_pos cq0])⟩ else Or.inr ⟨cq0, (by rw [hv18, if_neg cq0])⟩)
  clear hv18
  generalize hex1 : (p1 &&& (2147483647 : Int32)) = ex1 at *
  generalize hex2 : (p3 &&& (1 : Int32)) = ex2 at *
  generalize hex3 : (p2 &&& (7 : Int32)) = ex3 at *
  generalize hex4 : (p2 &&& (2147483647 : Int32)) = ex4 at *
  have fc5 := own_f1_cases p0 v15 v18
  generalize own_f1 p0 v15 v18 = ex5 at *
  have fc6 := own_f2_cases p0 (0 : Int32)
  generalize own_f2 p0 (0 : Int32) = ex6 at *
  have fc7 := own_f3_cases ex6 v15
  generalize own_f3 ex6 v15 = ex7 at *
  generalize hex8 : (v15 - v18) = ex8 at *
  generalize hex9 : (p0.toInt64) = ex9 at *
  generalize hex10 : (v15.toInt64) = ex10 at *
  generalize hex11 : (v18.toInt64) = ex11 at *
  generalize hex12 : (v23.toInt64) = ex12 at *
  generalize hex13 : (v27 + v26) = ex13 at *
  generalize hex14 : (v27 - (1 : Int64)) = ex14 at *
  try simp only [Int32.lt_iff_toInt_lt, Int64.lt_iff_toInt_lt, ← Int32.toInt_inj, ← Int64.toInt_inj, Int32.reduceToInt, Int64.reduceToInt, not_true_eq_false, not_false_eq_true, false_and, and_false, true_and, and_true, false_or, or_false, true_or, or_true] at dv18
  try simp only [Int32.lt_iff_toInt_lt, Int64.lt_iff_toInt_lt, ← Int32.toInt_inj, ← Int64.toInt_inj, Int32.reduceToInt, Int64.reduceToInt, not_true_eq_false, not_false_eq_true, false_and, and_false, true_and, and_true, false_or, or_false, true_or, or_true] at hv15
  try simp only [Int32.lt_iff_toInt_lt, Int64.lt_iff_toInt_lt, ← Int32.toInt_inj, ← Int64.toInt_inj, Int32.reduceToInt, Int64.reduceToInt, not_true_eq_false, not_false_eq_true, false_and, and_false, true_and, and_true, false_or, or_false, true_or, or_true] at hv23
  try simp only [Int32.lt_iff_toInt_lt, Int64.lt_iff_toInt_lt, ← Int32.toInt_inj, ← Int64.toInt_inj, Int32.reduceToInt, Int64.reduceToInt, not_true_eq_false, not_false_eq_true, false_and, and_false, true_and, and_true, false_or, or_false, true_or, or_true] at hv24
  try simp only [Int32.lt_iff_toInt_lt, Int64.lt_iff_toInt_lt, ← Int32.toInt_inj, ← Int64.toInt_inj, Int32.reduceToInt, Int64.reduceToInt, not_true_eq_false, not_false_eq_true, false_and, and_false, true_and, and_true, false_or, or_false, true_or, or_true] at hv25
  try simp only [Int32.lt_iff_toInt_lt, Int64.lt_iff_toInt_lt, ← Int32.toInt_inj, ← Int64.toInt_inj, Int32.reduceToInt, Int64.reduceToInt, not_true_eq_false, not_false_eq_true, false_and, and_false, true_and, and_true, false_or, or_false, true_or, or_true] at hv26
  try simp only [Int32.lt_iff_toInt_lt, Int64.lt_iff_toInt_lt, ← Int32.toInt_inj, ← Int64.toInt_inj, Int32.reduceToInt, Int64.reduceToInt, not_true_eq_false, not_false_eq_true, false_and, and_false, true_and, and_true, false_or, or_false, true_or, or_true] at hv27
  try simp only [Int32.lt_iff_toInt_lt, Int64.lt_iff_toInt_lt, ← Int32.toInt_inj, ← Int64.toInt_inj, Int32.reduceToInt, Int64.reduceToInt, not_true_eq_false, not_false_eq_true, false_and, and_false, true_and, and_true, false_or, or_false, true_or, or_true] at hc29
  try simp only [Int32.lt_iff_toInt_lt, Int64.lt_iff_toInt_lt, ← Int32.toInt_inj, ← Int64.toInt_inj, Int32.reduceToInt, Int64.reduceToInt, not_true_eq_false, not_false_eq_true, false_and, and_false, true_and, and_true, false_or, or_false, true_or, or_true] at hc45
  try simp only [Int32.lt_iff_toInt_lt, Int64.lt_iff_toInt_lt, ← Int32.toInt_inj, ← Int64.toInt_inj, Int32.reduceToInt, Int64.reduceToInt, not_true_eq_false, not_false_eq_true, false_and, and_false, true_and, and_true, false_or, or_false, true_or, or_true] at hc47
  try simp only [Int32.lt_iff_toInt_lt, Int64.lt_iff_toInt_lt, ← Int32.toInt_inj, ← Int64.toInt_inj, Int32.reduceToInt, Int64.reduceToInt, not_true_eq_false, not_false_eq_true, false_and, and_false, true_and, and_true, false_or, or_false, true_or, or_true] at hc49
  try simp only [Int32.lt_iff_toInt_lt, Int64.lt_iff_toInt_lt, ← Int32.toInt_inj, ← Int64.toInt_inj, Int32.reduceToInt, Int64.reduceToInt, not_true_eq_false, not_false_eq_true, false_and, and_false, true_and, and_true, false_or, or_false, true_or, or_true] at hc55
  try simp only [Int32.lt_iff_toInt_lt, Int64.lt_iff_toInt_lt, ← Int32.toInt_inj, ← Int64.toInt_inj, Int32.reduceToInt, Int64.reduceToInt, not_true_eq_false, not_false_eq_true, false_and, and_false, true_and, and_true, false_or, or_false, true_or, or_true] at hc61
  try simp only [Int32.lt_iff_toInt_lt, Int64.lt_iff_toInt_lt, ← Int32.toInt_inj, ← Int64.toInt_inj, Int32.reduceToInt, Int64.reduceToInt, not_true_eq_false, not_false_eq_true, false_and, and_false, true_and, and_true, false_or, or_false, true_or, or_true] at hc63
  try simp only [Int32.lt_iff_toInt_lt, Int64.lt_iff_toInt_lt, ← Int32.toInt_inj, ← Int64.toInt_inj, Int32.reduceToInt, Int64.reduceToInt, not_true_eq_false, not_false_eq_true, false_and, and_false, true_and, and_true, false_or, or_false, true_or, or_true] at hc65
  have := Int32.le_toInt p0; have := Int32.toInt_lt p0
  have := Int32.le_toInt p1; have := Int32.toInt_lt p1
  have := Int32.le_toInt p2; have := Int32.toInt_lt p2
  have := Int32.le_toInt p3; have := Int32.toInt_lt p3
  have := Int32.le_toInt v15; have := Int32.toInt_lt v15
  have := Int32.le_toInt v18; have := Int32.toInt_lt v18
  have := Int32.le_toInt v23; have := Int32.toInt_lt v23
  have := Int64.le_toInt v24; have := Int64.toInt_lt v24
  have := Int64.le_toInt v25; have := Int64.toInt_lt v25
  have := Int64.le_toInt v26; have := Int64.toInt_lt v26
  have := Int64.le_toInt v27; have := Int64.toInt_lt v27
  have bl1 := Int32.le_toInt ex1; have bu1 := Int32.toInt_lt ex1
  have fa1 := c_mask p1 (2147483647 : Int32) 31 (by decide) (by decide); rw [hex1] at fa1; try simp only [Int32.reduceToInt, Int64.reduceToInt] at fa1
  clear hex1
  have bl2 := Int32.le_toInt ex2; have bu2 := Int32.toInt_lt ex2
  have fa2 := c_mask p3 (1 : Int32) 1 (by decide) (by decide); rw [hex2] at fa2; try simp only [Int32.reduceToInt, Int64.reduceToInt] at fa2
  clear hex2
  have bl3 := Int32.le_toInt ex3; have bu3 := Int32.toInt_lt ex3
  have fa3 := c_mask p2 (7 : Int32) 3 (by decide) (by decide); rw [hex3] at fa3; try simp only [Int32.reduceToInt, Int64.reduceToInt] at fa3
  clear hex3
  have bl4 := Int32.le_toInt ex4; have bu4 := Int32.toInt_lt ex4
  have fa4 := c_mask p2 (2147483647 : Int32) 31 (by decide) (by decide); rw [hex4] at fa4; try simp only [Int32.reduceToInt, Int64.reduceToInt] at fa4
  clear hex4
  try simp only [Int32.lt_iff_toInt_lt, Int64.lt_iff_toInt_lt, ← Int32.toInt_inj, ← Int64.toInt_inj, Int32.reduceToInt, Int64.reduceToInt, not_true_eq_false, not_false_eq_true, false_and, and_false, true_and, and_true, false_or, or_false, true_or, or_true] at fc5
  try simp only [Int32.lt_iff_toInt_lt, Int64.lt_iff_toInt_lt, ← Int32.toInt_inj, ← Int64.toInt_inj, Int32.reduceToInt, Int64.reduceToInt, not_true_eq_false, not_false_eq_true, false_and, and_false, true_and, and_true, false_or, or_false, true_or, or_true] at fc6
  try simp only [Int32.lt_iff_toInt_lt, Int64.lt_iff_toInt_lt, ← Int32.toInt_inj, ← Int64.toInt_inj, Int32.reduceToInt, Int64.reduceToInt, not_true_eq_false, not_false_eq_true, false_and, and_false, true_and, and_true, false_or, or_false, true_or, or_true] at fc7
  have bl8 := Int32.le_toInt ex8; have bu8 := Int32.toInt_lt ex8
  have fa8 := c_isub v15 v18; rw [hex8] at fa8; try simp only [Int32.reduceToInt, Int64.reduceToInt] at fa8
  clear hex8
  have bl9 := Int64.le_toInt ex9; have bu9 := Int64.toInt_lt ex9
  have fa9 := c_i2l p0; rw [hex9] at fa9; try simp only [Int32.reduceToInt, Int64.reduceToInt] at fa9
  clear hex9
  have bl10 := Int64.le_toInt ex10; have bu10 := Int64.toInt_lt ex10
  have fa10 := c_i2l v15; rw [hex10] at fa10; try simp only [Int32.reduceToInt, Int64.reduceToInt] at fa10
  clear hex10
  have bl11 := Int64.le_toInt ex11; have bu11 := Int64.toInt_lt ex11
  have fa11 := c_i2l v18; rw [hex11] at fa11; try simp only [Int32.reduceToInt, Int64.reduceToInt] at fa11
  clear hex11
  have bl12 := Int64.le_toInt ex12; have bu12 := Int64.toInt_lt ex12
  have fa12 := c_i2l v23; rw [hex12] at fa12; try simp only [Int32.reduceToInt, Int64.reduceToInt] at fa12
  clear hex12
  have bl13 := Int64.le_toInt ex13; have bu13 := Int64.toInt_lt ex13
  have fa13 := c_ladd v27 v26; rw [hex13] at fa13; try simp only [Int32.reduceToInt, Int64.reduceToInt] at fa13
  clear hex13
  have bl14 := Int64.le_toInt ex14; have bu14 := Int64.toInt_lt ex14
  have fa14 := c_lsub v27 (1 : Int64); rw [hex14] at fa14; try simp only [Int32.reduceToInt, Int64.reduceToInt] at fa14
  clear hex14
  all_goals omega
set_option maxRecDepth 65536 in
set_option maxHeartbeats 40000000 in
theorem own_leaf0_19 (p0 : Int32) (p1 : Int32) (p2 : Int32) (p3 : Int32) (v15 : Int32) (hv15 : v15 = (p1 &&& (2147483647 : Int32))) (v18 : Int32) (hv18 : v18 = (if (p3 &&& (1 : Int32)) = (0 : Int32) then (p2 &&& (2147483647 : Int32)) else (p2 &&& (7 : Int32)))) (v23 : Int32) (hv23 : v23 = (own_f1 p0 v15 v18)) (v24 : Int64) (hv24 : v24 = (p0.toInt64)) (v25 : Int64) (hv25 : v25 = (v15.toInt64)) (v26 : Int64) (hv26 : v26 = (v18.toInt64)) (v27 : Int64) (hv27 : v27 = (v23.toInt64)) (hc29 : ¬ (v18 = (0 : Int32))) (hc45 : v25 < v26) (hc47 : ¬ (v23 = (-1 : Int32))) (hc49 : ¬ (v27 < (0 : Int64))) (hc55 : ¬ (v27 < v24)) (hc61 : ¬ (v25 < (v27 + v26))) (hc67 : v27 = (0 : Int64)) : False := by
  have dv18 : ((p3 &&& (1 : Int32)) = (0 : Int32) ∧ (v18 = (p2 &&& (2147483647 : Int32)))) ∨ (¬ ((p3 &&& (1 : Int32)) = (0 : Int32)) ∧ (v18 = (p2 &&& (7 : Int32)))) := (if cq0 : (p3 &&& (1 : Int32)) = (0 : Int32) then Or.inl ⟨cq0, (by rw [hv18, if_pos cq0])⟩ else Or.inr ⟨cq0, (by rw [hv18, if_neg cq0])⟩)
  clear hv18
  generalize hex1 : (p1 &&& (2147483647 : Int32)) = ex1 at *
  generalize hex2 : (p3 &&& (1 : Int32)) = ex2 at *
  generalize hex3 : (p2 &&& (7 : Int32)) = ex3 at *
  generalize hex4 : (p2 &&& (2147483647 : Int32)) = ex4 at *
  have fc5 := own_f1_cases p0 v15 v18
  generalize own_f1 p0 v15 v18 = ex5 at *
  have fc6 := own_f2_cases p0 (0 : Int32)
  generalize own_f2 p0 (0 : Int32) = ex6 at *
  have fc7 := own_f3_cases ex6 v15
  generalize own_f3 ex6 v15 = ex7 at *
  generalize hex8 : (v15 - v18) = ex8 at *
  generalize hex9 : (p0.toInt64) = ex9 at *
  generalize hex10 : (v15.toInt64) = ex10 at *
  generalize hex11 : (v18.toInt64) = ex11 at *
  generalize hex12 : (v23.toInt64) = ex12 at *
  generalize hex13 : (v27 + v26) = ex13 at *
  try simp only [Int32.lt_iff_toInt_lt, Int64.lt_iff_toInt_lt, ← Int32.toInt_inj, ← Int64.toInt_inj, Int32.reduceToInt, Int64.reduceToInt, not_true_eq_false, not_false_eq_true, false_and, and_false, true_and, and_true, false_or, or_false, true_or, or_true] at dv18
  try simp only [Int32.lt_iff_toInt_lt, Int64.lt_iff_toInt_lt, ← Int32.toInt_inj, ← Int64.toInt_inj, Int32.reduceToInt, Int64.reduceToInt, not_true_eq_false, not_false_eq_true, false_and, and_false, true_and, and_true, false_or, or_false, true_or, or_true] at hv15
  try simp only [Int32.lt_iff_toInt_lt, Int64.lt_iff_toInt_lt, ← Int32.toInt_inj, ← Int64.toInt_inj, Int32.reduceToInt, Int64.reduceToInt, not_true_eq_false, not_false_eq_true, false_and, and_false, true_and, and_true, false_or, or_false, true_or, or_true] at hv23
  try simp only [Int32.lt_iff_toInt_lt, Int64.lt_iff_toInt_lt, ← Int32.toInt_inj, ← Int64.toInt_inj, Int32.reduceToInt, Int64.reduceToInt, not_true_eq_false, not_false_eq_true, false_and, and_false, true_and, and_true, false_or, or_false, true_or, or_true] at hv24
  try simp only [Int32.lt_iff_toInt_lt, Int64.lt_iff_toInt_lt, ← Int32.toInt_inj, ← Int64.toInt_inj, Int32.reduceToInt, Int64.reduceToInt, not_true_eq_false, not_false_eq_true, false_and, and_false, true_and, and_true, false_or, or_false, true_or, or_true] at hv25
  try simp only [Int32.lt_iff_toInt_lt, Int64.lt_iff_toInt_lt, ← Int32.toInt_inj, ← Int64.toInt_inj, Int32.reduceToInt, Int64.reduceToInt, not_true_eq_false, not_false_eq_true, false_and, and_false, true_and, and_true, false_or, or_false, true_or, or_true] at hv26
  try simp only [Int32.lt_iff_toInt_lt, Int64.lt_iff_toInt_lt, ← Int32.toInt_inj, ← Int64.toInt_inj, Int32.reduceToInt, Int64.reduceToInt, not_true_eq_false, not_false_eq_true, false_and, and_false, true_and, and_true, false_or, or_false, true_or, or_true] at hv27
  try simp only [Int32.lt_iff_toInt_lt, Int64.lt_iff_toInt_lt, ← Int32.toInt_inj, ← Int64.toInt_inj, Int32.reduceToInt, Int64.reduceToInt, not_true_eq_false, not_false_eq_true, false_and, and_false, true_and, and_true, false_or, or_false, true_or, or_true] at hc29
  try simp only [Int32.lt_iff_toInt_lt, Int64.lt_iff_toInt_lt, ← Int32.toInt_inj, ← Int64.toInt_inj, Int32.reduceToInt, Int64.reduceToInt, not_true_eq_false, not_false_eq_true, false_and, and_false, true_and, and_true, false_or, or_false, true_or, or_true] at hc45
  try simp only [Int32.lt_iff_toInt_lt, Int64.lt_iff_toInt_lt, ← Int32.toInt_inj, ← Int64.toInt_inj, Int32.reduceToInt, Int64.reduceToInt, not_true_eq_false, not_false_eq_true, false_and, and_false, true_and, and_true, false_or, or_false, true_or, or_true] at hc47
  try simp only [Int32.lt_iff_toInt_lt, Int64.lt_iff_toInt_lt, ← Int32.toInt_inj, ← Int64.toInt_inj, Int32.reduceToInt, Int64.reduceToInt, not_true_eq_false, not_false_eq_true, false_and, and_false, true_and, and_true, false_or, or_false, true_or, or_true] at hc49
  try simp only [Int32.lt_iff_toInt_lt, Int64.lt_iff_toInt_lt, ← Int32.toInt_inj, ← Int64.toInt_inj, Int32.reduceToInt, Int64.reduceToInt, not_true_eq_false, not_false_eq_true, false_and, and_false, true_and, and_true, false_or, or_false, true_or, or_true] at hc55
  try simp only [Int32.lt_iff_toInt_lt, Int64.lt_iff_toInt_lt, ← Int32.toInt_inj, ← Int64.toInt_inj, Int32.reduceToInt, Int64.reduceToInt, not_true_eq_false, not_false_eq_true, false_and, and_false, true_and, and_true, false_or, or_false, true_or, or_true] at hc61
  try simp only [Int32.lt_iff_toInt_lt, Int64.lt_iff_toInt_lt, ← Int32.toInt_inj, ← Int64.toInt_inj, Int32.reduceToInt, Int64.reduceToInt, not_true_eq_false, not_false_eq_true, false_and, and_false, true_and, and_true, false_or, or_false, true_or, or_true] at hc67
  have := Int32.le_toInt p0; have := Int32.toInt_lt p0
  have := Int32.le_toInt p1; have := Int32.toInt_lt p1
  have := Int32.le_toInt p2; have := Int32.toInt_lt p2
  have := Int32.le_toInt p3; have := Int32.toInt_lt p3
  have := Int32.le_toInt v15; have := Int32.toInt_lt v15
  have := Int32.le_toInt v18; have := Int32.toInt_lt v18
  have := Int32.le_toInt v23; have := Int32.toInt_lt v23
  have := Int64.le_toInt v24; have := Int64.toInt_lt v24
  have := Int64.le_toInt v25; have := Int64.toInt_lt v25
  have := Int64.le_toInt v26; have := Int64.toInt_lt v26
  have := Int64.le_toInt v27; have := Int64.toInt_lt v27
  have bl1 := Int32.le_toInt ex1; have bu1 := Int32.toInt_lt ex1
  have fa1 := c_mask p1 (2147483647 : Int32) 31 (by decide) (by decide); rw [hex1] at fa1; try simp only [Int32.reduceToInt, Int64.reduceToInt] at fa1
  clear hex1
  have bl2 := Int32.le_toInt ex2; have bu2 := Int32.toInt_lt ex2
  have fa2 := c_mask p3 (1 : Int32) 1 (by decide) (by decide); rw [hex2] at fa2; try simp only [Int32.reduceToInt, Int64.reduceToInt] at fa2
  clear hex2
  have bl3 := Int32.le_toInt ex3; have bu3 := Int32.toInt_lt ex3
  have fa3 := c_mask p2 (7 : Int32) 3 (by decide) (by decide); rw [hex3] at fa3; try simp only [Int32.reduceToInt, Int64.reduceToInt] at fa3
  clear hex3
  have bl4 := Int32.le_toInt ex4; have bu4 := Int32.toInt_lt ex4
  have fa4 := c_mask p2 (2147483647 : Int32) 31 (by decide) (by decide); rw [hex4] at fa4; try simp only [Int32.reduceToInt, Int64.reduceToInt] at fa4
  clear hex4
  try simp only [Int32.lt_iff_toInt_lt, Int64.lt_iff_toInt_lt, ← Int32.toInt_inj, ← Int64.toInt_inj, Int32.reduceToInt, Int64.reduceToInt, not_true_eq_false, not_false_eq_true, false_and, and_false, true_and, and_true, false_or, or_false, true_or, or_true] at fc5
  try simp only [Int32.lt_iff_toInt_lt, Int64.lt_iff_toInt_lt, ← Int32.toInt_inj, ← Int64.toInt_inj, Int32.reduceToInt, Int64.reduceToInt, not_true_eq_false, not_false_eq_true, false_and, and_false, true_and, and_true, false_or, or_false, true_or, or_true] at fc6
  try simp only [Int32.lt_iff_toInt_lt, Int64.lt_iff_toInt_lt, ← Int32.toInt_inj, ← Int64.toInt_inj, Int32.reduceToInt, Int64.reduceToInt, not_true_eq_false, not_false_eq_true, false_and, and_false, true_and, and_true, false_or, or_false, true_or, or_true] at fc7
  have bl8 := Int32.le_toInt ex8; have bu8 := Int32.toInt_lt ex8
  have fa8 := c_isub v15 v18; rw [hex8] at fa8; try simp only [Int32.reduceToInt, Int64.reduceToInt] at fa8
  clear hex8
  have bl9 := Int64.le_toInt ex9; have bu9 := Int64.toInt_lt ex9
  have fa9 := c_i2l p0; rw [hex9] at fa9; try simp only [Int32.reduceToInt, Int64.reduceToInt] at fa9
  clear hex9
  have bl10 := Int64.le_toInt ex10; have bu10 := Int64.toInt_lt ex10
  have fa10 := c_i2l v15; rw [hex10] at fa10; try simp only [Int32.reduceToInt, Int64.reduceToInt] at fa10
  clear hex10
  have bl11 := Int64.le_toInt ex11; have bu11 := Int64.toInt_lt ex11
  have fa11 := c_i2l v18; rw [hex11] at fa11; try simp only [Int32.reduceToInt, Int64.reduceToInt] at fa11
  clear hex11
  have bl12 := Int64.le_toInt ex12; have bu12 := Int64.toInt_lt ex12
  have fa12 := c_i2l v23; rw [hex12] at fa12; try simp only [Int32.reduceToInt, Int64.reduceToInt] at fa12
  clear hex12
  have bl13 := Int64.le_toInt ex13; have bu13 := Int64.toInt_lt ex13
  have fa13 := c_ladd v27 v26; rw [hex13] at fa13; try simp only [Int32.reduceToInt, Int64.reduceToInt] at fa13
  clear hex13
  all_goals omega
set_option maxRecDepth 65536 in
set_option maxHeartbeats 40000000 in
theorem own_leaf0_20 (p0 : Int32) (p1 : Int32) (p2 : Int32) (p3 : Int32) (v15 : Int32) (hv15 : v15 = (p1 &&& (2147483647 : Int32))) (v18 : Int32) (hv18 : v18 = (if (p3 &&& (1 : Int32)) = (0 : Int32) then (p2 &&& (2147483647 : Int32)) else (p2 &&& (7 : Int32)))) (v23 : Int32) (hv23 : v23 = (own_f1 p0 v15 v18)) (v24 : Int64) (hv24 : v24 = (p0.toInt64)) (v25 : Int64) (hv25 : v25 = (v15.toInt64)) (v26 : Int64) (hv26 : v26 = (v18.toInt64)) (v27 : Int64) (hv27 : v27 = (v23.toInt64)) (hc29 : ¬ (v18 = (0 : Int32))) (hc45 : v25 < v26) (hc47 : ¬ (v23 = (-1 : Int32))) (hc49 : ¬ (v27 < (0 : Int64))) (hc55 : ¬ (v27 < v24)) (hc61 : ¬ (v25 < (v27 + v26))) (hc67 : ¬ (v27 = (0 : Int64))) (hc69 : (v27 - (1 : Int64)) < v24) : False := by
  have dv18 : ((p3 &&& (1 : Int32)) = (0 : Int32) ∧ (v18 = (p2 &&& (2147483647 : Int32)))) ∨ (¬ ((p3 &&& (1 : Int32)) = (0 : Int32)) ∧ (v18 = (p2 &&& (7 : Int32)))) := (if cq0 : (p3 &&& (1 : Int32)) = (0 : Int32) then Or.inl ⟨cq0, (by rw [hv18, if_pos cq0])⟩ else Or.inr ⟨cq0, (by rw [hv18, if_neg cq0])⟩)
  clear hv18
  generalize hex1 : (p1 &&& (2147483647 : Int32)) = ex1 at *
  generalize hex2 : (p3 &&& (1 : Int32)) = ex2 at *
  generalize hex3 : (p2 &&& (7 : Int32)) = ex3 at *
  generalize hex4 : (p2 &&& (2147483647 : Int32)) = ex4 at *
  have fc5 := own_f1_cases p0 v15 v18
  generalize own_f1 p0 v15 v18 = ex5 at *
  have fc6 := own_f2_cases p0 (0 : Int32)
  generalize own_f2 p0 (0 : Int32) = ex6 at *
  have fc7 := own_f3_cases ex6 v15
  generalize own_f3 ex6 v15 = ex7 at *
  generalize hex8 : (v15 - v18) = ex8 at *
  generalize hex9 : (p0.toInt64) = ex9 at *
  generalize hex10 : (v15.toInt64) = ex10 at *
  generalize hex11 : (v18.toInt64) = ex11 at *
  generalize hex12 : (v23.toInt64) = ex12 at *
  generalize hex13 : (v27 + v26) = ex13 at *
  generalize hex14 : (v27 - (1 : Int64)) = ex14 at *
  try simp only [Int32.lt_iff_toInt_lt, Int64.lt_iff_toInt_lt, ← Int32.toInt_inj, ← Int64.toInt_inj, Int32.reduceToInt, Int64.reduceToInt, not_true_eq_false, not_false_eq_true, false_and, and_false, true_and, and_true, false_or, or_false, true_or, or_true] at dv18
  try simp only [Int32.lt_iff_toInt_lt, Int64.lt_iff_toInt_lt, ← Int32.toInt_inj, ← Int64.toInt_inj, Int32.reduceToInt, Int64.reduceToInt, not_true_eq_false, not_false_eq_true, false_and, and_false, true_and, and_true, false_or, or_false, true_or, or_true] at hv15
  try simp only [Int32.lt_iff_toInt_lt, Int64.lt_iff_toInt_lt, ← Int32.toInt_inj, ← Int64.toInt_inj, Int32.reduceToInt, Int64.reduceToInt, not_true_eq_false, not_false_eq_true, false_and, and_false, true_and, and_true, false_or, or_false, true_or, or_true] at hv23
  try simp only [Int32.lt_iff_toInt_lt, Int64.lt_iff_toInt_lt, ← Int32.toInt_inj, ← Int64.toInt_inj, Int32.reduceToInt, Int64.reduceToInt, not_true_eq_false, not_false_eq_true, false_and, and_false, true_and, and_true, false_or, or_false, true_or, or_true] at hv24
  try simp only [Int32.lt_iff_toInt_lt, Int64.lt_iff_toInt_lt, ← Int32.toInt_inj, ← Int64.toInt_inj, Int32.reduceToInt, Int64.reduceToInt, not_true_eq_false, not_false_eq_true, false_and, and_false, true_and, and_true, false_or, or_false, true_or, or_true] at hv25
  try simp only [Int32.lt_iff_toInt_lt, Int64.lt_iff_toInt_lt, ← Int32.toInt_inj, ← Int64.toInt_inj, Int32.reduceToInt, Int64.reduceToInt, not_true_eq_false, not_false_eq_true, false_and, and_false, true_and, and_true, false_or, or_false, true_or, or_true] at hv26
  try simp only [Int32.lt_iff_toInt_lt, Int64.lt_iff_toInt_lt, ← Int32.toInt_inj, ← Int64.toInt_inj, Int32.reduceToInt, Int64.reduceToInt, not_true_eq_false, not_false_eq_true, false_and, and_false, true_and, and_true, false_or, or_false, true_or, or_true] at hv27
  try simp only [Int32.lt_iff_toInt_lt, Int64.lt_iff_toInt_lt, ← Int32.toInt_inj, ← Int64.toInt_inj, Int32.reduceToInt, Int64.reduceToInt, not_true_eq_false, not_false_eq_true, false_and, and_false, true_and, and_true, false_or, or_false, true_or, or_true] at hc29
  try simp only [Int32.lt_iff_toInt_lt, Int64.lt_iff_toInt_lt, ← Int32.toInt_inj, ← Int64.toInt_inj, Int32.reduceToInt, Int64.reduceToInt, not_true_eq_false, not_false_eq_true, false_and, and_false, true_and, and_true, false_or, or_false, true_or, or_true] at hc45
  try simp only [Int32.lt_iff_toInt_lt, Int64.lt_iff_toInt_lt, ← Int32.toInt_inj, ← Int64.toInt_inj, Int32.reduceToInt, Int64.reduceToInt, not_true_eq_false, not_false_eq_true, false_and, and_false, true_and, and_true, false_or, or_false, true_or, or_true] at hc47
  try simp only [Int32.lt_iff_toInt_lt, Int64.lt_iff_toInt_lt, ← Int32.toInt_inj, ← Int64.toInt_inj, Int32.reduceToInt, Int64.reduceToInt, not_true_eq_false, not_false_eq_true, false_and, and_false, true_and, and_true, false_or, or_false, true_or, or_true] at hc49
  try simp only [Int32.lt_iff_toInt_lt, Int64.lt_iff_toInt_lt, ← Int32.toInt_inj, ← Int64.toInt_inj, Int32.reduceToInt, Int64.reduceToInt, not_true_eq_false, not_false_eq_true, false_and, and_false, true_and, and_true, false_or, or_false, true_or, or_true] at hc55
  try simp only [Int32.lt_iff_toInt_lt, Int64.lt_iff_toInt_lt, ← Int32.toInt_inj, ← Int64.toInt_inj, Int32.reduceToInt, Int64.reduceToInt, not_true_eq_false, not_false_eq_true, false_and, and_false, true_and, and_true, false_or, or_false, true_or, or_true] at hc61
  try simp only [Int32.lt_iff_toInt_lt, Int64.lt_iff_toInt_lt, ← Int32.toInt_inj, ← Int64.toInt_inj, Int32.reduceToInt, Int64.reduceToInt, not_true_eq_false, not_false_eq_true, false_and, and_false, true_and, and_true, false_or, or_false, true_or, or_true] at hc67
  try simp only [Int32.lt_iff_toInt_lt, Int64.lt_iff_toInt_lt, ← Int32.toInt_inj, ← Int64.toInt_inj, Int32.reduceToInt, Int64.reduceToInt, not_true_eq_false, not_false_eq_true, false_and, and_false, true_and, and_true, false_or, or_false, true_or, or_true] at hc69
  have := Int32.le_toInt p0; have := Int32.toInt_lt p0
  have := Int32.le_toInt p1; have := Int32.toInt_lt p1
  have := Int32.le_toInt p2; have := Int32.toInt_lt p2
  have := Int32.le_toInt p3; have := Int32.toInt_lt p3
  have := Int32.le_toInt v15; have := Int32.toInt_lt v15
  have := Int32.le_toInt v18; have := Int32.toInt_lt v18
  have := Int32.le_toInt v23; have := Int32.toInt_lt v23
  have := Int64.le_toInt v24; have := Int64.toInt_lt v24
  have := Int64.le_toInt v25; have := Int64.toInt_lt v25
  have := Int64.le_toInt v26; have := Int64.toInt_lt v26
  have := Int64.le_toInt v27; have := Int64.toInt_lt v27
  have bl1 := Int32.le_toInt ex1; have bu1 := Int32.toInt_lt ex1
  have fa1 := c_mask p1 (2147483647 : Int32) 31 (by decide) (by decide); rw [hex1] at fa1; try simp only [Int32.reduceToInt, Int64.reduceToInt] at fa1
  clear hex1
  have bl2 := Int32.le_toInt ex2; have bu2 := Int32.toInt_lt ex2
  have fa2 := c_mask p3 (1 : Int32) 1 (by decide) (by decide); rw [hex2] at fa2; try simp only [Int32.reduceToInt, Int64.reduceToInt] at fa2
  clear hex2
  have bl3 := Int32.le_toInt ex3; have bu3 := Int32.toInt_lt ex3
  have fa3 := c_mask p2 (7 : Int32) 3 (by decide) (by decide); rw [hex3] at fa3; try simp only [Int32.reduceToInt, Int64.reduceToInt] at fa3
  clear hex3
  have bl4 := Int32.le_toInt ex4; have bu4 := Int32.toInt_lt ex4
  have fa4 := c_mask p2 (2147483647 : Int32) 31 (by decide) (by decide); rw [hex4] at fa4; try simp only [Int32.reduceToInt, Int64.reduceToInt] at fa4
  clear hex4
  try simp only [Int32.lt_iff_toInt_lt, Int64.lt_iff_toInt_lt, ← Int32.toInt_inj, ← Int64.toInt_inj, Int32.reduceToInt, Int64.reduceToInt, not_true_eq_false, not_false_eq_true, false_and, and_false, true_and, and_true, false_or, or_false, true_or, or_true] at fc5
  try simp only [Int32.lt_iff_toInt_lt, Int64.lt_iff_toInt_lt, ← Int32.toInt_inj, ← Int64.toInt_inj, Int32.reduceToInt, Int64.reduceToInt, not_true_eq_false, not_false_eq_true, false_and, and_false, true_and, and_true, false_or, or_false, true_or, or_true] at fc6
  try simp only [Int32.lt_iff_toInt_lt, Int64.lt_iff_toInt_lt, ← Int32.toInt_inj, ← Int64.toInt_inj, Int32.reduceToInt, Int64.reduceToInt, not_true_eq_false, not_false_eq_true, false_and, and_false, true_and, and_true, false_or, or_false, true_or, or_true] at fc7
  have bl8 := Int32.le_toInt ex8; have bu8 := Int32.toInt_lt ex8
  have fa8 := c_isub v15 v18; rw [hex8] at fa8; try simp only [Int32.reduceToInt, Int64.reduceToInt] at fa8
  clear hex8
  have bl9 := Int64.le_toInt ex9; have bu9 := Int64.toInt_lt ex9
  have fa9 := c_i2l p0; rw [hex9] at fa9; try simp only [Int32.reduceToInt, Int64.reduceToInt] at fa9
  clear hex9
  have bl10 := Int64.le_toInt ex10; have bu10 := Int64.toInt_lt ex10
  have fa10 := c_i2l v15; rw [hex10] at fa10; try simp only [Int32.reduceToInt, Int64.reduceToInt] at fa10
  clear hex10
  have bl11 := Int64.le_toInt ex11; have bu11 := Int64.toInt_lt ex11
  have fa11 := c_i2l v18; rw [hex11] at fa11; try simp only [Int32.reduceToInt, Int64.reduceToInt] at fa11
  clear hex11
  have bl12 := Int64.le_toInt ex12; have bu12 := Int64.toInt_lt ex12
  have fa12 := c_i2l v23; rw [hex12] at fa12; try simp only [Int32.reduceToInt, Int64.reduceToInt] at fa12
  clear hex12
  have bl13 := Int64.le_toInt ex13; have bu13 := Int64.toInt_lt ex13
  have fa13 := c_ladd v27 v26; rw [hex13] at fa13; try simp only [Int32.reduceToInt, Int64.reduceToInt] at fa13
  clear hex13
  have bl14 := Int64.le_toInt ex14; have bu14 := Int64.toInt_lt ex14
  have fa14 := c_lsub v27 (1 : Int64); rw [hex14] at fa14; try simp only [Int32.reduceToInt, Int64.reduceToInt] at fa14
  clear hex14
  all_goals omega
set_option maxRecDepth 65536 in
set_option maxHeartbeats 40000000 in
theorem own_leaf0_21 (p0 : Int32) (p1 : Int32) (p2 : Int32) (p3 : Int32) (v15 : Int32) (hv15 : v15 = (p1 &&& (2147483647 : Int32))) (v18 : Int32) (hv18 : v18 = (if (p3 &&& (1 : Int32)) = (0 : Int32) then (p2 &&& (2147483647 : Int32)) else (p2 &&& (7 : Int32)))) (v23 : Int32) (hv23 : v23 = (own_f1 p0 v15 v18)) (v24 : Int64) (hv24 : v24 = (p0.toInt64)) (v25 : Int64) (hv25 : v25 = (v15.toInt64)) (v26 : Int64) (hv26 : v26 = (v18.toInt64)) (v27 : Int64) (hv27 : v27 = (v23.toInt64)) (hc29 : ¬ (v18 = (0 : Int32))) (hc45 : v25 < v26) (hc47 : ¬ (v23 = (-1 : Int32))) (hc49 : ¬ (v27 < (0 : Int64))) (hc55 : ¬ (v27 < v24)) (hc61 : ¬ (v25 < (v27 + v26))) (hc67 : ¬ (v27 = (0 : Int64))) (hc69 : ¬ ((v27 - (1 : Int64)) < v24)) : False := by
  have dv18 : ((p3 &&& (1 : Int32)) = (0 : Int32) ∧ (v18 = (p2 &&& (2147483647 : Int32)))) ∨ (¬ ((p3 &&& (1 : Int32)) = (0 : Int32)) ∧ (v18 = (p2 &&& (7 : Int32)))) := (if cq0 : (p3 &&& (1 : Int32)) = (0 : Int32) then Or.inl ⟨cq0, (by rw [hv18, if_pos cq0])⟩ else Or.inr ⟨cq0, (by rw [hv18, if_neg cq0])⟩)
  clear hv18
  generalize hex1 : (p1 &&& (2147483647 : Int32)) = ex1 at *
  generalize hex2 : (p3 &&& (1 : Int32)) = ex2 at *
  generalize hex3 : (p2 &&& (7 : Int32)) = ex3 at *
  generalize hex4 : (p2 &&& (2147483647 : Int32)) = ex4 at *
  have fc5 := own_f1_cases p0 v15 v18
  generalize own_f1 p0 v15 v18 = ex5 at *
  have fc6 := own_f2_cases p0 (0 : Int32)
  generalize own_f2 p0 (0 : Int32) = ex6 at *
  have fc7 := own_f3_cases ex6 v15
  generalize own_f3 ex6 v15 = ex7 at *
  generalize hex8 : (v15 - v18) = ex8 at *
  generalize hex9 : (p0.toInt64) = ex9 at *
  generalize hex10 : (v15.toInt64) = ex10 at *
  generalize hex11 : (v18.toInt64) = ex11 at *
  generalize hex12 : (v23.toInt64) = ex12 at *
  generalize hex13 : (v27 + v26) = ex13 at *
  generalize hex14 : (v27 - (1 : Int64)) = ex14 at *
  try simp only [Int32.lt_iff_toInt_lt, Int64.lt_iff_toInt_lt, ← Int32.toInt_inj, ← Int64.toInt_inj, Int32.reduceToInt, Int64.reduceToInt, not_true_eq_false, not_false_eq_true, false_and, and_false, true_and, and_true, false_or, or_false, true_or, or_true] at dv18
  try simp only [Int32.lt_iff_toInt_lt, Int64.lt_iff_toInt_lt, ← Int32.toInt_inj, ← Int64.toInt_inj, Int32.reduceToInt, Int64.reduceToInt, not_true_eq_false, not_false_eq_true, false_and, and_false, true_and, and_true, false_or, or_false, true_or, or_true] at hv15
  try simp only [Int32.lt_iff_toInt_lt, Int64.lt_iff_toInt_lt, ← Int32.toInt_inj, ← Int64.toInt_inj, Int32.reduceToInt, Int64.reduceToInt, not_true_eq_false, not_false_eq_true, false_and, and_false, true_and, and_true, false_or, or_false, true_or, or_true] at hv23
  try simp only [Int32.lt_iff_toInt_lt, Int64.lt_iff_toInt_lt, ← Int32.toInt_inj, ← Int64.toInt_inj, Int32.reduceToInt, Int64.reduceToInt, not_true_eq_false, not_false_eq_true, false_and, and_false, true_and, and_true, false_or, or_false, true_or, or_true] at hv24
  try simp only [Int32.lt_iff_toInt_lt, Int64.lt_iff_toInt_lt, ← Int32.toInt_inj, ← Int64.toInt_inj, Int32.reduceToInt, Int64.reduceToInt, not_true_eq_false, not_false_eq_true, false_and, and_false, true_and, and_true, false_or, or_false, true_or, or_true] at hv25
  try simp only [Int32.lt_iff_toInt_lt, Int64.lt_iff_toInt_lt, ← Int32.toInt_inj, ← Int64.toInt_inj, Int32.reduceToInt, Int64.reduceToInt, not_true_eq_false, not_false_eq_true, false_and, and_false, true_and, and_true, false_or, or_false, true_or, or_true] at hv26
  try simp only [Int32.lt_iff_toInt_lt, Int64.lt_iff_toInt_lt, ← Int32.toInt_inj, ← Int64.toInt_inj, Int32.reduceToInt, Int64.reduceToInt, not_true_eq_false, not_false_eq_true, false_and, and_false, true_and, and_true, false_or, or_false, true_or, or_true] at hv27
  try simp only [Int32.lt_iff_toInt_lt, Int64.lt_iff_toInt_lt, ← Int32.toInt_inj, ← Int64.toInt_inj, Int32.reduceToInt, Int64.reduceToInt, not_true_eq_false, not_false_eq_true, false_and, and_false, true_and, and_true, false_or, or_false, true_or, or_true] at hc29
  try simp only [Int32.lt_iff_toInt_lt, Int64.lt_iff_toInt_lt, ← Int32.toInt_inj, ← Int64.toInt_inj, Int32.reduceToInt, Int64.reduceToInt, not_true_eq_false, not_false_eq_true, false_and, and_false, true_and, and_true, false_or, or_false, true_or, or_true] at hc45
  try simp only [Int32.lt_iff_toInt_lt, Int64.lt_iff_toInt_lt, ← Int32.toInt_inj, ← Int64.toInt_inj, Int32.reduceToInt, Int64.reduceToInt, not_true_eq_false, not_false_eq_true, false_and, and_false, true_and, and_true, false_or, or_false, true_or, or_true] at hc47
  try simp only [Int32.lt_iff_toInt_lt, Int64.lt_iff_toInt_lt, ← Int32.toInt_inj, ← Int64.toInt_inj, Int32.reduceToInt, Int64.reduceToInt, not_true_eq_false, not_false_eq_true, false_and, and_false, true_and, and_true, false_or, or_false, true_or, or_true] at hc49
  try simp only [Int32.lt_iff_toInt_lt, Int64.lt_iff_toInt_lt, ← Int32.toInt_inj, ← Int64.toInt_inj, Int32.reduceToInt, Int64.reduceToInt, not_true_eq_false, not_false_eq_true, false_and, and_false, true_and, and_true, false_or, or_false, true_or, or_true] at hc55
  try simp only [Int32.lt_iff_toInt_lt, Int64.lt_iff_toInt_lt, ← Int32.toInt_inj, ← Int64.toInt_inj, Int32.reduceToInt, Int64.reduceToInt, not_true_eq_false, not_false_eq_true, false_and, and_false, true_and, and_true, false_or, or_false, true_or, or_true] at hc61
  try simp only [Int32.lt_iff_toInt_lt, Int64.lt_iff_toInt_lt, ← Int32.toInt_inj, ← Int64.toInt_inj, Int32.reduceToInt, Int64.reduceToInt, not_true_eq_false, not_false_eq_true, false_and, and_false, true_and, and_true, false_or, or_false, true_or, or_true] at hc67
  try simp only [Int32.lt_iff_toInt_lt, Int64.lt_iff_toInt_lt, ← Int32.toInt_inj, ← Int64.toInt_inj, Int32.reduceToInt, Int64.reduceToInt, not_true_eq_false, not_false_eq_true, false_and, and_false, true_and, and_true, false_or, or_false, true_or, or_true] at hc69
  have := Int32.le_toInt p0; have := Int32.toInt_lt p0
  have := Int32.le_toInt p1; have := Int32.toInt_lt p1
  have := Int32.le_toInt p2; have := Int32.toInt_lt p2
  have := Int32.le_toInt p3; have := Int32.toInt_lt p3
  have := Int32.le_toInt v15; have := Int32.toInt_lt v15
  have := Int32.le_toInt v18; have := Int32.toInt_lt v18
  have := Int32.le_toInt v23; have := Int32.toInt_lt v23
  have := Int64.le_toInt v24; have := Int64.toInt_lt v24
  have := Int64.le_toInt v25; have := Int64.toInt_lt v25
  have := Int64.le_toInt v26; have := Int64.toInt_lt v26
  have := Int64.le_toInt v27; have := Int64.toInt_lt v27
  have bl1 := Int32.le_toInt ex1; have bu1 := Int32.toInt_lt ex1
  have fa1 := c_mask p1 (2147483647 : Int32) 31 (by decide) (by decide); rw [hex1] at fa1; try simp only [Int32.reduceToInt, Int64.reduceToInt] at fa1
  clear hex1
  have bl2 := Int32.le_toInt ex2; have bu2 := Int32.toInt_lt ex2
  have fa2 := c_mask p3 (1 : Int32) 1 (by decide) (by decide); rw [hex2] at fa2; try simp only [Int32.reduceToInt, Int64.reduceToInt] at fa2
  clear hex2
  have bl3 := Int32.le_toInt ex3; have bu3 := Int32.toInt_lt ex3
  have fa3 := c_mask p2 (7 : Int32) 3 (by decide) (by decide); rw [hex3] at fa3; try simp only [Int32.reduceToInt, Int64.reduceToInt] at fa3
  clear hex3
  have bl4 := Int32.le_toInt ex4; have bu4 := Int32.toInt_lt ex4
  have fa4 := c_mask p2 (2147483647 : Int32) 31 (by decide) (by decide); rw [hex4] at fa4; try simp only [Int32.reduceToInt, Int64.reduceToInt] at fa4
  clear hex4
  try simp only [Int32.lt_iff_toInt_lt, Int64.lt_iff_toInt_lt, ← Int32.toInt_inj, ← Int64.toInt_inj, Int32.reduceToInt, Int64.reduceToInt, not_true_eq_false, not_false_eq_true, false_and, and_false, true_and, and_true, false_or, or_false, true_or, or_true] at fc5
  try simp only [Int32.lt_iff_toInt_lt, Int64.lt_iff_toInt_lt, ← Int32.toInt_inj, ← Int64.toInt_inj, Int32.reduceToInt, Int64.reduceToInt, not_true_eq_false, not_false_eq_true, false_and, and_false, true_and, and_true, false_or, or_false, true_or, or_true] at fc6
  try simp only [Int32.lt_iff_toInt_lt, Int64.lt_iff_toInt_lt, ← Int32.toInt_inj, ← Int64.toInt_inj, Int32.reduceToInt, Int64.reduceToInt, not_true_eq_false, not_false_eq_true, false_and, and_false, true_and, and_true, false_or, or_false, true_or, or_true] at fc7
  have bl8 := Int32.le_toInt ex8; have bu8 := Int32.toInt_lt ex8
  have fa8 := c_isub v15 v18; rw [hex8] at fa8; try simp only [Int32.reduceToInt, Int64.reduceToInt] at fa8
  clear hex8
  have bl9 := Int64.le_toInt ex9; have bu9 := Int64.toInt_lt ex9
  have fa9 := c_i2l p0; rw [hex9] at fa9; try simp only [Int32.reduceToInt, Int64.reduceToInt] at fa9
  clear hex9
  have bl10 := Int64.le_toInt ex10; have bu10 := Int64.toInt_lt ex10
  have fa10 := c_i2l v15; rw [hex10] at fa10; try simp only [Int32.reduceToInt, Int64.reduceToInt] at fa10
  clear hex10
  have bl11 := Int64.le_toInt ex11; have bu11 := Int64.toInt_lt ex11
  have fa11 := c_i2l v18; rw [hex11] at fa11; try simp only [Int32.reduceToInt, Int64.reduceToInt] at fa11
  clear hex11
  have bl12 := Int64.le_toInt ex12; have bu12 := Int64.toInt_lt ex12
  have fa12 := c_i2l v23; rw [hex12] at fa12; try simp only [Int32.reduceToInt, Int64.reduceToInt] at fa12
  clear hex12
  have bl13 := Int64.le_toInt ex13; have bu13 := Int64.toInt_lt ex13
  have fa13 := c_ladd v27 v26; rw [hex13] at fa13; try simp only [Int32.reduceToInt, Int64.reduceToInt] at fa13
  clear hex13
  have bl14 := Int64.le_toInt ex14; have bu14 := Int64.toInt_lt ex14
  have fa14 := c_lsub v27 (1 : Int64); rw [hex14] at fa14; try simp only [Int32.reduceToInt, Int64.reduceToInt] at fa14
  clear hex14
  all_goals omega
set_option maxRecDepth 65536 in
set_option maxHeartbeats 40000000 in
theorem own_leaf0_23 (p0 : Int32) (p1 : Int32) (p2 : Int32) (p3 : Int32) (v15 : Int32) (hv15 : v15 = (p1 &&& (2147483647 : Int32))) (v18 : Int32) (hv18 : v18 = (if (p3 &&& (1 : Int32)) = (0 : Int32) then (p2 &&& (2147483647 : Int32)) else (p2 &&& (7 : Int32)))) (v23 : Int32) (hv23 : v23 = (own_f1 p0 v15 v18)) (v24 : Int64) (hv24 : v24 = (p0.toInt64)) (v25 : Int64) (hv25 : v25 = (v15.toInt64)) (v26 : Int64) (hv26 : v26 = (v18.toInt64)) (v27 : Int64) (hv27 : v27 = (v23.toInt64)) (hc29 : ¬ (v18 = (0 : Int32))) (hc45 : ¬ (v25 < v26)) (hc71 : (0 : Int64) < v24) (hc73 : v25 < (v24 + v26)) (hc75 : ¬ (v23 = (-1 : Int32))) (hc77 : v27 < (0 : Int64)) (hc79 : v27 = (0 : Int64)) : False := by
  have dv18 : ((p3 &&& (1 : Int32)) = (0 : Int32) ∧ (v18 = (p2 &&& (2147483647 : Int32)))) ∨ (¬ ((p3 &&& (1 : Int32)) = (0 : Int32)) ∧ (v18 = (p2 &&& (7 : Int32)))) := (if cq0 : (p3 &&& (1 : Int32)) = (0 : Int32) then Or.inl ⟨cq0, (by rw [hv18, if_pos cq0])⟩ else Or.inr ⟨cq0, (by rw [hv18, if_neg cq0])⟩)
  clear hv18
  generalize hex1 : (p1 &&& (2147483647 : Int32)) = ex1 at *
  generalize hex2 : (p3 &&& (1 : Int32)) = ex2 at *
  generalize hex3 : (p2 &&& (7 : Int32)) = ex3 at *
  generalize hex4 : (p2 &&& (2147483647 : Int32)) = ex4 at *
  have fc5 := own_f1_cases p0 v15 v18
  generalize own_f1 p0 v15 v18 = ex5 at *
  have fc6 := own_f2_cases p0 (0 : Int32)
  generalize own_f2 p0 (0 : Int32) = ex6 at *
  have fc7 := own_f3_cases ex6 v15
  generalize own_f3 ex6 v15 = ex7 at *
  generalize hex8 : (v15 - v18) = ex8 at *
  generalize hex9 : (p0.toInt64) = ex9 at *
  generalize hex10 : (v15.toInt64) = ex10 at *
  generalize hex11 : (v18.toInt64) = ex11 at *
  generalize hex12 : (v23.toInt64) = ex12 at *
  generalize hex13 : (v24 + v26) = ex13 at *
  try simp only [Int32.lt_iff_toInt_lt, Int64.lt_iff_toInt_lt, ← Int32.toInt_inj, ← Int64.toInt_inj, Int32.reduceToInt, Int64.reduceToInt, not_true_eq_false, not_false_eq_true, false_and, and_false, true_and, and_true, false_or, or_false, true_or, or_true] at dv18
  try simp only [Int32.lt_iff_toInt_lt, Int64.lt_iff_toInt_lt, ← Int32.toInt_inj, ← Int64.toInt_inj, Int32.reduceToInt, Int64.reduceToInt, not_true_eq_false, not_false_eq_true, false_and, and_false, true_and, and_true, false_or, or_false, true_or, or_true] at hv15
  try simp only [Int32.lt_iff_toInt_lt, Int64.lt_iff_toInt_lt, ← Int32.toInt_inj, ← Int64.toInt_inj, Int32.reduceToInt, Int64.reduceToInt, not_true_eq_false, not_false_eq_true, false_and, and_false, true_and, and_true, false_or, or_false, true_or, or_true] at hv23
  try simp only [Int32.lt_iff_toInt_lt, Int64.lt_iff_toInt_lt, ← Int32.toInt_inj, ← Int64.toInt_inj, Int32.reduceToInt, Int64.reduceToInt, not_true_eq_false, not_false_eq_true, false_and, and_false, true_and, and_true, false_or, or_false, true_or, or_true] at hv24
  try simp only [Int32.lt_iff_toInt_lt, Int64.lt_iff_toInt_lt, ← Int32.toInt_inj, ← Int64.toInt_inj, Int32.reduceToInt, Int64.reduceToInt, not_true_eq_false, not_false_eq_true, false_and, and_false, true_and, and_true, false_or, or_false, true_or, or_true] at hv25
  try simp only [Int32.lt_iff_toInt_lt, Int64.lt_iff_toInt_lt, ← Int32.toInt_inj, ← Int64.toInt_inj, Int32.reduceToInt, Int64.reduceToInt, not_true_eq_false, not_false_eq_true, false_and, and_false, true_and, and_true, false_or, or_false, true_or, or_true] at hv26
  try simp only [Int32.lt_iff_toInt_lt, Int64.lt_iff_toInt_lt, ← Int32.toInt_inj, ← Int64.toInt_inj, Int32.reduceToInt, Int64.reduceToInt, not_true_eq_false, not_false_eq_true, false_and, and_false, true_and, and_true, false_or, or_false, true_or, or_true] at hv27
  try simp only [Int32.lt_iff_toInt_lt, Int64.lt_iff_toInt_lt, ← Int32.toInt_inj, ← Int64.toInt_inj, Int32.reduceToInt, Int64.reduceToInt, not_true_eq_false, not_false_eq_true, false_and, and_false, true_and, and_true, false_or, or_false, true_or, or_true] at hc29
  try simp only [Int32.lt_iff_toInt_lt, Int64.lt_iff_toInt_lt, ← Int32.toInt_inj, ← Int64.toInt_inj, Int32.reduceToInt, Int64.reduceToInt, not_true_eq_false, not_false_eq_true, false_and, and_false, true_and, and_true, false_or, or_false, true_or, or_true] at hc45
  try simp only [Int32.lt_iff_toInt_lt, Int64.lt_iff_toInt_lt, ← Int32.toInt_inj, ← Int64.toInt_inj, Int32.reduceToInt, Int64.reduceToInt, not_true_eq_false, not_false_eq_true, false_and, and_false, true_and, and_true, false_or, or_false, true_or, or_true] at hc71
  try simp only [Int32.lt_iff_toInt_lt, Int64.lt_iff_toInt_lt, ← Int32.toInt_inj, ← Int64.toInt_inj, Int32.reduceToInt, Int64.reduceToInt, not_true_eq_false, not_false_eq_true, false_and, and_false, true_and, and_true, false_or, or_false, true_or, or_true] at hc73
  try simp only [Int32.lt_iff_toInt_lt, Int64.lt_iff_toInt_lt, ← Int32.toInt_inj, ← Int64.toInt_inj, Int32.reduceToInt, Int64.reduceToInt, not_true_eq_false, not_false_eq_true, false_and, and_false, true_and, and_true, false_or, or_false, true_or, or_true] at hc75
  try simp only [Int32.lt_iff_toInt_lt, Int64.lt_iff_toInt_lt, ← Int32.toInt_inj, ← Int64.toInt_inj, Int32.reduceToInt, Int64.reduceToInt, not_true_eq_false, not_false_eq_true, false_and, and_false, true_and, and_true, false_or, or_false, true_or, or_true] at hc77
  try simp only [Int32.lt_iff_toInt_lt, Int64.lt_iff_toInt_lt, ← Int32.toInt_inj, ← Int64.toInt_inj, Int32.reduceToInt, Int64.reduceToInt, not_true_eq_false, not_false_eq_true, false_and, and_false, true_and, and_true, false_or, or_false, true_or, or_true] at hc79
  have := Int32.le_toInt p0; have := Int32.toInt_lt p0
  have := Int32.le_toInt p1; have := Int32.toInt_lt p1
  have := Int32.le_toInt p2; have := Int32.toInt_lt p2
  have := Int32.le_toInt p3; have := Int32.toInt_lt p3
  have := Int32.le_toInt v15; have := Int32.toInt_lt v15
  have := Int32.le_toInt v18; have := Int32.toInt_lt v18
  have := Int32.le_toInt v23; have := Int32.toInt_lt v23
  have := Int64.le_toInt v24; have := Int64.toInt_lt v24
  have := Int64.le_toInt v25; have := Int64.toInt_lt v25
  have := Int64.le_toInt v26; have := Int64.toInt_lt v26
  have := Int64.le_toInt v27; have := Int64.toInt_lt v27
  have bl1 := Int32.le_toInt ex1; have bu1 := Int32.toInt_lt ex1
  have fa1 := c_mask p1 (2147483647 : Int32) 31 (by decide) (by decide); rw [hex1] at fa1; try simp only [Int32.reduceToInt, Int64.reduceToInt] at fa1
  clear hex1
  have bl2 := Int32.le_toInt ex2; have bu2 := Int32.toInt_lt ex2
  have fa2 := c_mask p3 (1 : Int32) 1 (by decide) (by decide); rw [hex2] at fa2; try simp only [Int32.reduceToInt, Int64.reduceToInt] at fa2
  clear hex2
  have bl3 := Int32.le_toInt ex3; have bu3 := Int32.toInt_lt ex3
  have fa3 := c_mask p2 (7 : Int32) 3 (by decide) (by decide); rw [hex3] at fa3; try simp only [Int32.reduceToInt, Int64.reduceToInt] at fa3
  clear hex3
  have bl4 := Int32.le_toInt ex4; have bu4 := Int32.toInt_lt ex4
  have fa4 := c_mask p2 (2147483647 : Int32) 31 (by decide) (by decide); rw [hex4] at fa4; try simp only [Int32.reduceToInt, Int64.reduceToInt] at fa4
  clear hex4
  try simp only [Int32.lt_iff_toInt_lt, Int64.lt_iff_toInt_lt, ← Int32.toInt_inj, ← Int64.toInt_inj, Int32.reduceToInt, Int64.reduceToInt, not_true_eq_false, not_false_eq_true, false_and, and_false, true_and, and_true, false_or, or_false, true_or, or_true] at fc5
  try simp only [Int32.lt_iff_toInt_lt, Int64.lt_iff_toInt_lt, ← Int32.toInt_inj, ← Int64.toInt_inj, Int32.reduceToInt, Int64.reduceToInt, not_true_eq_false, not_false_eq_true, false_and, and_false, true_and, and_true, false_or, or_false, true_or, or_true] at fc6
  try simp only [Int32.lt_iff_toInt_lt, Int64.lt_iff_toInt_lt, ← Int32.toInt_inj, ← Int64.toInt_inj, Int32.reduceToInt, Int64.reduceToInt, not_true_eq_false, not_false_eq_true, false_and, and_false, true_and, and_true, false_or, or_false, true_or, or_true] at fc7
  have bl8 := Int32.le_toInt ex8; have bu8 := Int32.toInt_lt ex8
  have fa8 := c_isub v15 v18; rw [hex8] at fa8; try simp only [Int32.reduceToInt, Int64.reduceToInt] at fa8
  clear hex8
  have bl9 := Int64.le_toInt ex9; have bu9 := Int64.toInt_lt ex9
  have fa9 := c_i2l p0; rw [hex9] at fa9; try simp only [Int32.reduceToInt, Int64.reduceToInt] at fa9
  clear hex9
  have bl10 := Int64.le_toInt ex10; have bu10 := Int64.toInt_lt ex10
  have fa10 := c_i2l v15; rw [hex10] at fa10; try simp only [Int32.reduceToInt, Int64.reduceToInt] at fa10
  clear hex10
  have bl11 := Int64.le_toInt ex11; have bu11 := Int64.toInt_lt ex11
  have fa11 := c_i2l v18; rw [hex11] at fa11; try simp only [Int32.reduceToInt, Int64.reduceToInt] at fa11
  clear hex11
  have bl12 := Int64.le_toInt ex12; have bu12 := Int64.toInt_lt ex12
  have fa12 := c_i2l v23; rw [hex12] at fa12; try simp only [Int32.reduceToInt, Int64.reduceToInt] at fa12
  clear hex12
  have bl13 := Int64.le_toInt ex13; have bu13 := Int64.toInt_lt ex13
  have fa13 := c_ladd v24 v26; rw [hex13] at fa13; try simp only [Int32.reduceToInt, Int64.reduceToInt] at fa13
  clear hex13
  all_goals omega
set_option maxRecDepth 65536 in
set_option maxHeartbeats 40000000 in
theorem own_leaf0_24 (p0 : Int32) (p1 : Int32) (p2 : Int32) (p3 : Int32) (v15 : Int32) (hv15 : v15 = (p1 &&& (2147483647 : Int32))) (v18 : Int32) (hv18 : v18 = (if (p3 &&& (1 : Int32)) = (0 : Int32) then (p2 &&& (2147483647 : Int32)) else (p2 &&& (7 : Int32)))) (v23 : Int32) (hv23 : v23 = (own_f1 p0 v15 v18)) (v24 : Int64) (hv24 : v24 = (p0.toInt64)) (v25 : Int64) (hv25 : v25 = (v15.toInt64)) (v26 : Int64) (hv26 : v26 = (v18.toInt64)) (v27 : Int64) (hv27 : v27 = (v23.toInt64)) (hc29 : ¬ (v18 = (0 : Int32))) (hc45 : ¬ (v25 < v26)) (hc71 : (0 : Int64) < v24) (hc73 : v25 < (v24 + v26)) (hc75 : ¬ (v23 = (-1 : Int32))) (hc77 : v27 < (0 : Int64)) (hc79 : ¬ (v27 = (0 : Int64))) (hc81 : (v27 - (1 : Int64)) < v24) : False := by
  have dv18 : ((p3 &&& (1 : Int32)) = (0 : Int32) ∧ (v18 = (p2 &&& (2147483647 : Int32)))) ∨ (¬ ((p3 &&& (1 : Int32)) = (0 : Int32)) ∧ (v18 = (p2 &&& (7 : Int32)))) := (if cq0 : (p3 &&& (1 : Int32)) = (0 : Int32) then Or.inl ⟨cq0, (by rw [hv18, if_pos cq0])⟩ else Or.inr ⟨cq0, (by rw [hv18, if_neg cq0])⟩)
  clear hv18
  generalize hex1 : (p1 &&& (2147483647 : Int32)) = ex1 at *
  generalize hex2 : (p3 &&& (1 : Int32)) = ex2 at *
  generalize hex3 : (p2 &&& (7 : Int32)) = ex3 at *
  generalize hex4 : (p2 &&& (2147483647 : Int32)) = ex4 at *
  have fc5 := own_f1_cases p0 v15 v18
  generalize own_f1 p0 v15 v18 = ex5 at *
  have fc6 := own_f2_cases p0 (0 : Int32)
  generalize own_f2 p0 (0 : Int32) = ex6 at *
  have fc7 := own_f3_cases ex6 v15
  generalize own_f3 ex6 v15 = ex7 at *
  generalize hex8 : (v15 - v18) = ex8 at *
  generalize hex9 : (p0.toInt64) = ex9 at *
  generalize hex10 : (v15.toInt64) = ex10 at *
  generalize hex11 : (v18.toInt64) = ex11 at *
  generalize hex12 : (v23.toInt64) = ex12 at *
  generalize hex13 : (v24 + v26) = ex13 at *
  generalize hex14 : (v27 - (1 : Int64)) = ex14 at *
  try simp only [Int32.lt_iff_toInt_lt, Int64.lt_iff_toInt_lt, ← Int32.toInt_inj, ← Int64.toInt_inj, Int32.reduceToInt, Int64.reduceToInt, not_true_eq_false, not_false_eq_true, false_and, and_false, true_and, and_true, false_or, or_false, true_or, or_true] at dv18
  try simp only [Int32.lt_iff_toInt_lt, Int64.lt_iff_toInt_lt, ← Int32.toInt_inj, ← Int64.toInt_inj, Int32.reduceToInt, Int64.reduceToInt, not_true_eq_false, not_false_eq_true, false_and, and_false, true_and, and_true, false_or, or_false, true_or, or_true] at hv15
  try simp only [Int32.lt_iff_toInt_lt, Int64.lt_iff_toInt_lt, ← Int32.toInt_inj, ← Int64.toInt_inj, Int32.reduceToInt, Int64.reduceToInt, not_true_eq_false, not_false_eq_true, false_and, and_false, true_and, and_true, false_or, or_false, true_or, or_true] at hv23
  try simp only [Int32.lt_iff_toInt_lt, Int64.lt_iff_toInt_lt, ← Int32.toInt_inj, ← Int64.toInt_inj, Int32.reduceToInt, Int64.reduceToInt, not_true_eq_false, not_false_eq_true, false_and, and_false, true_and, and_true, false_or, or_false, true_or, or_true] at hv24
  try simp only [Int32.lt_iff_toInt_lt, Int64.lt_iff_toInt_lt, ← Int32.toInt_inj, ← Int64.toInt_inj, Int32.reduceToInt, Int64.reduceToInt, not_true_eq_false, not_false_eq_true, false_and, and_false, true_and, and_true, false_or, or_false, true_or, or_true] at hv25
  try simp only [Int32.lt_iff_toInt_lt, Int64.lt_iff_toInt_lt, ← Int32.toInt_inj, ← Int64.toInt_inj, Int32.reduceToInt, Int64.reduceToInt, not_true_eq_false, not_false_eq_true, false_and, and_false, true_and, and_true, false_or, or_false, true_or, or_true] at hv26
  try simp only [Int32.lt_iff_toInt_lt, Int64.lt_iff_toInt_lt, ← Int32.toInt_inj, ← Int64.toInt_inj, Int32.reduceToInt, Int64.reduceToInt, not_true_eq_false, not_false_eq_true, false_and, and_false, true_and, and_true, false_or, or_false, true_or, or_true] at hv27
  try simp only [Int32.lt_iff_toInt_lt, Int64.lt_iff_toInt_lt, ← Int32.toInt_inj, ← Int64.toInt_inj, Int32.reduceToInt, Int64.reduceToInt, not_true_eq_false, not_false_eq_true, false_and, and_false, true_and, and_true, false_or, or_false, true_or, or_true] at hc29
  try simp only [Int32.lt_iff_toInt_lt, Int64.lt_iff_toInt_lt, ← Int32.toInt_inj, ← Int64.toInt_inj, Int32.reduceToInt, Int64.reduceToInt, not_true_eq_false, not_false_eq_true, false_and, and_false, true_and, and_true, false_or, or_false, true_or, or_true] at hc45
  try simp only [Int32.lt_iff_toInt_lt, Int64.lt_iff_toInt_lt, ← Int32.toInt_inj, ← Int64.toInt_inj, Int32.reduceToInt, Int64.reduceToInt, not_true_eq_false, not_false_eq_true, false_and, and_false, true_and, and_true, false_or, or_false, true_or, or_true] at hc71
  try simp only [Int32.lt_iff_toInt_lt, Int64.lt_iff_toInt_lt, ← Int32.toInt_inj, ← Int64.toInt_inj, Int32.reduceToInt, Int64.reduceToInt, not_true_eq_false, not_false_eq_true, false_and, and_false, true_and, and_true, false_or, or_false, true_or, or_true] at hc73
  try simp only [Int32.lt_iff_toInt_lt, Int64.lt_iff_toInt_lt, ← Int32.toInt_inj, ← Int64.toInt_inj, Int32.reduceToInt, Int64.reduceToInt, not_true_eq_false, not_false_eq_true, false_and, and_false, true_and, and_true, false_or, or_false, true_or, or_true] at hc75
  try simp only [Int32.lt_iff_toInt_lt, Int64.lt_iff_toInt_lt, ← Int32.toInt_inj, ← Int64.toInt_inj, Int32.reduceToInt, Int64.reduceToInt, not_true_eq_false, not_false_eq_true, false_and, and_false, true_and, and_true, false_or, or_false, true_or, or_true] at hc77
  try simp only [Int32.lt_iff_toInt_lt, Int64.lt_iff_toInt_lt, ← Int32.toInt_inj, ← Int64.toInt_inj, Int32.reduceToInt, Int64.reduceToInt, not_true_eq_false, not_false_eq_true, false_and, and_false, true_and, and_true, false_or, or_false, true_or, or_true] at hc79
  try simp only [Int32.lt_iff_toInt_lt, Int64.lt_iff_toInt_lt, ← Int32.toInt_inj, ← Int64.toInt_inj, Int32.reduceToInt, Int64.reduceToInt, not_true_eq_false, not_false_eq_true, false_and, and_false, true_and, and_true, false_or, or_false, true_or, or_true] at hc81
  have := Int32.le_toInt p0; have := Int32.toInt_lt p0
  have := Int32.le_toInt p1; have := Int32.toInt_lt p1
  have := Int32.le_toInt p2; have := Int32.toInt_lt p2
  have := Int32.le_toInt p3; have := Int32.toInt_lt p3
  have := Int32.le_toInt v15; have := Int32.toInt_lt v15
  have := Int32.le_toInt v18; have := Int32.toInt_lt v18
  have := Int32.le_toInt v23; have := Int32.toInt_lt v23
  have := Int64.le_toInt v24; have := Int64.toInt_lt v24
  have := Int64.le_toInt v25; have := Int64.toInt_lt v25
  have := Int64.le_toInt v26; have := Int64.toInt_lt v26
  have := Int64.le_toInt v27; have := Int64.toInt_lt v27
  have bl1 := Int32.le_toInt ex1; have bu1 := Int32.toInt_lt ex1
  have fa1 := c_mask p1 (2147483647 : Int32) 31 (by decide) (by decide); rw [hex1] at fa1; try simp only [Int32.reduceToInt, Int64.reduceToInt] at fa1
  clear hex1
  have bl2 := Int32.le_toInt ex2; have bu2 := Int32.toInt_lt ex2
  have fa2 := c_mask p3 (1 : Int32) 1 (by decide) (by decide); rw [hex2] at fa2; try simp only [Int32.reduceToInt, Int64.reduceToInt] at fa2
  clear hex2
  have bl3 := Int32.le_toInt ex3; have bu3 := Int32.toInt_lt ex3
  have fa3 := c_mask p2 (7 : Int32) 3 (by decide) (by decide); rw [hex3] at fa3; try simp only [Int32.reduceToInt, Int64.reduceToInt] at fa3
  clear hex3
  have bl4 := Int32.le_toInt ex4; have bu4 := Int32.toInt_lt ex4
  have fa4 := c_mask p2 (2147483647 : Int32) 31 (by decide) (by decide); rw [hex4] at fa4; try simp only [Int32.reduceToInt, Int64.reduceToInt] at fa4
  clear hex4
  try simp only [Int32.lt_iff_toInt_lt, Int64.lt_iff_toInt_lt, ← Int32.toInt_inj, ← Int64.toInt_inj, Int32.reduceToInt, Int64.reduceToInt, not_true_eq_false, not_false_eq_true, false_and, and_false, true_and, and_true, false_or, or_false, true_or, or_true] at fc5
  try simp only [Int32.lt_iff_toInt_lt, Int64.lt_iff_toInt_lt, ← Int32.toInt_inj, ← Int64.toInt_inj, Int32.reduceToInt, Int64.reduceToInt, not_true_eq_false, not_false_eq_true, false_and, and_false, true_and, and_true, false_or, or_false, true_or, or_true] at fc6
  try simp only [Int32.lt_iff_toInt_lt, Int64.lt_iff_toInt_lt, ← Int32.toInt_inj, ← Int64.toInt_inj, Int32.reduceToInt, Int64.reduceToInt, not_true_eq_false, not_false_eq_true, false_and, and_false, true_and, and_true, false_or, or_false, true_or, or_true] at fc7
  have bl8 := Int32.le_toInt ex8; have bu8 := Int32.toInt_lt ex8
  have fa8 := c_isub v15 v18; rw [hex8] at fa8; try simp only [Int32.reduceToInt, Int64.reduceToInt] at fa8
  clear hex8
  have bl9 := Int64.le_toInt ex9; have bu9 := Int64.toInt_lt ex9
  have fa9 := c_i2l p0; rw [hex9] at fa9; try simp only [Int32.reduceToInt, Int64.reduceToInt] at fa9
  clear hex9
  have bl10 := Int64.le_toInt ex10; have bu10 := Int64.toInt_lt ex10
  have fa10 := c_i2l v15; rw [hex10] at fa10; try simp only [Int32.reduceToInt, Int64.reduceToInt] at fa10
  clear hex10
  have bl11 := Int64.le_toInt ex11; have bu11 := Int64.toInt_lt ex11
  have fa11 := c_i2l v18; rw [hex11] at fa11; try simp only [Int32.reduceToInt, Int64.reduceToInt] at fa11
  clear hex11
  have bl12 := Int64.le_toInt ex12; have bu12 := Int64.toInt_lt ex12
  have fa12 := c_i2l v23; rw [hex12] at fa12; try simp only [Int32.reduceToInt, Int64.reduceToInt] at fa12
  clear hex12
  have bl13 := Int64.le_toInt ex13; have bu13 := Int64.toInt_lt ex13
  have fa13 := c_ladd v24 v26; rw [hex13] at fa13; try simp only [Int32.reduceToInt, Int64.reduceToInt] at fa13
  clear hex13
  have bl14 := Int64.le_toInt ex14; have bu14 := Int64.toInt_lt ex14
  have fa14 := c_lsub v27 (1 : Int64); rw [hex14] at fa14; try simp only [Int32.reduceToInt, Int64.reduceToInt] at fa14
  clear hex14
  all_goals omega
set_option maxRecDepth 65536 in
set_option maxHeartbeats 40000000 in
theorem own_leaf0_25 (p0 : Int32) (p1 : Int32) (p2 : Int32) (p3 : Int32) (v15 : Int32) (hv15 : v15 = (p1 &&& (2147483647 : Int32))) (v18 : Int32) (hv18 : v18 = (if (p3 &&& (1 : Int32)) = (0 : Int32) then (p2 &&& (2147483647 : Int32)) else (p2 &&& (7 : Int32)))) (v23 : Int32) (hv23 : v23 = (own_f1 p0 v15 v18)) (v24 : Int64) (hv24 : v24 = (p0.toInt64)) (v25 : Int64) (hv25 : v25 = (v15.toInt64)) (v26 : Int64) (hv26 : v26 = (v18.toInt64)) (v27 : Int64) (hv27 : v27 = (v23.toInt64)) (hc29 : ¬ (v18 = (0 : Int32))) (hc45 : ¬ (v25 < v26)) (hc71 : (0 : Int64) < v24) (hc73 : v25 < (v24 + v26)) (hc75 : ¬ (v23 = (-1 : Int32))) (hc77 : v27 < (0 : Int64)) (hc79 : ¬ (v27 = (0 : Int64))) (hc81 : ¬ ((v27 - (1 : Int64)) < v24)) : False := by
  have dv18 : ((p3 &&& (1 : Int32)) = (0 : Int32) ∧ (v18 = (p2 &&& (2147483647 : Int32)))) ∨ (¬ ((p3 &&& (1 : Int32)) = (0 : Int32)) ∧ (v18 = (p2 &&& (7 : Int32)))) := (if cq0 : (p3 &&& (1 : Int32)) = (0 : Int32) then Or.inl ⟨cq0, (by rw [hv18, if_pos cq0])⟩ else Or.inr ⟨cq0, (by rw [hv18, if_neg cq0])⟩)
  clear hv18
  generalize hex1 : (p1 &&& (2147483647 : Int32)) = ex1 at *
  generalize hex2 : (p3 &&& (1 : Int32)) = ex2 at *
  generalize hex3 : (p2 &&& (7 : Int32)) = ex3 at *
  generalize hex4 : (p2 &&& (2147483647 : Int32)) = ex4 at *
  have fc5 := own_f1_cases p0 v15 v18
  generalize own_f1 p0 v15 v18 = ex5 at *
  have fc6 := own_f2_cases p0 (0 : Int32)
  generalize own_f2 p0 (0 : Int32) = ex6 at *
  have fc7 := own_f3_cases ex6 v15
  generalize own_f3 ex6 v15 = ex7 at *
  generalize hex8 : (v15 - v18) = ex8 at *
  generalize hex9 : (p0.toInt64) = ex9 at *
  generalize hex10 : (v15.toInt64) = ex10 at *
  generalize hex11 : (v18.toInt64) = ex11 at *
  generalize hex12 : (v23.toInt64) = ex12 at *
  generalize hex13 : (v24 + v26) = ex13 at *
  generalize hex14 : (v27 - (1 : Int64)) = ex14 at *
  try simp only [Int32.lt_iff_toInt_lt, Int64.lt_iff_toInt_lt, ← Int32.toInt_inj, ← Int64.toInt_inj, Int32.reduceToInt, Int64.reduceToInt, not_true_eq_false, not_false_eq_true, false_and, and_false, true_and, and_true, false_or, or_false, true_or, or_true] at dv18
  try simp only [Int32.lt_iff_toInt_lt, Int64.lt_iff_toInt_lt, ← Int32.toInt_inj, ← Int64.toInt_inj, Int32.reduceToInt, Int64.reduceToInt, not_true_eq_false, not_false_eq_true, false_and, and_false, true_and, and_true, false_or, or_false, true_or, or_true] at hv15
  try simp only [Int32.lt_iff_toInt_lt, Int64.lt_iff_toInt_lt, ← Int32.toInt_inj, ← Int64.toInt_inj, Int32.reduceToInt, Int64.reduceToInt, not_true_eq_false, not_false_eq_true, false_and, and_false, true_and, and_true, false_or, or_false, true_or, or_true] at hv23
  try simp only [Int32.lt_iff_toInt_lt, Int64.lt_iff_toInt_lt, ← Int32.toInt_inj, ← Int64.toInt_inj, Int32.reduceToInt, Int64.reduceToInt, not_true_eq_false, not_false_eq_true, false_and, and_false, true_and, and_true, false_or, or_false, true_or, or_true] at hv24
  try simp only [Int32.lt_iff_toInt_lt, Int64.lt_iff_toInt_lt, ← Int32.toInt_inj, ← Int64.toInt_inj, Int32.reduceToInt, Int64.reduceToInt, not_true_eq_false, not_false_eq_true, false_and, and_false, true_and, and_true, false_or, or_false, true_or, or_true] at hv25
  try simp only [Int32.lt_iff_toInt_lt, Int64.lt_iff_toInt_lt, ← Int32.toInt_inj, ← Int64.toInt_inj, Int32.reduceToInt, Int64.reduceToInt, not_true_eq_false, not_false_eq_true, false_and, and_false, true_and, and_true, false_or, or_false, true_or, or_true] at hv26
  try simp only [Int32.lt_iff_toInt_lt, Int64.lt_iff_toInt_lt, ← Int32.toInt_inj, ← Int64.toInt_inj, Int32.reduceToInt, Int64.reduceToInt, not_true_eq_false, not_false_eq_true, false_and, and_false, true_and, and_true, false_or, or_false, true_or, or_true] at hv27
  try simp only [Int32.lt_iff_toInt_lt, Int64.lt_iff_toInt_lt, ← Int32.toInt_inj, ← Int64.toInt_inj, Int32.reduceToInt, Int64.reduceToInt, not_true_eq_false, not_false_eq_true, false_and, and_false, true_and, and_true, false_or, or_false, true_or, or_true] at hc29
  try simp only [Int32.lt_iff_toInt_lt, Int64.lt_iff_toInt_lt, ← Int32.toInt_inj, ← Int64.toInt_inj, Int32.reduceToInt, Int64.reduceToInt, not_true_eq_false, not_false_eq_true, false_and, and_false, true_and, and_true, false_or, or_false, true_or, or_true] at hc45
  try simp only [Int32.lt_iff_toInt_lt, Int64.lt_iff_toInt_lt, ← Int32.toInt_inj, ← Int64.toInt_inj, Int32.reduceToInt, Int64.reduceToInt, not_true_eq_false, not_false_eq_true, false_and, and_false, true_and, and_true, false_or, or_false, true_or, or_true] at hc71
  try simp only [Int32.lt_iff_toInt_lt, Int64.lt_iff_toInt_lt, ← Int32.toInt_inj, ← Int64.toInt_inj, Int32.reduceToInt, Int64.reduceToInt, not_true_eq_false, not_false_eq_true, false_and, and_false, true_and, and_true, false_or, or_false, true_or, or_true] at hc73
  try simp only [Int32.lt_iff_toInt_lt, Int64.lt_iff_toInt_lt, ← Int32.toInt_inj, ← Int64.toInt_inj, Int32.reduceToInt, Int64.reduceToInt, not_true_eq_false, not_false_eq_true, false_and, and_false, true_and, and_true, false_or, or_false, true_or, or_true] at hc75
  try simp only [Int32.lt_iff_toInt_lt, Int64.lt_iff_toInt_lt, ← Int32.toInt_inj, ← Int64.toInt_inj, Int32.reduceToInt, Int64.reduceToInt, not_true_eq_false, not_false_eq_true, false_and, and_false, true_and, and_true, false_or, or_false, true_or, or_true] at hc77
  try simp only [Int32.lt_iff_toInt_lt, Int64.lt_iff_toInt_lt, ← Int32.toInt_inj, ← Int64.toInt_inj, Int32.reduceToInt, Int64.reduceToInt, not_true_eq_false, not_false_eq_true, false_and, and_false, true_and, and_true, false_or, or_false, true_or, or_true] at hc79
  try simp only [Int32.lt_iff_toInt_lt, Int64.lt_iff_toInt_lt, ← Int32.toInt_inj, ← Int64.toInt_inj, Int32.reduceToInt, Int64.reduceToInt, not_true_eq_false, not_false_eq_true, false_and, and_false, true_and, and_true, false_or, or_false, true_or, or_true] at hc81
  have := Int32.le_toInt p0; have := Int32.toInt_lt p0
  have := Int32.le_toInt p1; have := Int32.toInt_lt p1
  have := Int32.le_toInt p2; have := Int32.toInt_lt p2
  have := Int32.le_toInt p3; have := Int32.toInt_lt p3
  have := Int32.le_toInt v15; have := Int32.toInt_lt v15
  have := Int32.le_toInt v18; have := Int32.toInt_lt v18
  have := Int32.le_toInt v23; have := Int32.toInt_lt v23
  have := Int64.le_toInt v24; have := Int64.toInt_lt v24
  have := Int64.le_toInt v25; have := Int64.toInt_lt v25
  have := Int64.le_toInt v26; have := Int64.toInt_lt v26
  have := Int64.le_toInt v27; have := Int64.toInt_lt v27
  have bl1 := Int32.le_toInt ex1; have bu1 := Int32.toInt_lt ex1
  have fa1 := c_mask p1 (2147483647 : Int32) 31 (by decide) (by decide); rw [hex1] at fa1; try simp only [Int32.reduceToInt, Int64.reduceToInt] at fa1
  clear hex1
  have bl2 := Int32.le_toInt ex2; have bu2 := Int32.toInt_lt ex2
  have fa2 := c_mask p3 (1 : Int32) 1 (by decide) (by decide); rw [hex2] at fa2; try simp only [Int32.reduceToInt, Int64.reduceToInt] at fa2
  clear hex2
  have bl3 := Int32.le_toInt ex3; have bu3 := Int32.toInt_lt ex3
  have fa3 := c_mask p2 (7 : Int32) 3 (by decide) (by decide); rw [hex3] at fa3; try simp only [Int32.reduceToInt, Int64.reduceToInt] at fa3
  clear hex3
  have bl4 := Int32.le_toInt ex4; have bu4 := Int32.toInt_lt ex4
  have fa4 := c_mask p2 (2147483647 : Int32) 31 (by decide) (by decide); rw [hex4] at fa4; try simp only [Int32.reduceToInt, Int64.reduceToInt] at fa4
  clear hex4
  try simp only [Int32.lt_iff_toInt_lt, Int64.lt_iff_toInt_lt, ← Int32.toInt_inj, ← Int64.toInt_inj, Int32.reduceToInt, Int64.reduceToInt, not_true_eq_false, not_false_eq_true, false_and, and_false, true_and, and_true, false_or, or_false, true_or, or_true] at fc5
  try simp only [Int32.lt_iff_toInt_lt, Int64.lt_iff_toInt_lt, ← Int32.toInt_inj, ← Int64.toInt_inj, Int32.reduceToInt, Int64.reduceToInt, not_true_eq_false, not_false_eq_true, false_and, and_false, true_and, and_true, false_or, or_false, true_or, or_true] at fc6
  try simp only [Int32.lt_iff_toInt_lt, Int64.lt_iff_toInt_lt, ← Int32.toInt_inj, ← Int64.toInt_inj, Int32.reduceToInt, Int64.reduceToInt, not_true_eq_false, not_false_eq_true, false_and, and_false, true_and, and_true, false_or, or_false, true_or, or_true] at fc7
  have bl8 := Int32.le_toInt ex8; have bu8 := Int32.toInt_lt ex8
  have fa8 := c_isub v15 v18; rw [hex8] at fa8; try simp only [Int32.reduceToInt, Int64.reduceToInt] at fa8
  clear hex8
  have bl9 := Int64.le_toInt ex9; have bu9 := Int64.toInt_lt ex9
  have fa9 := c_i2l p0; rw [hex9] at fa9; try simp only [Int32.reduceToInt, Int64.reduceToInt] at fa9
  clear hex9
  have bl10 := Int64.le_toInt ex10; have bu10 := Int64.toInt_lt ex10
  have fa10 := c_i2l v15; rw [hex10] at fa10; try simp only [Int32.reduceToInt, Int64.reduceToInt] at fa10
  clear hex10
  have bl11 := Int64.le_toInt ex11; have bu11 := Int64.toInt_lt ex11
  have fa11 := c_i2l v18; rw [hex11] at fa11; try simp only [Int32.reduceToInt, Int64.reduceToInt] at fa11
  clear hex11
  have bl12 := Int64.le_toInt ex12; have bu12 := Int64.toInt_lt ex12
  have fa12 := c_i2l v23; rw [hex12] at fa12; try simp only [Int32.reduceToInt, Int64.reduceToInt] at fa12
  clear hex12
  have bl13 := Int64.le_toInt ex13; have bu13 := Int64.toInt_lt ex13
  have fa13 := c_ladd v24 v26; rw [hex13] at fa13; try simp only [Int32.reduceToInt, Int64.reduceToInt] at fa13
  clear hex13
  have bl14 := Int64.le_toInt ex14; have bu14 := Int64.toInt_lt ex14
  have fa14 := c_lsub v27 (1 : Int64); rw [hex14] at fa14; try simp only [Int32.reduceToInt, Int64.reduceToInt] at fa14
  clear hex14
  all_goals omega
set_option maxRecDepth 65536 in
set_option maxHeartbeats 40000000 in
theorem own_leaf0_26 (p0 : Int32) (p1 : Int32) (p2 : Int32) (p3 : Int32) (v15 : Int32) (hv15 : v15 = (p1 &&& (2147483647 : Int32))) (v18 : Int32) (hv18 : v18 = (if (p3 &&& (1 : Int32)) = (0 : Int32) then (p2 &&& (2147483647 : Int32)) else (p2 &&& (7 : Int32)))) (v23 : Int32) (hv23 : v23 = (own_f1 p0 v15 v18)) (v24 : Int64) (hv24 : v24 = (p0.toInt64)) (v25 : Int64) (hv25 : v25 = (v15.toInt64)) (v26 : Int64) (hv26 : v26 = (v18.toInt64)) (v27 : Int64) (hv27 : v27 = (v23.toInt64)) (hc29 : ¬ (v18 = (0 : Int32))) (hc45 : ¬ (v25 < v26)) (hc71 : (0 : Int64) < v24) (hc73 : v25 < (v24 + v26)) (hc75 : ¬ (v23 = (-1 : Int32))) (hc77 : ¬ (v27 < (0 : Int64))) (hc83 : v27 < v24) (hc85 : v27 = (0 : Int64)) : False := by
  have dv18 : ((p3 &&& (1 : Int32)) = (0 : Int32) ∧ (v18 = (p2 &&& (2147483647 : Int32)))) ∨ (¬ ((p3 &&& (1 : Int32)) = (0 : Int32)) ∧ (v18 = (p2 &&& (7 : Int32)))) := (if cq0 : (p3 &&& (1 : Int32)) = (0 : Int32) then Or.inl ⟨cq0, (by rw [hv18, if_pos cq0])⟩ else Or.inr ⟨cq0, (by rw [hv18, if_neg cq0])⟩)
  clear hv18
  generalize hex1 : (p1 &&& (2147483647 : Int32)) = ex1 at *
  generalize hex2 : (p3 &&& (1 : Int32)) = ex2 at *
  generalize hex3 : (p2 &&& (7 : Int32)) = ex3 at *
  generalize hex4 : (p2 &&& (2147483647 : Int32)) = ex4 at *
  have fc5 := own_f1_cases p0 v15 v18
  generalize own_f1 p0 v15 v18 = ex5 at *
  have fc6 := own_f2_cases p0 (0 : Int32)
  generalize own_f2 p0 (0 : Int32) = ex6 at *
  have fc7 := own_f3_cases ex6 v15
  generalize own_f3 ex6 v15 = ex7 at *
  generalize hex8 : (v15 - v18) = ex8 at *
  generalize hex9 : (p0.toInt64) = ex9 at *
  generalize hex10 : (v15.toInt64) = ex10 at *
  generalize hex11 : (v18.toInt64) = ex11 at *
  generalize hex12 : (v23.toInt64) = ex12 at *
  generalize hex13 : (v24 + v26) = ex13 at *
  try simp only [Int32.lt_iff_toInt_lt, Int64.lt_iff_toInt_lt, ← Int32.toInt_inj, ← Int64.toInt_inj, Int32.reduceToInt, Int64.reduceToInt, not_true_eq_false, not_false_eq_true, false_and, and_false, true_and, and_true, false_or, or_false, true_or, or_true] at dv18
  try simp only [Int32.lt_iff_toInt_lt, Int64.lt_iff_toInt_lt, ← Int32.toInt_inj, ← Int64.toInt_inj, Int32.reduceToInt, Int64.reduceToInt, not_true_eq_false, not_false_eq_true, false_and, and_false, true_and, and_true, false_or, or_false, true_or, or_true] at hv15
  try simp only [Int32.lt_iff_toInt_lt, Int64.lt_iff_toInt_lt, ← Int32.toInt_inj, ← Int64.toInt_inj, Int32.reduceToInt, Int64.reduceToInt, not_true_eq_false, not_false_eq_true, false_and, and_false, true_and, and_true, false_or, or_false, true_or, or_true] at hv23
  try simp only [Int32.lt_iff_toInt_lt, Int64.lt_iff_toInt_lt, ← Int32.toInt_inj, ← Int64.toInt_inj, Int32.reduceToInt, Int64.reduceToInt, not_true_eq_false, not_false_eq_true, false_and, and_false, true_and, and_true, false_or, or_false, true_or, or_true] at hv24
  try simp only [Int32.lt_iff_toInt_lt, Int64.lt_iff_toInt_lt, ← Int32.toInt_inj, ← Int64.toInt_inj, Int32.reduceToInt, Int64.reduceToInt, not_true_eq_false, not_false_eq_true, false_and, and_false, true_and, and_true, false_or, or_false, true_or, or_true] at hv25
  try simp only [Int32.lt_iff_toInt_lt, Int64.lt_iff_toInt_lt, ← Int32.toInt_inj, ← Int64.toInt_inj, Int32.reduceToInt, Int64.reduceToInt, not_true_eq_false, not_false_eq_true, false_and, and_false, true_and, and_true, false_or, or_false, true_or, or_true] at hv26
  try simp only [Int32.lt_iff_toInt_lt, Int64.lt_iff_toInt_lt, ← Int32.toInt_inj, ← Int64.toInt_inj, Int32.reduceToInt, Int64.reduceToInt, not_true_eq_false, not_false_eq_true, false_and, and_false, true_and, and_true, false_or, or_false, true_or, or_true] at hv27
  try simp only [Int32.lt_iff_toInt_lt, Int64.lt_iff_toInt_lt, ← Int32.toInt_inj, ← Int64.toInt_inj, Int32.reduceToInt, Int64.reduceToInt, not_true_eq_false, not_false_eq_true, false_and, and_false, true_and, and_true, false_or, or_false, true_or, or_true] at hc29
  try simp only [Int32.lt_iff_toInt_lt, Int64.lt_iff_toInt_lt, ← Int32.toInt_inj, ← Int64.toInt_inj, Int32.reduceToInt, Int64.reduceToInt, not_true_eq_false, not_false_eq_true, false_and, and_false, true_and, and_true, false_or, or_false, true_or, or_true] at hc45
  try simp only [Int32.lt_iff_toInt_lt, Int64.lt_iff_toInt_lt, ← Int32.toInt_inj, ← Int64.toInt_inj, Int32.reduceToInt, Int64.reduceToInt, not_true_eq_false, not_false_eq_true, false_and, and_false, true_and, and_true, false_or, or_false, true_or, or_true] at hc71
  try simp only [Int32.lt_iff_toInt_lt, Int64.lt_iff_toInt_lt, ← Int32.toInt_inj, ← Int64.toInt_inj, Int32.reduceToInt, Int64.reduceToInt, not_true_eq_false, not_false_eq_true, false_and, and_false, true_and, and_true, false_or, or_false, true_or, or_true] at hc73
  try simp only [Int32.lt_iff_toInt_lt, Int64.lt_iff_toInt_lt, ← Int32.toInt_inj, ← Int64.toInt_inj, Int32.reduceToInt, Int64.reduceToInt, not_true_eq_false, not_false_eq_true, false_and, and_false, true_and, and_true, false_or, or_false, true_or, or_true] at hc75
  try simp only [Int32.lt_iff_toInt_lt, Int64.lt_iff_toInt_lt, ← Int32.toInt_inj, ← Int64.toInt_inj, Int32.reduceToInt, Int64.reduceToInt, not_true_eq_false, not_false_eq_true, false_and, and_false, true_and, and_true, false_or, or_false, true_or, or_true] at hc77
  try simp only [Int32.lt_iff_toInt_lt, Int64.lt_iff_toInt_lt, ← Int32.toInt_inj, ← Int64.toInt_inj, Int32.reduceToInt, Int64.reduceToInt, not_true_eq_false, not_false_eq_true, false_and, and_false, true_and, and_true, false_or, or_false, true_or, or_true] at hc83
  try simp only [Int32.lt_iff_toInt_lt, Int64.lt_iff_toInt_lt, ← Int32.toInt_inj, ← Int64.toInt_inj, Int32.reduceToInt, Int64.reduceToInt, not_true_eq_false, not_false_eq_true, false_and, and_false, true_and, and_true, false_or, or_false, true_or, or_true] at hc85
  have := Int32.le_toInt p0; have := Int32.toInt_lt p0
  have := Int32.le_toInt p1; have := Int32.toInt_lt p1
  have := Int32.le_toInt p2; have := Int32.toInt_lt p2
  have := Int32.le_toInt p3; have := Int32.toInt_lt p3
  have := Int32.le_toInt v15; have := Int32.toInt_lt v15
  have := Int32.le_toInt v18; have := Int32.toInt_lt v18
  have := Int32.le_toInt v23; have := Int32.toInt_lt v23
  have := Int64.le_toInt v24; have := Int64.toInt_lt v24
  have := Int64.le_toInt v25; have := Int64.toInt_lt v25
  have := Int64.le_toInt v26; have := Int64.toInt_lt v26
  have := Int64.le_toInt v27; have := Int64.toInt_lt v27
  have bl1 := Int32.le_toInt ex1; have bu1 := Int32.toInt_lt ex1
  have fa1 := c_mask p1 (2147483647 : Int32) 31 (by decide) (by decide); rw [hex1] at fa1; try simp only [Int32.reduceToInt, Int64.reduceToInt] at fa1
  clear hex1
  have bl2 := Int32.le_toInt ex2; have bu2 := Int32.toInt_lt ex2
  have fa2 := c_mask p3 (1 : Int32) 1 (by decide) (by decide); rw [hex2] at fa2; try simp only [Int32.reduceToInt, Int64.reduceToInt] at fa2
  clear hex2
  have bl3 := Int32.le_toInt ex3; have bu3 := Int32.toInt_lt ex3
  have fa3 := c_mask p2 (7 : Int32) 3 (by decide) (by decide); rw [hex3] at fa3; try simp only [Int32.reduceToInt, Int64.reduceToInt] at fa3
  clear hex3
  have bl4 := Int32.le_toInt ex4; have bu4 := Int32.toInt_lt ex4
  have fa4 := c_mask p2 (2147483647 : Int32) 31 (by decide) (by decide); rw [hex4] at fa4; try simp only [Int32.reduceToInt, Int64.reduceToInt] at fa4
  clear hex4
  try simp only [Int32.lt_iff_toInt_lt, Int64.lt_iff_toInt_lt, ← Int32.toInt_inj, ← Int64.toInt_inj, Int32.reduceToInt, Int64.reduceToInt, not_true_eq_false, not_false_eq_true, false_and, and_false, true_and, and_true, false_or, or_false, true_or, or_true] at fc5
  try simp only [Int32.lt_iff_toInt_lt, Int64.lt_iff_toInt_lt, ← Int32.toInt_inj, ← Int64.toInt_inj, Int32.reduceToInt, Int64.reduceToInt, not_true_eq_false, not_false_eq_true, false_and, and_false, true_and, and_true, false_or, or_false, true_or, or_true] at fc6
  try simp only [Int32.lt_iff_toInt_lt, Int64.lt_iff_toInt_lt, ← Int32.toInt_inj, ← Int64.toInt_inj, Int32.reduceToInt, Int64.reduceToInt, not_true_eq_false, not_false_eq_true, false_and, and_false, true_and, and_true, false_or, or_false, true_or, or_true] at fc7
  have bl8 := Int32.le_toInt ex8; have bu8 := Int32.toInt_lt ex8
  have fa8 := c_isub v15 v18; rw [hex8] at fa8; try simp only [Int32.reduceToInt, Int64.reduceToInt] at fa8
  clear hex8
  have bl9 := Int64.le_toInt ex9; have bu9 := Int64.toInt_lt ex9
  have fa9 := c_i2l p0; rw [hex9] at fa9; try simp only [Int32.reduceToInt, Int64.reduceToInt] at fa9
  clear hex9
  have bl10 := Int64.le_toInt ex10; have bu10 := Int64.toInt_lt ex10
  have fa10 := c_i2l v15; rw [hex10] at fa10; try simp only [Int32.reduceToInt, Int64.reduceToInt] at fa10
  clear hex10
  have bl11 := Int64.le_toInt ex11; have bu11 := Int64.toInt_lt ex11
  have fa11 := c_i2l v18; rw [hex11] at fa11; try simp only [Int32.reduceToInt, Int64.reduceToInt] at fa11
  clear hex11
  have bl12 := Int64.le_toInt ex12; have bu12 := Int64.toInt_lt ex12
  have fa12 := c_i2l v23; rw [hex12] at fa12; try simp only [Int32.reduceToInt, Int64.reduceToInt] at fa12
  clear hex12
  have bl13 := Int64.le_toInt ex13; have bu13 := Int64.toInt_lt ex13
  have fa13 := c_ladd v24 v26; rw [hex13] at fa13; try simp only [Int32.reduceToInt, Int64.reduceToInt] at fa13
  clear hex13
  all_goals omega
set_option maxRecDepth 65536 in
set_option maxHeartbeats 40000000 in
theorem own_leaf0_27 (p0 : Int32) (p1 : Int32) (p2 : Int32) (p3 : Int32) (v15 : Int32) (hv15 : v15 = (p1 &&& (2147483647 : Int32))) (v18 : Int32) (hv18 : v18 = (if (p3 &&& (1 : Int32)) = (0 : Int32) then (p2 &&& (2147483647 : Int32)) else (p2 &&& (7 : Int32)))) (v23 : Int32) (hv23 : v23 = (own_f1 p0 v15 v18)) (v24 : Int64) (hv24 : v24 = (p0.toInt64)) (v25 : Int64) (hv25 : v25 = (v15.toInt64)) (v26 : Int64) (hv26 : v26 = (v18.toInt64)) (v27 : Int64) (hv27 : v27 = (v23.toInt64)) (hc29 : ¬ (v18 = (0 : Int32))) (hc45 : ¬ (v25 < v26)) (hc71 : (0 : Int64) < v24) (hc73 : v25 < (v24 + v26)) (hc75 : ¬ (v23 = (-1 : Int32))) (hc77 : ¬ (v27 < (0 : Int64))) (hc83 : v27 < v24) (hc85 : ¬ (v27 = (0 : Int64))) (hc87 : (v27 - (1 : Int64)) < v24) : False := by
  have dv18 : ((p3 &&& (1 : Int32)) = (0 : Int32) ∧ (v18 = (p2 &&& (2147483647 : Int32)))) ∨ (¬ ((p3 &&& (1 : Int32)) = (0 : Int32)) ∧ (v18 = (p2 &&& (7 : Int32)))) := (if cq0 : (p3 &&& (1 : Int32)) = (0 : Int32) then Or.inl ⟨cq0, (by rw [hv18, if_pos cq0])⟩ else Or.inr ⟨cq0, (by rw [hv18, if_neg cq0])⟩)
  clear hv18
  generalize hex1 : (p1 &&& (2147483647 : Int32)) = ex1 at *
  generalize hex2 : (p3 &&& (1 : Int32)) = ex2 at *
  generalize hex3 : (p2 &&& (7 : Int32)) = ex3 at *
  generalize hex4 : (p2 &&& (2147483647 : Int32)) = ex4 at *
  have fc5 := own_f1_cases p0 v15 v18
  generalize own_f1 p0 v15 v18 = ex5 at *
  have fc6 := own_f2_cases p0 (0 : Int32)
  generalize own_f2 p0 (0 : Int32) = ex6 at *
  have fc7 := own_f3_cases ex6 v15
  generalize own_f3 ex6 v15 = ex7 at *
  generalize hex8 : (v15 - v18) = ex8 at *
  generalize hex9 : (p0.toInt64) = ex9 at *
  generalize hex10 : (v15.toInt64) = ex10 at *
  generalize hex11 : (v18.toInt64) = ex11 at *
  generalize hex12 : (v23.toInt64) = ex12 at *
  generalize hex13 : (v24 + v26) = ex13 at *
  generalize hex14 : (v27 - (1 : Int64)) = ex14 at *
  try simp only [Int32.lt_iff_toInt_lt, Int64.lt_iff_toInt_lt, ← Int32.toInt_inj, ← Int64.toInt_inj, Int32.reduceToInt, Int64.reduceToInt, not_true_eq_false, not_false_eq_true, false_and, and_false, true_and, and_true, false_or, or_false, true_or, or_true] at dv18
  try simp only [Int32.lt_iff_toInt_lt, Int64.lt_iff_toInt_lt, ← Int32.toInt_inj, ← Int64.toInt_inj, Int32.reduceToInt, Int64.reduceToInt, not_true_eq_false, not_false_eq_true, false_and, and_false, true_and, and_true, false_or, or_false, true_or, or_true] at hv15
  try simp only [Int32.lt_iff_toInt_lt, Int64.lt_iff_toInt_lt, ← Int32.toInt_inj, ← Int64.toInt_inj, Int32.reduceToInt, Int64.reduceToInt, not_true_eq_false, not_false_eq_true, false_and, and_false, true_and, and_true, false_or, or_false, true_or, or_true] at hv23
  try simp only [Int32.lt_iff_toInt_lt, Int64.lt_iff_toInt_lt, ← Int32.toInt_inj, ← Int64.toInt_inj, Int32.reduceToInt, Int64.reduceToInt, not_true_eq_false, not_false_eq_true, false_and, and_false, true_and, and_true, false_or, or_false, true_or, or_true] at hv24
  try simp only [Int32.lt_iff_toInt_lt, Int64.lt_iff_toInt_lt, ← Int32.toInt_inj, ← Int64.toInt_inj, Int32.reduceToInt, Int64.reduceToInt, not_true_eq_false, not_false_eq_true, false_and, and_false, true_and, and_true, false_or, or_false, true_or, or_true] at hv25
  try simp only [Int32.lt_iff_toInt_lt, Int64.lt_iff_toInt_lt, ← Int32.toInt_inj, ← Int64.toInt_inj, Int32.reduceToInt, Int64.reduceToInt, not_true_eq_false, not_false_eq_true, false_and, and_false, true_and, and_true, false_or, or_false, true_or, or_true] at hv26
  try simp only [Int32.lt_iff_toInt_lt, Int64.lt_iff_toInt_lt, ← Int32.toInt_inj, ← Int64.toInt_inj, Int32.reduceToInt, Int64.reduceToInt, not_true_eq_false, not_false_eq_true, false_and, and_false, true_and, and_true, false_or, or_false, true_or, or_true] at hv27
  try simp only [Int32.lt_iff_toInt_lt, Int64.lt_iff_toInt_lt, ← Int32.toInt_inj, ← Int64.toInt_inj, Int32.reduceToInt, Int64.reduceToInt, not_true_eq_false, not_false_eq_true, false_and, and_false, true_and, and_true, false_or, or_false, true_or, or_true] at hc29
  try simp only [Int32.lt_iff_toInt_lt, Int64.lt_iff_toInt_lt, ← Int32.toInt_inj, ← Int64.toInt_inj, Int32.reduceToInt, Int64.reduceToInt, not_true_eq_false, not_false_eq_true, false_and, and_false, true_and, and_true, false_or, or_false, true_or, or_true] at hc45
  try simp only [Int32.lt_iff_toInt_lt, Int64.lt_iff_toInt_lt, ← Int32.toInt_inj, ← Int64.toInt_inj, Int32.reduceToInt, Int64.reduceToInt, not_true_eq_false, not_false_eq_true, false_and, and_false, true_and, and_true, false_or, or_false, true_or, or_true] at hc71
  try simp only [Int32.lt_iff_toInt_lt, Int64.lt_iff_toInt_lt, ← Int32.toInt_inj, ← Int64.toInt_inj, Int32.reduceToInt, Int64.reduceToInt, not_true_eq_false, not_false_eq_true, false_and, and_false, true_and, and_true, false_or, or_false, true_or, or_true] at hc73
  try simp only [Int32.lt_iff_toInt_lt, Int64.lt_iff_toInt_lt, ← Int32.toInt_inj, ← Int64.toInt_inj, Int32.reduceToInt, Int64.reduceToInt, not_true_eq_false, not_false_eq_true, false_and, and_false, true_and, and_true, false_or, or_false, true_or, or_true] at hc75
  try simp only [Int32.lt_iff_toInt_lt, Int64.lt_iff_toInt_lt, ← Int32.toInt_inj, ← Int64.toInt_inj, Int32.reduceToInt, Int64.reduceToInt, not_true_eq_false, not_false_eq_true, false_and, and_false, true_and, and_true, false_or, or_false, true_or, or_true] at hc77
  try simp only [Int32.lt_iff_toInt_lt, Int64.lt_iff_toInt_lt, ← Int32.toInt_inj, ← Int64.toInt_inj, Int32.reduceToInt, Int64.reduceToInt, not_true_eq_false, not_false_eq_true, false_and, and_false, true_and, and_true, false_or, or_false, true_or, or_true] at hc83
  try simp only [Int32.lt_iff_toInt_lt, Int64.lt_iff_toInt_lt, ← Int32.toInt_inj, ← Int64.toInt_inj, Int32.reduceToInt, Int64.reduceToInt, not_true_eq_false, not_false_eq_true, false_and, and_false, true_and, and_true, false_or, or_false, true_or, or_true] at hc85
  try simp only [Int32.lt_iff_toInt_lt, Int64.lt_iff_toInt_lt, ← Int32.toInt_inj, ← Int64.toInt_inj, Int32.reduceToInt, Int64.reduceToInt, not_true_eq_false, not_false_eq_true, false_and, and_false, true_and, and_true, false_or, or_false, true_or, or_true] at hc87
  have := Int32.le_toInt p0; have := Int32.toInt_lt p0
  have := Int32.le_toInt p1; have := Int32.toInt_lt p1
  have := Int32.le_toInt p2; have := Int32.toInt_lt p2
  have := Int32.le_toInt p3; have := Int32.toInt_lt p3
  have := Int32.le_toInt v15; have := Int32.toInt_lt v15
  have := Int32.le_toInt v18; have := Int32.toInt_lt v18
  have := Int32.le_toInt v23; have := Int32.toInt_lt v23
  have := Int64.le_toInt v24; have := Int64.toInt_lt v24
  have := Int64.le_toInt v25; have := Int64.toInt_lt v25
  have := Int64.le_toInt v26; have := Int64.toInt_lt v26
  have := Int64.le_toInt v27; have := Int64.toInt_lt v27
  have bl1 := Int32.le_toInt ex1; have bu1 := Int32.toInt_lt ex1
  have fa1 := c_mask p1 (2147483647 : Int32) 31 (by decide) (by decide); rw [hex1] at fa1; try simp only [Int32.reduceToInt, Int64.reduceToInt] at fa1
  clear hex1
  have bl2 := Int32.le_toInt ex2; have bu2 := Int32.toInt_lt ex2
  have fa2 := c_mask p3 (1 : Int32) 1 (by decide) (by decide); rw [hex2] at fa2; try simp only [Int32.reduceToInt, Int64.reduceToInt] at fa2
  clear hex2
  have bl3 := Int32.le_toInt ex3; have bu3 := Int32.toInt_lt ex3
  have fa3 := c_mask p2 (7 : Int32) 3 (by decide) (by decide); rw [hex3] at fa3; try simp only [Int32.reduceToInt, Int64.reduceToInt] at fa3
  clear hex3
  have bl4 := Int32.le_toInt ex4; have bu4 := Int32.toInt_lt ex4
  have fa4 := c_mask p2 (2147483647 : Int32) 31 (by decide) (by decide); rw [hex4] at fa4; try simp only [Int32.reduceToInt, Int64.reduceToInt] at fa4
  clear hex4
  try simp only [Int32.lt_iff_toInt_lt, Int64.lt_iff_toInt_lt, ← Int32.toInt_inj, ← Int64.toInt_inj, Int32.reduceToInt, Int64.reduceToInt, not_true_eq_false, not_false_eq_true, false_and, and_false, true_and, and_true, false_or, or_false, true_or, or_true] at fc5
  try simp only [Int32.lt_iff_toInt_lt, Int64.lt_iff_toInt_lt, ← Int32.toInt_inj, ← Int64.toInt_inj, Int32.reduceToInt, Int64.reduceToInt, not_true_eq_false, not_false_eq_true, false_and, and_false, true_and, and_true, false_or, or_false, true_or, or_true] at fc6
  try simp only [Int32.lt_iff_toInt_lt, Int64.lt_iff_toInt_lt, ← Int32.toInt_inj, ← Int64.toInt_inj, Int32.reduceToInt, Int64.reduceToInt, not_true_eq_false, not_false_eq_true, false_and, and_false, true_and, and_true, false_or, or_false, true_or, or_true] at fc7
  have bl8 := Int32.le_toInt ex8; have bu8 := Int32.toInt_lt ex8
  have fa8 := c_isub v15 v18; rw [hex8] at fa8; try simp only [Int32.reduceToInt, Int64.reduceToInt] at fa8
  clear hex8
  have bl9 := Int64.le_toInt ex9; have bu9 := Int64.toInt_lt ex9
  have fa9 := c_i2l p0; rw [hex9] at fa9; try simp only [Int32.reduceToInt, Int64.reduceToInt] at fa9
  clear hex9
  have bl10 := Int64.le_toInt ex10; have bu10 := Int64.toInt_lt ex10
  have fa10 := c_i2l v15; rw [hex10] at fa10; try simp only [Int32.reduceToInt, Int64.reduceToInt] at fa10
  clear hex10
  have bl11 := Int64.le_toInt ex11; have bu11 := Int64.toInt_lt ex11
  have fa11 := c_i2l v18; rw [hex11] at fa11; try simp only [Int32.reduceToInt, Int64.reduceToInt] at fa11
  clear hex11
  have bl12 := Int64.le_toInt ex12; have bu12 := Int64.toInt_lt ex12
  have fa12 := c_i2l v23; rw [hex12] at fa12; try simp only [Int32.reduceToInt, Int64.reduceToInt] at fa12
  clear hex12
  have bl13 := Int64.le_toInt ex13; have bu13 := Int64.toInt_lt ex13
  have fa13 := c_ladd v24 v26; rw [hex13] at fa13; try simp only [Int32.reduceToInt, Int64.reduceToInt] at fa13
  clear hex13
  have bl14 := Int64.le_toInt ex14; have bu14 := Int64.toInt_lt ex14
  have fa14 := c_lsub v27 (1 : Int64); rw [hex14] at fa14; try simp only [Int32.reduceToInt, Int64.reduceToInt] at fa14
  clear hex14
  all_goals omega
set_option maxRecDepth 65536 in
set_option maxHeartbeats 40000000 in
theorem own_leaf0_28 (p0 : Int32) (p1 : Int32) (p2 : Int32) (p3 : Int32) (v15 : Int32) (hv15 : v15 = (p1 &&& (2147483647 : Int32))) (v18 : Int32) (hv18 : v18 = (if (p3 &&& (1 : Int32)) = (0 : Int32) then (p2 &&& (2147483647 : Int32)) else (p2 &&& (7 : Int32)))) (v23 : Int32) (hv23 : v23 = (own_f1 p0 v15 v18)) (v24 : Int64) (hv24 : v24 = (p0.toInt64)) (v25 : Int64) (hv25 : v25 = (v15.toInt64)) (v26 : Int64) (hv26 : v26 = (v18.toInt64)) (v27 : Int64) (hv27 : v27 = (v23.toInt64)) (hc29 : ¬ (v18 = (0 : Int32))) (hc45 : ¬ (v25 < v26)) (hc71 : (0 : Int64) < v24) (hc73 : v25 < (v24 + v26)) (hc75 : ¬ (v23 = (-1 : Int32))) (hc77 : ¬ (v27 < (0 : Int64))) (hc83 : v27 < v24) (hc85 : ¬ (v27 = (0 : Int64))) (hc87 : ¬ ((v27 - (1 : Int64)) < v24)) : False := by
  have dv18 : ((p3 &&& (1 : Int32)) = (0 : Int32) ∧ (v18 = (p2 &&& (2147483647 : Int32)))) ∨ (¬ ((p3 &&& (1 : Int32)) = (0 : Int32)) ∧ (v18 = (p2 &&& (7 : Int32)))) := (if cq0 : (p3 &&& (1 : Int32)) = (0 : Int32) then Or.inl ⟨cq0, (by rw [hv18, if_pos cq0])⟩ else Or.inr ⟨cq0, (by rw [hv18, if_neg cq0])⟩)
  clear hv18
  generalize hex1 : (p1 &&& (2147483647 : Int32)) = ex1 at *
  generalize hex2 : (p3 &&& (1 : Int32)) = ex2 at *
  generalize hex3 : (p2 &&& (7 : Int32)) = ex3 at *
  generalize hex4 : (p2 &&& (2147483647 : Int32)) = ex4 at *
  have fc5 := own_f1_cases p0 v15 v18
  generalize own_f1 p0 v15 v18 = ex5 at *
  have fc6 := own_f2_cases p0 (0 : Int32)
  generalize own_f2 p0 (0 : Int32) = ex6 at *
  have fc7 := own_f3_cases ex6 v15
  generalize own_f3 ex6 v15 = ex7 at *
  generalize hex8 : (v15 - v18) = ex8 at *
  generalize hex9 : (p0.toInt64) = ex9 at *
  generalize hex10 : (v15.toInt64) = ex10 at *
  generalize hex11 : (v18.toInt64) = ex11 at *
  generalize hex12 : (v23.toInt64) = ex12 at *
  generalize hex13 : (v24 + v26) = ex13 at *
  generalize hex14 : (v27 - (1 : Int64)) = ex14 at *
  try simp only [Int32.lt_iff_toInt_lt, Int64.lt_iff_toInt_lt, ← Int32.toInt_inj, ← Int64.toInt_inj, Int32.reduceToInt, Int64.reduceToInt, not_true_eq_false, not_false_eq_true, false_and, and_false, true_and, and_true, false_or, or_false, true_or, or_true] at dv18
  try simp only [Int32.lt_iff_toInt_lt, Int64.lt_iff_toInt_lt, ← Int32.toInt_inj, ← Int64.toInt_inj, Int32.reduceToInt, Int64.reduceToInt, not_true_eq_false, not_false_eq_true, false_and, and_false, true_and, and_true, false_or, or_false, true_or, or_true] at hv15
  try simp only [Int32.lt_iff_toInt_lt, Int64.lt_iff_toInt_lt, ← Int32.toInt_inj, ← Int64.toInt_inj, Int32.reduceToInt, Int64.reduceToInt, not_true_eq_false, not_false_eq_true, false_and, and_false, true_and, and_true, false_or, or_false, true_or, or_true] at hv23
  try simp only [Int32.lt_iff_toInt_lt, Int64.lt_iff_toInt_lt, ← Int32.toInt_inj, ← Int64.toInt_inj, Int32.reduceToInt, Int64.reduceToInt, not_true_eq_false, not_false_eq_true, false_and, and_false, true_and, and_true, false_or, or_false, true_or, or_true] at hv24
  try simp only [Int32.lt_iff_toInt_lt, Int64.lt_iff_toInt_lt, ← Int32.toInt_inj, ← Int64.toInt_inj, Int32.reduceToInt, Int64.reduceToInt, not_true_eq_false, not_false_eq_true, false_and, and_false, true_and, and_true, false_or, or_false, true_or, or_true] at hv25
  try simp only [Int32.lt_iff_toInt_lt, Int64.lt_iff_toInt_lt, ← Int32.toInt_inj, ← Int64.toInt_inj, Int32.reduceToInt, Int64.reduceToInt, not_true_eq_false, not_false_eq_true, false_and, and_false, true_and, and_true, false_or, or_false, true_or, or_true] at hv26
  try simp only [Int32.lt_iff_toInt_lt, Int64.lt_iff_toInt_lt, ← Int32.toInt_inj, ← Int64.toInt_inj, Int32.reduceToInt, Int64.reduceToInt, not_true_eq_false, not_false_eq_true, false_and, and_false, true_and, and_true, false_or, or_false, true_or, or_true] at hv27
  try simp only [Int32.lt_iff_toInt_lt, Int64.lt_iff_toInt_lt, ← Int32.toInt_inj, ← Int64.toInt_inj, Int32.reduceToInt, Int64.reduceToInt, not_true_eq_false, not_false_eq_true, false_and, and_false, true_and, and_true, false_or, or_false, true_or, or_true] at hc29
  try simp only [Int32.lt_iff_toInt_lt, Int64.lt_iff_toInt_lt, ← Int32.toInt_inj, ← Int64.toInt_inj, Int32.reduceToInt, Int64.reduceToInt, not_true_eq_false, not_false_eq_true, false_and, and_false, true_and, and_true, false_or, or_false, true_or, or_true] at hc45
  try simp only [Int32.lt_iff_toInt_lt, Int64.lt_iff_toInt_lt, ← Int32.toInt_inj, ← Int64.toInt_inj, Int32.reduceToInt, Int64.reduceToInt, not_true_eq_false, not_false_eq_true, false_and, and_false, true_and, and_true, false_or, or_false, true_or, or_true] at hc71
  try simp only [Int32.lt_iff_toInt_lt, Int64.lt_iff_toInt_lt, ← Int32.toInt_inj, ← Int64.toInt_inj, Int32.reduceToInt, Int64.reduceToInt, not_true_eq_false, not_false_eq_true, false_and, and_false, true_and, and_true, false_or, or_false, true_or, or_true] at hc73
  try simp only [Int32.lt_iff_toInt_lt, Int64.lt_iff_toInt_lt, ← Int32.toInt_inj, ← Int64.toInt_inj, Int32.reduceToInt, Int64.reduceToInt, not_true_eq_false, not_false_eq_true, false_and, and_false, true_and, and_true, false_or, or_false, true_or, or_true] at hc75
  try simp only [Int32.lt_iff_toInt_lt, Int64.lt_iff_toInt_lt, ← Int32.toInt_inj, ← Int64.toInt_inj, Int32.reduceToInt, Int64.reduceToInt, not_true_eq_false, not_false_eq_true, false_and, and_false, true_and, and_true, false_or, or_false, true_or, or_true] at hc77
  try simp only [Int32.lt_iff_toInt_lt, Int64.lt_iff_toInt_lt, ← Int32.toInt_inj, ← Int64.toInt_inj, Int32.reduceToInt, Int64.reduceToInt, not_true_eq_false, not_false_eq_true, false_and, and_false, true_and, and_true, false_or, or_false, true_or, or_true] at hc83
  try simp only [Int32.lt_iff_toInt_lt, Int64.lt_iff_toInt_lt, ← Int32.toInt_inj, ← Int64.toInt_inj, Int32.reduceToInt, Int64.reduceToInt, not_true_eq_false, not_false_eq_true, false_and, and_false, true_and, and_true, false_or, or_false, true_or, or_true] at hc85
  try simp only [Int32.lt_iff_toInt_lt, Int64.lt_iff_toInt_lt, ← Int32.toInt_inj, ← Int64.toInt_inj, Int32.reduceToInt, Int64.reduceToInt, not_true_eq_false, not_false_eq_true, false_and, and_false, true_and, and_true, false_or, or_false, true_or, or_true] at hc87
  have := Int32.le_toInt p0; have := Int32.toInt_lt p0
  have := Int32.le_toInt p1; have := Int32.toInt_lt p1
  have := Int32.le_toInt p2; have := Int32.toInt_lt p2
  have := Int32.le_toInt p3; have := Int32.toInt_lt p3
  have := Int32.le_toInt v15; have := Int32.toInt_lt v15
  have := Int32.le_toInt v18; have := Int32.toInt_lt v18
  have := Int32.le_toInt v23; have := Int32.toInt_lt v23
  have := Int64.le_toInt v24; have := Int64.toInt_lt v24
  have := Int64.le_toInt v25; have := Int64.toInt_lt v25
  have := Int64.le_toInt v26; have := Int64.toInt_lt v26
  have := Int64.le_toInt v27; have := Int64.toInt_lt v27
  have bl1 := Int32.le_toInt ex1; have bu1 := Int32.toInt_lt ex1
  have fa1 := c_mask p1 (2147483647 : Int32) 31 (by decide) (by decide); rw [hex1] at fa1; try simp only [Int32.reduceToInt, Int64.reduceToInt] at fa1
  clear hex1
  have bl2 := Int32.le_toInt ex2; have bu2 := Int32.toInt_lt ex2
  have fa2 := c_mask p3 (1 : Int32) 1 (by decide) (by decide); rw [hex2] at fa2; try simp only [Int32.reduceToInt, Int64.reduceToInt] at fa2
  clear hex2
  have bl3 := Int32.le_toInt ex3; have bu3 := Int32.toInt_lt ex3
  have fa3 := c_mask p2 (7 : Int32) 3 (by decide) (by decide); rw [hex3] at fa3; try simp only [Int32.reduceToInt, Int64.reduceToInt] at fa3
  clear hex3
  have bl4 := Int32.le_toInt ex4; have bu4 := Int32.toInt_lt ex4
  have fa4 := c_mask p2 (2147483647 : Int32) 31 (by decide) (by decide); rw [hex4] at fa4; try simp only [Int32.reduceToInt, Int64.reduceToInt] at fa4
  clear hex4
  try simp only [Int32.lt_iff_toInt_lt, Int64.lt_iff_toInt_lt, ← Int32.toInt_inj, ← Int64.toInt_inj, Int32.reduceToInt, Int64.reduceToInt, not_true_eq_false, not_false_eq_true, false_and, and_false, true_and, and_true, false_or, or_false, true_or, or_true] at fc5
  try simp only [Int32.lt_iff_toInt_lt, Int64.lt_iff_toInt_lt, ← Int32.toInt_inj, ← Int64.toInt_inj, Int32.reduceToInt, Int64.reduceToInt, not_true_eq_false, not_false_eq_true, false_and, and_false, true_and, and_true, false_or, or_false, true_or, or_true] at fc6
  try simp only [Int32.lt_iff_toInt_lt, Int64.lt_iff_toInt_lt, ← Int32.toInt_inj, ← Int64.toInt_inj, Int32.reduceToInt, Int64.reduceToInt, not_true_eq_false, not_false_eq_true, false_and, and_false, true_and, and_true, false_or, or_false, true_or, or_true] at fc7
  have bl8 := Int32.le_toInt ex8; have bu8 := Int32.toInt_lt ex8
  have fa8 := c_isub v15 v18; rw [hex8] at fa8; try simp only [Int32.reduceToInt, Int64.reduceToInt] at fa8
  clear hex8
  have bl9 := Int64.le_toInt ex9; have bu9 := Int64.toInt_lt ex9
  have fa9 := c_i2l p0; rw [hex9] at fa9; try simp only [Int32.reduceToInt, Int64.reduceToInt] at fa9
  clear hex9
  have bl10 := Int64.le_toInt ex10; have bu10 := Int64.toInt_lt ex10
  have fa10 := c_i2l v15; rw [hex10] at fa10; try simp only [Int32.reduceToInt, Int64.reduceToInt] at fa10
  clear hex10
  have bl11 := Int64.le_toInt ex11; have bu11 := Int64.toInt_lt ex11
  have fa11 := c_i2l v18; rw [hex11] at fa11; try simp only [Int32.reduceToInt, Int64.reduceToInt] at fa11
  clear hex11
  have bl12 := Int64.le_toInt ex12; have bu12 := Int64.toInt_lt ex12
  have fa12 := c_i2l v23; rw [hex12] at fa12; try simp only [Int32.reduceToInt, Int64.reduceToInt] at fa12
  clear hex12
  have bl13 := Int64.le_toInt ex13; have bu13 := Int64.toInt_lt ex13
  have fa13 := c_ladd v24 v26; rw [hex13] at fa13; try simp only [Int32.reduceToInt, Int64.reduceToInt] at fa13
  clear hex13
  have bl14 := Int64.le_toInt ex14; have bu14 := Int64.toInt_lt ex14
  have fa14 := c_lsub v27 (1 : Int64); rw [hex14] at fa14; try simp only [Int32.reduceToInt, Int64.reduceToInt] at fa14
  clear hex14
  all_goals omega
set_option maxRecDepth 65536 in
set_option maxHeartbeats 40000000 in
theorem own_leaf0_29 (p0 : Int32) (p1 : Int32) (p2 : Int32) (p3 : Int32) (v15 : Int32) (hv15 : v15 = (p1 &&& (2147483647 : Int32))) (v18 : Int32) (hv18 : v18 = (if (p3 &&& (1 : Int32)) = (0 : Int32) then (p2 &&& (2147483647 : Int32)) else (p2 &&& (7 : Int32)))) (v23 : Int32) (hv23 : v23 = (own_f1 p0 v15 v18)) (v24 : Int64) (hv24 : v24 = (p0.toInt64)) (v25 : Int64) (hv25 : v25 = (v15.toInt64)) (v26 : Int64) (hv26 : v26 = (v18.toInt64)) (v27 : Int64) (hv27 : v27 = (v23.toInt64)) (hc29 : ¬ (v18 = (0 : Int32))) (hc45 : ¬ (v25 < v26)) (hc71 : (0 : Int64) < v24) (hc73 : v25 < (v24 + v26)) (hc75 : ¬ (v23 = (-1 : Int32))) (hc77 : ¬ (v27 < (0 : Int64))) (hc83 : ¬ (v27 < v24)) (hc89 : v25 < (v27 + v26)) (hc91 : v27 = (0 : Int64)) : False := by
  have dv18 : ((p3 &&& (1 : Int32)) = (0 : Int32) ∧ (v18 = (p2 &&& (2147483647 : Int32)))) ∨ (¬ ((p3 &&& (1 : Int32)) = (0 : Int32)) ∧ (v18 = (p2 &&& (7 : Int32)))) := (if cq0 : (p3 &&& (1 : Int32)) = (0 : Int32) then Or.inl ⟨cq0, (by rw [hv18, if_pos cq0])⟩ else Or.inr ⟨cq0, (by rw [hv18, if_neg cq0])⟩)
  clear hv18
  generalize hex1 : (p1 &&& (2147483647 : Int32)) = ex1 at *
  generalize hex2 : (p3 &&& (1 : Int32)) = ex2 at *
  generalize hex3 : (p2 &&& (7 : Int32)) = ex3 at *
  generalize hex4 : (p2 &&& (2147483647 : Int32)) = ex4 at *
  have fc5 := own_f1_cases p0 v15 v18
  generalize own_f1 p0 v15 v18 = ex5 at *
  have fc6 := own_f2_cases p0 (0 : Int32)
  generalize own_f2 p0 (0 : Int32) = ex6 at *
  have fc7 := own_f3_cases ex6 v15
  generalize own_f3 ex6 v15 = ex7 at *
  generalize hex8 : (v15 - v18) = ex8 at *
  generalize hex9 : (p0.toInt64) = ex9 at *
  generalize hex10 : (v15.toInt64) = ex10 at *
  generalize hex11 : (v18.toInt64) = ex11 at *
  generalize hex12 : (v23.toInt64) = ex12 at *
  generalize hex13 : (v24 + v26) = ex13 at *
  generalize hex14 : (v27 + v26) = ex14 at *
  try simp only [Int32.lt_iff_toInt_lt, Int64.lt_iff_toInt_lt, ← Int32.toInt_inj, ← Int64.toInt_inj, Int32.reduceToInt, Int64.reduceToInt, not_true_eq_false, not_false_eq_true, false_and, and_false, true_and, and_true, false_or, or_false, true_or, or_true] at dv18
  try simp only [Int32.lt_iff_toInt_lt, Int64.lt_iff_toInt_lt, ← Int32.toInt_inj, ← Int64.toInt_inj, Int32.reduceToInt, Int64.reduceToInt, not_true_eq_false, not_false_eq_true, false_and, and_false, true_and, and_true, false_or, or_false, true_or, or_true] at hv15
  try simp only [Int32.lt_iff_toInt_lt, Int64.lt_iff_toInt_lt, ← Int32.toInt_inj, ← Int64.toInt_inj, Int32.reduceToInt, Int64.reduceToInt, not_true_eq_false, not_false_eq_true, false_and, and_false, true_and, and_true, false_or, or_false, true_or, or_true] at hv23
  try simp only [Int32.lt_iff_toInt_lt, Int64.lt_iff_toInt_lt, ← Int32.toInt_inj, ← Int64.toInt_inj, Int32.reduceToInt, Int64.reduceToInt, not_true_eq_false, not_false_eq_true, false_and, and_false, true_and, and_true, false_or, or_false, true_or, or_true] at hv24
  try simp only [Int32.lt_iff_toInt_lt, Int64.lt_iff_toInt_lt, ← Int32.toInt_inj, ← Int64.toInt_inj, Int32.reduceToInt, Int64.reduceToInt, not_true_eq_false, not_false_eq_true, false_and, and_false, true_and, and_true, false_or, or_false, true_or, or_true] at hv25
  try simp only [Int32.lt_iff_toInt_lt, Int64.lt_iff_toInt_lt, ← Int32.toInt_inj, ← Int64.toInt_inj, Int32.reduceToInt, Int64.reduceToInt, not_true_eq_false, not_false_eq_true, false_and, and_false, true_and, and_true, false_or, or_false, true_or, or_true] at hv26
  try simp only [Int32.lt_iff_toInt_lt, Int64.lt_iff_toInt_lt, ← Int32.toInt_inj, ← Int64.toInt_inj, Int32.reduceToInt, Int64.reduceToInt, not_true_eq_false, not_false_eq_true, false_and, and_false, true_and, and_true, false_or, or_false, true_or, or_true] at hv27
  try simp only [Int32.lt_iff_toInt_lt, Int64.lt_iff_toInt_lt, ← Int32.toInt_inj, ← Int64.toInt_inj, Int32.reduceToInt, Int64.reduceToInt, not_true_eq_false, not_false_eq_true, false_and, and_false, true_and, and_true, false_or, or_false, true_or, or_true] at hc29
  try simp only [Int32.lt_iff_toInt_lt, Int64.lt_iff_toInt_lt, ← Int32.toInt_inj, ← Int64.toInt_inj, Int32.reduceToInt, Int64.reduceToInt, not_true_eq_false, not_false_eq_true, false_and, and_false, true_and, and_true, false_or, or_false, true_or, or_true] at hc45
  try simp only [Int32.lt_iff_toInt_lt, Int64.lt_iff_toInt_lt, ← Int32.toInt_inj, ← Int64.toInt_inj, Int32.reduceToInt, Int64.reduceToInt, not_true_eq_false, not_false_eq_true, false_and, and_false, true_and, and_true, false_or, or_false, true_or, or_true] at hc71
  try simp only [Int32.lt_iff_toInt_lt, Int64.lt_iff_toInt_lt, ← Int32.toInt_inj, ← Int64.toInt_inj, Int32.reduceToInt, Int64.reduceToInt, not_true_eq_false, not_false_eq_true, false_and, and_false, true_and, and_true, false_or, or_false, true_or, or_true] at hc73
  try simp only [Int32.lt_iff_toInt_lt, Int64.lt_iff_toInt_lt, ← Int32.toInt_inj, ← Int64.toInt_inj, Int32.reduceToInt, Int64.reduceToInt, not_true_eq_false, not_false_eq_true, false_and, and_false, true_and, and_true, false_or, or_false, true_or, or_true] at hc75
  try simp only [Int32.lt_iff_toInt_lt, Int64.lt_iff_toInt_lt, ← Int32.toInt_inj, ← Int64.toInt_inj, Int32.reduceToInt, Int64.reduceToInt, not_true_eq_false, not_false_eq_true, false_and, and_false, true_and, and_true, false_or, or_false, true_or, or_true] at hc77
  try simp only [Int32.lt_iff_toInt_lt, Int64.lt_iff_toInt_lt, ← Int32.toInt_inj, ← Int64.toInt_inj, Int32.reduceToInt, Int64.reduceToInt, not_true_eq_false, not_false_eq_true, false_and, and_false, true_and, and_true, false_or, or_false, true_or, or_true] at hc83
  try simp only [Int32.lt_iff_toInt_lt, Int64.lt_iff_toInt_lt, ← Int32.toInt_inj, ← Int64.toInt_inj, Int32.reduceToInt, Int64.reduceToInt, not_true_eq_false, not_false_eq_true, false_and, and_false, true_and, and_true, false_or, or_false, true_or, or_true] at hc89
  try simp only [Int32.lt_iff_toInt_lt, Int64.lt_iff_toInt_lt, ← Int32.toInt_inj, ← Int64.toInt_inj, Int32.reduceToInt, Int64.reduceToInt, not_true_eq_false, not_false_eq_true, false_and, and_false, true_and, and_true, false_or, or_false, true_or, or_true] at hc91
  have := Int32.le_toInt p0; have := Int32.toInt_lt p0
  have := Int32.le_toInt p1; have := Int32.toInt_lt p1
  have := Int32.le_toInt p2; have := Int32.toInt_lt p2
  have := Int32.le_toInt p3; have := Int32.toInt_lt p3
  have := Int32.le_toInt v15; have := Int32.toInt_lt v15
  have := Int32.le_toInt v18; have := Int32.toInt_lt v18
  have := Int32.le_toInt v23; have := Int32.toInt_lt v23
  have := Int64.le_toInt v24; have := Int64.toInt_lt v24
  have := Int64.le_toInt v25; have := Int64.toInt_lt v25
  have := Int64.le_toInt v26; have := Int64.toInt_lt v26
  have := Int64.le_toInt v27; have := Int64.toInt_lt v27
  have bl1 := Int32.le_toInt ex1; have bu1 := Int32.toInt_lt ex1
  have fa1 := c_mask p1 (2147483647 : Int32) 31 (by decide) (by decide); rw [hex1] at fa1; try simp only [Int32.reduceToInt, Int64.reduceToInt] at fa1
  clear hex1
  have bl2 := Int32.le_toInt ex2; have bu2 := Int32.toInt_lt ex2
  have fa2 := c_mask p3 (1 : Int32) 1 (by decide) (by decide); rw [hex2] at fa2; try simp only [Int32.reduceToInt, Int64.reduceToInt] at fa2
  clear hex2
  have bl3 := Int32.le_toInt ex3; have bu3 := Int32.toInt_lt ex3
  have fa3 := c_mask p2 (7 : Int32) 3 (by decide) (by decide); rw [hex3] at fa3; try simp only [Int32.reduceToInt, Int64.reduceToInt] at fa3
  clear hex3
  have bl4 := Int32.le_toInt ex4; have bu4 := Int32.toInt_lt ex4
  have fa4 := c_mask p2 (2147483647 : Int32) 31 (by decide) (by decide); rw [hex4] at fa4; try simp only [Int32.reduceToInt, Int64.reduceToInt] at fa4
  clear hex4
  try simp only [Int32.lt_iff_toInt_lt, Int64.lt_iff_toInt_lt, ← Int32.toInt_inj, ← Int64.toInt_inj, Int32.reduceToInt, Int64.reduceToInt, not_true_eq_false, not_false_eq_true, false_and, and_false, true_and, and_true, false_or, or_false, true_or, or_true] at fc5
  try simp only [Int32.lt_iff_toInt_lt, Int64.lt_iff_toInt_lt, ← Int32.toInt_inj, ← Int64.toInt_inj, Int32.reduceToInt, Int64.reduceToInt, not_true_eq_false, not_false_eq_true, false_and, and_false, true_and, and_true, false_or, or_false, true_or, or_true] at fc6
  try simp only [Int32.lt_iff_toInt_lt, Int64.lt_iff_toInt_lt, ← Int32.toInt_inj, ← Int64.toInt_inj, Int32.reduceToInt, Int64.reduceToInt, not_true_eq_false, not_false_eq_true, false_and, and_false, true_and, and_true, false_or, or_false, true_or, or_true] at fc7
  have bl8 := Int32.le_toInt ex8; have bu8 := Int32.toInt_lt ex8
  have fa8 := c_isub v15 v18; rw [hex8] at fa8; try simp only [Int32.reduceToInt, Int64.reduceToInt] at fa8
  clear hex8
  have bl9 := Int64.le_toInt ex9; have bu9 := Int64.toInt_lt ex9
  have fa9 := c_i2l p0; rw [hex9] at fa9; try simp only [Int32.reduceToInt, Int64.reduceToInt] at fa9
  clear hex9
  have bl10 := Int64.le_toInt ex10; have bu10 := Int64.toInt_lt ex10
  have fa10 := c_i2l v15; rw [hex10] at fa10; try simp only [Int32.reduceToInt, Int64.reduceToInt] at fa10
  clear hex10
  have bl11 := Int64.le_toInt ex11; have bu11 := Int64.toInt_lt ex11
  have fa11 := c_i2l v18; rw [hex11] at fa11; try simp only [Int32.reduceToInt, Int64.reduceToInt] at fa11
  clear hex11
  have bl12 := Int64.le_toInt ex12; have bu12 := Int64.toInt_lt ex12
  have fa12 := c_i2l v23; rw [hex12] at fa12; try simp only [Int32.reduceToInt, Int64.reduceToInt] at fa12
  clear hex12
  have bl13 := Int64.le_toInt ex13; have bu13 := Int64.toInt_lt ex13
  have fa13 := c_ladd v24 v26; rw [hex13] at fa13; try simp only [Int32.reduceToInt, Int64.reduceToInt] at fa13
  clear hex13
  have bl14 := Int64.le_toInt ex14; have bu14 := Int64.toInt_lt ex14
  have fa14 := c_ladd v27 v26; rw [hex14] at fa14; try simp only [Int32.reduceToInt, Int64.reduceToInt] at fa14
  clear hex14
  all_goals omega
set_option maxRecDepth 65536 in
set_option maxHeartbeats 40000000 in
theorem own_leaf0_30 (p0 : Int32) (p1 : Int32) (p2 : Int32) (p3 : Int32) (v15 : Int32) (hv15 : v15 = (p1 &&& (2147483647 : Int32))) (v18 : Int32) (hv18 : v18 = (if (p3 &&& (1 : Int32)) = (0 : Int32) then (p2 &&& (2147483647 : Int32)) else (p2 &&& (7 : Int32)))) (v23 : Int32) (hv23 : v23 = (own_f1 p0 v15 v18)) (v24 : Int64) (hv24 : v24 = (p0.toInt64)) (v25 : Int64) (hv25 : v25 = (v15.toInt64)) (v26 : Int64) (hv26 : v26 = (v18.toInt64)) (v27 : Int64) (hv27 : v27 = (v23.toInt64)) (hc29 : ¬ (v18 = (0 : Int32))) (hc45 : ¬ (v25 < v26)) (hc71 : (0 : Int64) < v24) (hc73 : v25 < (v24 + v26)) (hc75 : ¬ (v23 = (-1 : Int32))) (hc77 : ¬ (v27 < (0 : Int64))) (hc83 : ¬ (v27 < v24)) (hc89 : v25 < (v27 + v26)) (hc91 : ¬ (v27 = (0 : Int64))) (hc93 : (v27 - (1 : Int64)) < v24) : False := by
  have dv18 : ((p3 &&& (1 : Int32)) = (0 : Int32) ∧ (v18 = (p2 &&& (2147483647 : Int32)))) ∨ (¬ ((p3 &&& (1 : Int32)) = (0 : Int32)) ∧ (v18 = (p2 &&& (7 : Int32)))) := (if cq0 : (p3 &&& (1 : Int32)) = (0 : Int32) then Or.inl ⟨cq0, (by rw [hv18, if_pos cq0])⟩ else Or.inr ⟨cq0, (by rw [hv18, if_neg cq0])⟩)
  clear hv18
  generalize hex1 : (p1 &&& (2147483647 : Int32)) = ex1 at *
  generalize hex2 : (p3 &&& (1 : Int32)) = ex2 at *
  generalize hex3 : (p2 &&& (7 : Int32)) = ex3 at *
  generalize hex4 : (p2 &&& (2147483647 : Int32)) = ex4 at *
  have fc5 := own_f1_cases p0 v15 v18
  generalize own_f1 p0 v15 v18 = ex5 at *
  have fc6 := own_f2_cases p0 (0 : Int32)
  generalize own_f2 p0 (0 : Int32) = ex6 at *
  have fc7 := own_f3_cases ex6 v15
  generalize own_f3 ex6 v15 = ex7 at *
  generalize hex8 : (v15 - v18) = ex8 at *
  generalize hex9 : (p0.toInt64) = ex9 at *
  generalize hex10 : (v15.toInt64) = ex10 at *
  generalize hex11 : (v18.toInt64) = ex11 at *
  generalize hex12 : (v23.toInt64) = ex12 at *
  generalize hex13 : (v24 + v26) = ex13 at *
  generalize hex14 : (v27 + v26) = ex14 at *
  generalize hex15 : (v27 - (1 : Int64)) = ex15 at *
  try simp only [Int32.lt_iff_toInt_lt, Int64.lt_iff_toInt_lt, ← Int32.toInt_inj, ← Int64.toInt_inj, Int32.reduceToInt, Int64.reduceToInt, not_true_eq_false, not_false_eq_true, false_and, and_false, true_and, and_true, false_or, or_false, true_or, or_true] at dv18
  try simp only [Int32.lt_iff_toInt_lt, Int64.lt_iff_toInt_lt, ← Int32.toInt_inj, ← Int64.toInt_inj, Int32.reduceToInt, Int64.reduceToInt, not_true_eq_false, not_false_eq_true, false_and, and_false, true_and, and_true, false_or, or_false, true_or, or_true] at hv15
  try simp only [Int32.lt_iff_toInt_lt, Int64.lt_iff_toInt_lt, ← Int32.toInt_inj, ← Int64.toInt_inj, Int32.reduceToInt, Int64.reduceToInt, not_true_eq_false, not_false_eq_true, false_and, and_false, true_and, and_true, false_or, or_false, true_or, or_true] at hv23
  try simp only [Int32.lt_iff_toInt_lt, Int64.lt_iff_toInt_lt, ← Int32.toInt_inj, ← Int64.toInt_inj, Int32.reduceToInt, Int64.reduceToInt, not_true_eq_false, not_false_eq_true, false_and, and_false, true_and, and_true, false_or, or_false, true_or, or_true] at hv24
  try simp only [Int32.lt_iff_toInt_lt, Int64.lt_iff_toInt_lt, ← Int32.toInt_inj, ← Int64.toInt_inj, Int32.reduceToInt, Int64.reduceToInt, not_true_eq_false, not_false_eq_true, false_and, and_false, true_and, and_true, false_or, or_false, true_or, or_true] at hv25
  try simp only [Int32.lt_iff_toInt_lt, Int64.lt_iff_toInt_lt, ← Int32.toInt_inj, ← Int64.toInt_inj, Int32.reduceToInt, Int64.reduceToInt, not_true_eq_false, not_false_eq_true, false_and, and_false, true_and, and_true, false_or, or_false, true_or, or_true] at hv26
  try simp only [Int32.lt_iff_toInt_lt, Int64.lt_iff_toInt_lt, ← Int32.toInt_inj, ← Int64.toInt_inj, Int32.reduceToInt, Int64.reduceToInt, not_true_eq_false, not_false_eq_true, false_and, and_false, true_and, and_true, false_or, or_false, true_or, or_true] at hv27
  try simp only [Int32.lt_iff_toInt_lt, Int64.lt_iff_toInt_lt, ← Int32.toInt_inj, ← Int64.toInt_inj, Int32.reduceToInt, Int64.reduceToInt, not_true_eq_false, not_false_eq_true, false_and, and_false, true_and, and_true, false_or, or_false, true_or, or_true] at hc29
  try simp only [Int32.lt_iff_toInt_lt, Int64.lt_iff_toInt_lt, ← Int32.toInt_inj, ← Int64.toInt_inj, Int32.reduceToInt, Int64.reduceToInt, not_true_eq_false, not_false_eq_true, false_and, and_false, true_and, and_true, false_or, or_false, true_or, or_true] at hc45
  try simp only [Int32.lt_iff_toInt_lt, Int64.lt_iff_toInt_lt, ← Int32.toInt_inj, ← Int64.toInt_inj, Int32.reduceToInt, Int64.reduceToInt, not_true_eq_false, not_false_eq_true, false_and, and_false, true_and, and_true, false_or, or_false, true_or, or_true] at hc71
  try simp only [Int32.lt_iff_toInt_lt, Int64.lt_iff_toInt_lt, ← Int32.toInt_inj, ← Int64.toInt_inj, Int32.reduceToInt, Int64.reduceToInt, not_true_eq_false, not_false_eq_true, false_and, and_false, true_and, and_true, false_or, or_false, true_or, or_true] at hc73
  try simp only [Int32.lt_iff_toInt_lt, Int64.lt_iff_toInt_lt, ← Int32.toInt_inj, ← Int64.toInt_inj, Int32.reduceToInt, Int64.reduceToInt, not_true_eq_false, not_false_eq_true, false_and, and_false, true_and, and_true, false_or, or_false, true_or, or_true] at hc75
  try simp only [Int32.lt_iff_toInt_lt, Int64.lt_iff_toInt_lt, ← Int32.toInt_inj, ← Int64.toInt_inj, Int32.reduceToInt, Int64.reduceToInt, not_true_eq_false, not_false_eq_true, false_and, and_false, true_and, and_true, false_or, or_false, true_or, or_true] at hc77
  try simp only [Int32.lt_iff_toInt_lt, Int64.lt_iff_toInt_lt, ← Int32.toInt_inj, ← Int64.toInt_inj, Int32.reduceToInt, Int64.reduceToInt, not_true_eq_false, not_false_eq_true, false_and, and_false, true_and, and_true, false_or, or_false, true_or, or_true] at hc83
  try simp only [Int32.lt_iff_toInt_lt, Int64.lt_iff_toInt_lt, ← Int32.toInt_inj, ← Int64.toInt_inj, Int32.reduceToInt, Int64.reduceToInt, not_true_eq_false, not_false_eq_true, false_and, and_false, true_and, and_true, false_or, or_false, true_or, or_true] at hc89
  try simp only [Int32.lt_iff_toInt_lt, Int64.lt_iff_toInt_lt, ← Int32.toInt_inj, ← Int64.toInt_inj, Int32.reduceToInt, Int64.reduceToInt, not_true_eq_false, not_false_eq_true, false_and, and_false, true_and, and_true, false_or, or_false, true_or, or_true] at hc91
  try simp only [Int32.lt_iff_toInt_lt, Int64.lt_iff_toInt_lt, ← Int32.toInt_inj, ← Int64.toInt_inj, Int32.reduceToInt, Int64.reduceToInt, not_true_eq_false, not_false_eq_true, false_and, and_false, true_and, and_true, false_or, or_false, true_or, or_true] at hc93
  have := Int32.le_toInt p0; have := Int32.toInt_lt p0
  have := Int32.le_toInt p1; have := Int32.toInt_lt p1
  have := Int32.le_toInt p2; have := Int32.toInt_lt p2
  have := Int32.le_toInt p3; have := Int32.toInt_lt p3
  have := Int32.le_toInt v15; have := Int32.toInt_lt v15
  have := Int32.le_toInt v18; have := Int32.toInt_lt v18
  have := Int32.le_toInt v23; have := Int32.toInt_lt v23
  have := Int64.le_toInt v24; have := Int64.toInt_lt v24
  have := Int64.le_toInt v25; have := Int64.toInt_lt v25
  have := Int64.le_toInt v26; have := Int64.toInt_lt v26
  have := Int64.le_toInt v27; have := Int64.toInt_lt v27
  have bl1 := Int32.le_toInt ex1; have bu1 := Int32.toInt_lt ex1
  have fa1 := c_mask p1 (2147483647 : Int32) 31 (by decide) (by decide); rw [hex1] at fa1; try simp only [Int32.reduceToInt, Int64.reduceToInt] at fa1
  clear hex1
  have bl2 := Int32.le_toInt ex2; have bu2 := Int32.toInt_lt ex2
  have fa2 := c_mask p3 (1 : Int32) 1 (by decide) (by decide); rw [hex2] at fa2; try simp only [Int32.reduceToInt, Int64.reduceToInt] at fa2
  clear hex2
  have bl3 := Int32.le_toInt ex3; have bu3 := Int32.toInt_lt ex3
  have fa3 := c_mask p2 (7 : Int32) 3 (by decide) (by decide); rw [hex3] at fa3; try simp only [Int32.reduceToInt, Int64.reduceToInt] at fa3
  clear hex3
  have bl4 := Int32.le_toInt ex4; have bu4 := Int32.toInt_lt ex4
  have fa4 := c_mask p2 (2147483647 : Int32) 31 (by decide) (by decide); rw [hex4] at fa4; try simp only [Int32.reduceToInt, Int64.reduceToInt] at fa4
  clear hex4
  try simp only [Int32.lt_iff_toInt_lt, Int64.lt_iff_toInt_lt, ← Int32.toInt_inj, ← Int64.toInt_inj, Int32.reduceToInt, Int64.reduceToInt, not_true_eq_false, not_false_eq_true, false_and, and_false, true_and, and_true, false_or, or_false, true_or, or_true] at fc5
  try simp only [Int32.lt_iff_toInt_lt, Int64.lt_iff_toInt_lt, ← Int32.toInt_inj, ← Int64.toInt_inj, Int32.reduceToInt, Int64.reduceToInt, not_true_eq_false, not_false_eq_true, false_and, and_false, true_and, and_true, false_or, or_false, true_or, or_true] at fc6
  try simp only [Int32.lt_iff_toInt_lt, Int64.lt_iff_toInt_lt, ← Int32.toInt_inj, ← Int64.toInt_inj, Int32.reduceToInt, Int64.reduceToInt, not_true_eq_false, not_false_eq_true, false_and, and_false, true_and, and_true, false_or, or_false, true_or, or_true] at fc7
  have bl8 := Int32.le_toInt ex8; have bu8 := Int32.toInt_lt ex8
  have fa8 := c_isub v15 v18; rw [hex8] at fa8; try simp only [Int32.reduceToInt, Int64.reduceToInt] at fa8
  clear hex8
  have bl9 := Int64.le_toInt ex9; have bu9 := Int64.toInt_lt ex9
  have fa9 := c_i2l p0; rw [hex9] at fa9; try simp only [Int32.reduceToInt, Int64.reduceToInt] at fa9
  clear hex9
  have bl10 := Int64.le_toInt ex10; have bu10 := Int64.toInt_lt ex10
  have fa10 := c_i2l v15; rw [hex10] at fa10; try simp only [Int32.reduceToInt, Int64.reduceToInt] at fa10
  clear hex10
  have bl11 := Int64.le_toInt ex11; have bu11 := Int64.toInt_lt ex11
  have fa11 := c_i2l v18; rw [hex11] at fa11; try simp only [Int32.reduceToInt, Int64.reduceToInt] at fa11
  clear hex11
  have bl12 := Int64.le_toInt ex12; have bu12 := Int64.toInt_lt ex12
  have fa12 := c_i2l v23; rw [hex12] at fa12; try simp only [Int32.reduceToInt, Int64.reduceToInt] at fa12
  clear hex12
  have bl13 := Int64.le_toInt ex13; have bu13 := Int64.toInt_lt ex13
  have fa13 := c_ladd v24 v26; rw [hex13] at fa13; try simp only [Int32.reduceToInt, Int64.reduceToInt] at fa13
  clear hex13
  have bl14 := Int64.le_toInt ex14; have bu14 := Int64.toInt_lt ex14
  have fa14 := c_ladd v27 v26; rw [hex14] at fa14; try simp only [Int32.reduceToInt, Int64.reduceToInt] at fa14
  clear hex14
  have bl15 := Int64.le_toInt ex15; have bu15 := Int64.toInt_lt ex15
  have fa15 := c_lsub v27 (1 : Int64); rw [hex15] at fa15; try simp only [Int32.reduceToInt, Int64.reduceToInt] at fa15
  clear hex15
  all_goals omega
set_option maxRecDepth 65536 in
set_option maxHeartbeats 40000000 in
theorem own_leaf0_31 (p0 : Int32) (p1 : Int32) (p2 : Int32) (p3 : Int32) (v15 : Int32) (hv15 : v15 = (p1 &&& (2147483647 : Int32))) (v18 : Int32) (hv18 : v18 = (if (p3 &&& (1 : Int32)) = (0 : Int32) then (p2 &&& (2147483647 : Int32)) else (p2 &&& (7 : Int32)))) (v23 : Int32) (hv23 : v23 = (own_f1 p0 v15 v18)) (v24 : Int64) (hv24 : v24 = (p0.toInt64)) (v25 : Int64) (hv25 : v25 = (v15.toInt64)) (v26 : Int64) (hv26 : v26 = (v18.toInt64)) (v27 : Int64) (hv27 : v27 = (v23.toInt64)) (hc29 : ¬ (v18 = (0 : Int32))) (hc45 : ¬ (v25 < v26)) (hc71 : (0 : Int64) < v24) (hc73 : v25 < (v24 + v26)) (hc75 : ¬ (v23 = (-1 : Int32))) (hc77 : ¬ (v27 < (0 : Int64))) (hc83 : ¬ (v27 < v24)) (hc89 : v25 < (v27 + v26)) (hc91 : ¬ (v27 = (0 : Int64))) (hc93 : ¬ ((v27 - (1 : Int64)) < v24)) : False := by
  have dv18 : ((p3 &&& (1 : Int32)) = (0 : Int32) ∧ (v18 = (p2 &&& (2147483647 : Int32)))) ∨ (¬ ((p3 &&& (1 : Int32)) = (0 : Int32)) ∧ (v18 = (p2 &&& (7 : Int32)))) := (if cq0 : (p3 &&& (1 : Int32)) = (0 : Int32) then Or.inl ⟨cq0, (by rw [hv18, if_pos cq0])⟩ else Or.inr ⟨cq0, (by rw [hv18, if_neg cq0])⟩)
  clear hv18
  generalize hex1 : (p1 &&& (2147483647 : Int32)) = ex1 at *
  generalize hex2 : (p3 &&& (1 : Int32)) = ex2 at *
  generalize hex3 : (p2 &&& (7 : Int32)) = ex3 at *
  generalize hex4 : (p2 &&& (2147483647 : Int32)) = ex4 at *
  have fc5 := own_f1_cases p0 v15 v18
  generalize own_f1 p0 v15 v18 = ex5 at *
  have fc6 := own_f2_cases p0 (0 : Int32)
  generalize own_f2 p0 (0 : Int32) = ex6 at *
  have fc7 := own_f3_cases ex6 v15
  generalize own_f3 ex6 v15 = ex7 at *
  generalize hex8 : (v15 - v18) = ex8 at *
  generalize hex9 : (p0.toInt64) = ex9 at *
  generalize hex10 : (v15.toInt64) = ex10 at *
  generalize hex11 : (v18.toInt64) = ex11 at *
  generalize hex12 : (v23.toInt64) = ex12 at *
  generalize hex13 : (v24 + v26) = ex13 at *
  generalize hex14 : (v27 + v26) = ex14 at *
  generalize hex15 : (v27 - (1 : Int64)) = ex15 at *
  try simp only [Int32.lt_iff_toInt_lt, Int64.lt_iff_toInt_lt, ← Int32.toInt_inj, ← Int64.toInt_inj, Int32.reduceToInt, Int64.reduceToInt, not_true_eq_false, not_false_eq_true, false_and, and_false, true_and, and_true, false_or, or_false, true_or, or_true] at dv18
  try simp only [Int32.lt_iff_toInt_lt, Int64.lt_iff_toInt_lt, ← Int32.toInt_inj, ← Int64.toInt_inj, Int32.reduceToInt, Int64.reduceToInt, not_true_eq_false, not_false_eq_true, false_and, and_false, true_and, and_true, false_or, or_false, true_or, or_true] at hv15
  try simp only [Int32.lt_iff_toInt_lt, Int64.lt_iff_toInt_lt, ← Int32.toInt_inj, ← Int64.toInt_inj, Int32.reduceToInt, Int64.reduceToInt, not_true_eq_false, not_false_eq_true, false_and, and_false, true_and, and_true, false_or, or_false, true_or, or_true] at hv23
  try simp only [Int32.lt_iff_toInt_lt, Int64.lt_iff_toInt_lt, ← Int32.toInt_inj, ← Int64.toInt_inj, Int32.reduceToInt, Int64.reduceToInt, not_true_eq_false, not_false_eq_true, false_and, and_false, true_and, and_true, false_or, or_false, true_or, or_true] at hv24
  try simp only [Int32.lt_iff_toInt_lt, Int64.lt_iff_toInt_lt, ← Int32.toInt_inj, ← Int64.toInt_inj, Int32.reduceToInt, Int64.reduceToInt, not_true_eq_false, not_false_eq_true, false_and, and_false, true_and, and_true, false_or, or_false, true_or, or_true] at hv25
  try simp only [Int32.lt_iff_toInt_lt, Int64.lt_iff_toInt_lt, ← Int32.toInt_inj, ← Int64.toInt_inj, Int32.reduceToInt, Int64.reduceToInt, not_true_eq_false, not_false_eq_true, false_and, and_false, true_and, and_true, false_or, or_false, true_or, or_true] at hv26
  try simp only [Int32.lt_iff_toInt_lt, Int64.lt_iff_toInt_lt, ← Int32.toInt_inj, ← Int64.toInt_inj, Int32.reduceToInt, Int64.reduceToInt, not_true_eq_false, not_false_eq_true, false_and, and_false, true_and, and_true, false_or, or_false, true_or, or_true] at hv27
  try simp only [Int32.lt_iff_toInt_lt, Int64.lt_iff_toInt_lt, ← Int32.toInt_inj, ← Int64.toInt_inj, Int32.reduceToInt, Int64.reduceToInt, not_true_eq_false, not_false_eq_true, false_and, and_false, true_and, and_true, false_or, or_false, true_or, or_true] at hc29
  try simp only [Int32.lt_iff_toInt_lt, Int64.lt_iff_toInt_lt, ← Int32.toInt_inj, ← Int64.toInt_inj, Int32.reduceToInt, Int64.reduceToInt, not_true_eq_false, not_false_eq_true, false_and, and_false, true_and, and_true, false_or, or_false, true_or, or_true] at hc45
  try simp only [Int32.lt_iff_toInt_lt, Int64.lt_iff_toInt_lt, ← Int32.toInt_inj, ← Int64.toInt_inj, Int32.reduceToInt, Int64.reduceToInt, not_true_eq_false, not_false_eq_true, false_and, and_false, true_and, and_true, false_or, or_false, true_or, or_true] at hc71
  try simp only [Int32.lt_iff_toInt_lt, Int64.lt_iff_toInt_lt, ← Int32.toInt_inj, ← Int64.toInt_inj, Int32.reduceToInt, Int64.reduceToInt, not_true_eq_false, not_false_eq_true, false_and, and_false, true_and, and_true, false_or, or_false, true_or, or_true] at hc73
  try simp only [Int32.lt_iff_toInt_lt, Int64.lt_iff_toInt_lt, ← Int32.toInt_inj, ← Int64.toInt_inj, Int32.reduceToInt, Int64.reduceToInt, not_true_eq_false, not_false_eq_true, false_and, and_false, true_and, and_true, false_or, or_false, true_or, or_true] at hc75
  try simp only [Int32.lt_iff_toInt_lt, Int64.lt_iff_toInt_lt, ← Int32.toInt_inj, ← Int64.toInt_inj, Int32.reduceToInt, Int64.reduceToInt, not_true_eq_false, not_false_eq_true, false_and, and_false, true_and, and_true, false_or, or_false, true_or, or_true] at hc77
  try simp only [Int32.lt_iff_toInt_lt, Int64.lt_iff_toInt_lt, ← Int32.toInt_inj, ← Int64.toInt_inj, Int32.reduceToInt, Int64.reduceToInt, not_true_eq_false, not_false_eq_true, false_and, and_false, true_and, and_true, false_or, or_false, true_or, or_true] at hc83
  try simp only [Int32.lt_iff_toInt_lt, Int64.lt_iff_toInt_lt, ← Int32.toInt_inj, ← Int64.toInt_inj, Int32.reduceToInt, Int64.reduceToInt, not_true_eq_false, not_false_eq_true, false_and, and_false, true_and, and_true, false_or, or_false, true_or, or_true] at hc89
  try simp only [Int32.lt_iff_toInt_lt, Int64.lt_iff_toInt_lt, ← Int32.toInt_inj, ← Int64.toInt_inj, Int32.reduceToInt, Int64.reduceToInt, not_true_eq_false, not_false_eq_true, false_and, and_false, true_and, and_true, false_or, or_false, true_or, or_true] at hc91
  try simp only [Int32.lt_iff_toInt_lt, Int64.lt_iff_toInt_lt, ← Int32.toInt_inj, ← Int64.toInt_inj, Int32.reduceToInt, Int64.reduceToInt, not_true_eq_false, not_false_eq_true, false_and, and_false, true_and, and_true, false_or, or_false, true_or, or_true] at hc93
  have := Int32.le_toInt p0; have := Int32.toInt_lt p0
  have := Int32.le_toInt p1; have := Int32.toInt_lt p1
  have := Int32.le_toInt p2; have := Int32.toInt_lt p2
  have := Int32.le_toInt p3; have := Int32.toInt_lt p3
  have := Int32.le_toInt v15; have := Int32.toInt_lt v15
  have := Int32.le_toInt v18; have := Int32.toInt_lt v18
  have := Int32.le_toInt v23; have := Int32.toInt_lt v23
  have := Int64.le_toInt v24; have := Int64.toInt_lt v24
  have := Int64.le_toInt v25; have := Int64.toInt_lt v25
  have := Int64.le_toInt v26; have := Int64.toInt_lt v26
  have := Int64.le_toInt v27; have := Int64.toInt_lt v27
  have bl1 := Int32.le_toInt ex1; have bu1 := Int32.toInt_lt ex1
  have fa1 := c_mask p1 (2147483647 : Int32) 31 (by decide) (by decide); rw [hex1] at fa1; try simp only [Int32.reduceToInt, Int64.reduceToInt] at fa1
  clear hex1
  have bl2 := Int32.le_toInt ex2; have bu2 := Int32.toInt_lt ex2
  have fa2 := c_mask p3 (1 : Int32) 1 (by decide) (by decide); rw [hex2] at fa2; try simp only [Int32.reduceToInt, Int64.reduceToInt] at fa2
  clear hex2
  have bl3 := Int32.le_toInt ex3; have bu3 := Int32.toInt_lt ex3
  have fa3 := c_mask p2 (7 : Int32) 3 (by decide) (by decide); rw [hex3] at fa3; try simp only [Int32.reduceToInt, Int64.reduceToInt] at fa3
  clear hex3
  have bl4 := Int32.le_toInt ex4; have bu4 := Int32.toInt_lt ex4
  have fa4 := c_mask p2 (2147483647 : Int32) 31 (by decide) (by decide); rw [hex4] at fa4; try simp only [Int32.reduceToInt, Int64.reduceToInt] at fa4
  clear hex4
  try simp only [Int32.lt_iff_toInt_lt, Int64.lt_iff_toInt_lt, ← Int32.toInt_inj, ← Int64.toInt_inj, Int32.reduceToInt, Int64.reduceToInt, not_true_eq_false, not_false_eq_true, false_and, and_false, true_and, and_true, false_or, or_false, true_or, or_true] at fc5
  try simp only [Int32.lt_iff_toInt_lt, Int64.lt_iff_toInt_lt, ← Int32.toInt_inj, ← Int64.toInt_inj, Int32.reduceToInt, Int64.reduceToInt, not_true_eq_false, not_false_eq_true, false_and, and_false, true_and, and_true, false_or, or_false, true_or, or_true] at fc6
  try simp only [Int32.lt_iff_toInt_lt, Int64.lt_iff_toInt_lt, ← Int32.toInt_inj, ← Int64.toInt_inj, Int32.reduceToInt, Int64.reduceToInt, not_true_eq_false, not_false_eq_true, false_and, and_false, true_and, and_true, false_or, or_false, true_or, or_true] at fc7
  have bl8 := Int32.le_toInt ex8; have bu8 := Int32.toInt_lt ex8
  have fa8 := c_isub v15 v18; rw [hex8] at fa8; try simp only [Int32.reduceToInt, Int64.reduceToInt] at fa8
  clear hex8
  have bl9 := Int64.le_toInt ex9; have bu9 := Int64.toInt_lt ex9
  have fa9 := c_i2l p0; rw [hex9] at fa9; try simp only [Int32.reduceToInt, Int64.reduceToInt] at fa9
  clear hex9
  have bl10 := Int64.le_toInt ex10; have bu10 := Int64.toInt_lt ex10
  have fa10 := c_i2l v15; rw [hex10] at fa10; try simp only [Int32.reduceToInt, Int64.reduceToInt] at fa10
  clear hex10
  have bl11 := Int64.le_toInt ex11; have bu11 := Int64.toInt_lt ex11
  have fa11 := c_i2l v18; rw [hex11] at fa11; try simp only [Int32.reduceToInt, Int64.reduceToInt] at fa11
  clear hex11
  have bl12 := Int64.le_toInt ex12; have bu12 := Int64.toInt_lt ex12
  have fa12 := c_i2l v23; rw [hex12] at fa12; try simp only [Int32.reduceToInt, Int64.reduceToInt] at fa12
  clear hex12
  have bl13 := Int64.le_toInt ex13; have bu13 := Int64.toInt_lt ex13
  have fa13 := c_ladd v24 v26; rw [hex13] at fa13; try simp only [Int32.reduceToInt, Int64.reduceToInt] at fa13
  clear hex13
  have bl14 := Int64.le_toInt ex14; have bu14 := Int64.toInt_lt ex14
  have fa14 := c_ladd v27 v26; rw [hex14] at fa14; try simp only [Int32.reduceToInt, Int64.reduceToInt] at fa14
  clear hex14
  have bl15 := Int64.le_toInt ex15; have bu15 := Int64.toInt_lt ex15
  have fa15 := c_lsub v27 (1 : Int64); rw [hex15] at fa15; try simp only [Int32.reduceToInt, Int64.reduceToInt] at fa15
  clear hex15
  all_goals omega
set_option maxRecDepth 65536 in
set_option maxHeartbeats 40000000 in
theorem own_leaf0_32 (p0 : Int32) (p1 : Int32) (p2 : Int32) (p3 : Int32) (v15 : Int32) (hv15 : v15 = (p1 &&& (2147483647 : Int32))) (v18 : Int32) (hv18 : v18 = (if (p3 &&& (1 : Int32)) = (0 : Int32) then (p2 &&& (2147483647 : Int32)) else (p2 &&& (7 : Int32)))) (v23 : Int32) (hv23 : v23 = (own_f1 p0 v15 v18)) (v24 : Int64) (hv24 : v24 = (p0.toInt64)) (v25 : Int64) (hv25 : v25 = (v15.toInt64)) (v26 : Int64) (hv26 : v26 = (v18.toInt64)) (v27 : Int64) (hv27 : v27 = (v23.toInt64)) (hc29 : ¬ (v18 = (0 : Int32))) (hc45 : ¬ (v25 < v26)) (hc71 : (0 : Int64) < v24) (hc73 : v25 < (v24 + v26)) (hc75 : ¬ (v23 = (-1 : Int32))) (hc77 : ¬ (v27 < (0 : Int64))) (hc83 : ¬ (v27 < v24)) (hc89 : ¬ (v25 < (v27 + v26))) (hc95 : v27 = (0 : Int64)) : False := by
  have dv18 : ((p3 &&& (1 : Int32)) = (0 : Int32) ∧ (v18 = (p2 &&& (2147483647 : Int32)))) ∨ (¬ ((p3 &&& (1 : Int32)) = (0 : Int32)) ∧ (v18 = (p2 &&& (7 : Int32)))) := (if cq0 : (p3 &&& (1 : Int32)) = (0 : Int32) then Or.inl ⟨cq0, (by rw [hv18, if_pos cq0])⟩ else Or.inr ⟨cq0, (by rw [hv18, if_neg cq0])⟩)
  clear hv18
  generalize hex1 : (p1 &&& (2147483647 : Int32)) = ex1 at *
  generalize hex2 : (p3 &&& (1 : Int32)) = ex2 at *
  generalize hex3 : (p2 &&& (7 : Int32)) = ex3 at *
  generalize hex4 : (p2 &&& (2147483647 : Int32)) = ex4 at *
  have fc5 := own_f1_cases p0 v15 v18
  generalize own_f1 p0 v15 v18 = ex5 at *
  have fc6 := own_f2_cases p0 (0 : Int32)
  generalize own_f2 p0 (0 : Int32) = ex6 at *
  have fc7 := own_f3_cases ex6 v15
  generalize own_f3 ex6 v15 = ex7 at *
  generalize hex8 : (v15 - v18) = ex8 at *
  generalize hex9 : (p0.toInt64) = ex9 at *
  generalize hex10 : (v15.toInt64) = ex10 at *
  generalize hex11 : (v18.toInt64) = ex11 at *
  generalize hex12 : (v23.toInt64) = ex12 at *
  generalize hex13 : (v24 + v26) = ex13 at *
  generalize hex14 : (v27 + v26) = ex14 at *
  try simp only [Int32.lt_iff_toInt_lt, Int64.lt_iff_toInt_lt, ← Int32.toInt_inj, ← Int64.toInt_inj, Int32.reduceToInt, Int64.reduceToInt, not_true_eq_false, not_false_eq_true, false_and, and_false, true_and, and_true, false_or, or_false, true_or, or_true] at dv18
  try simp only [Int32.lt_iff_toInt_lt, Int64.lt_iff_toInt_lt, ← Int32.toInt_inj, ← Int64.toInt_inj, Int32.reduceToInt, Int64.reduceToInt, not_true_eq_false, not_false_eq_true, false_and, and_false, true_and, and_true, false_or, or_false, true_or, or_true] at hv15
  try simp only [Int32.lt_iff_toInt_lt, Int64.lt_iff_toInt_lt, ← Int32.toInt_inj, ← Int64.toInt_inj, Int32.reduceToInt, Int64.reduceToInt, not_true_eq_false, not_false_eq_true, false_and, and_false, true_and, and_true, false_or, or_false, true_or, or_true] at hv23
  try simp only [Int32.lt_iff_toInt_lt, Int64.lt_iff_toInt_lt, ← Int32.toInt_inj, ← Int64.toInt_inj, Int32.reduceToInt, Int64.reduceToInt, not_true_eq_false, not_false_eq_true, false_and, and_false, true_and, and_true, false_or, or_false, true_or, or_true] at hv24
  try simp only [Int32.lt_iff_toInt_lt, Int64.lt_iff_toInt_lt, ← Int32.toInt_inj, ← Int64.toInt_inj, Int32.reduceToInt, Int64.reduceToInt, not_true_eq_false, not_false_eq_true, false_and, and_false, true_and, and_true, false_or, or_false, true_or, or_true] at hv25
  try simp only [Int32.lt_iff_toInt_lt, Int64.lt_iff_toInt_lt, ← Int32.toInt_inj, ← Int64.toInt_inj, Int32.reduceToInt, Int64.reduceToInt, not_true_eq_false, not_false_eq_true, false_and, and_false, true_and, and_true, false_or, or_false, true_or, or_true] at hv26
  try simp only [Int32.lt_iff_toInt_lt, Int64.lt_iff_toInt_lt, ← Int32.toInt_inj, ← Int64.toInt_inj, Int32.reduceToInt, Int64.reduceToInt, not_true_eq_false, not_false_eq_true, false_and, and_false, true_and, and_true, false_or, or_false, true_or, or_true] at hv27
  try simp only [Int32.lt_iff_toInt_lt, Int64.lt_iff_toInt_lt, ← Int32.toInt_inj, ← Int64.toInt_inj, Int32.reduceToInt, Int64.reduceToInt, not_true_eq_false, not_false_eq_true, false_and, and_false, true_and, and_true, false_or, or_false, true_or, or_true] at hc29
  try simp only [Int32.lt_iff_toInt_lt, Int64.lt_iff_toInt_lt, ← Int32.toInt_inj, ← Int64.toInt_inj, Int32.reduceToInt, Int64.reduceToInt, not_true_eq_false, not_false_eq_true, false_and, and_false, true_and, and_true, false_or, or_false, true_or, or_true] at hc45
  try simp only [Int32.lt_iff_toInt_lt, Int64.lt_iff_toInt_lt, ← Int32.toInt_inj, ← Int64.toInt_inj, Int32.reduceToInt, Int64.reduceToInt, not_true_eq_false, not_false_eq_true, false_and, and_false, true_and, and_true, false_or, or_false, true_or, or_true] at hc71
  try simp only [Int32.lt_iff_toInt_lt, Int64.lt_iff_toInt_lt, ← Int32.toInt_inj, ← Int64.toInt_inj, Int32.reduceToInt, Int64.reduceToInt, not_true_eq_false, not_false_eq_true, false_and, and_false, true_and, and_true, false_or, or_false, true_or, or_true] at hc73
  try simp only [Int32.lt_iff_toInt_lt, Int64.lt_iff_toInt_lt, ← Int32.toInt_inj, ← Int64.toInt_inj, Int32.reduceToInt, Int64.reduceToInt, not_true_eq_false, not_false_eq_true, false_and, and_false, true_and, and_true, false_or, or_false, true_or, or_true] at hc75
  try simp only [Int32.lt_iff_toInt_lt, Int64.lt_iff_toInt_lt, ← Int32.toInt_inj, ← Int64.toInt_inj, Int32.reduceToInt, Int64.reduceToInt, not_true_eq_false, not_false_eq_true, false_and, and_false, true_and, and_true, false_or, or_false, true_or, or_true] at hc77
  try simp only [Int32.lt_iff_toInt_lt, Int64.lt_iff_toInt_lt, ← Int32.toInt_inj, ← Int64.toInt_inj, Int32.reduceToInt, Int64.reduceToInt, not_true_eq_false, not_false_eq_true, false_and, and_false, true_and, and_true, false_or, or_false, true_or, or_true] at hc83
  try simp only [Int32.lt_iff_toInt_lt, Int64.lt_iff_toInt_lt, ← Int32.toInt_inj, ← Int64.toInt_inj, Int32.reduceToInt, Int64.reduceToInt, not_true_eq_false, not_false_eq_true, false_and, and_false, true_and, and_true, false_or, or_false, true_or, or_true] at hc89
  try simp only [Int32.lt_iff_toInt_lt, Int64.lt_iff_toInt_lt, ← Int32.toInt_inj, ← Int64.toInt_inj, Int32.reduceToInt, Int64.reduceToInt, not_true_eq_false, not_false_eq_true, false_and, and_false, true_and, and_true, false_or, or_false, true_or, or_true] at hc95
  have := Int32.le_toInt p0; have := Int32.toInt_lt p0
  have := Int32.le_toInt p1; have := Int32.toInt_lt p1
  have := Int32.le_toInt p2; have := Int32.toInt_lt p2
  have := Int32.le_toInt p3; have := Int32.toInt_lt p3
  have := Int32.le_toInt v15; have := Int32.toInt_lt v15
  have := Int32.le_toInt v18; have := Int32.toInt_lt v18
  have := Int32.le_toInt v23; have := Int32.toInt_lt v23
  have := Int64.le_toInt v24; have := Int64.toInt_lt v24
  have := Int64.le_toInt v25; have := Int64.toInt_lt v25
  have := Int64.le_toInt v26; have := Int64.toInt_lt v26
  have := Int64.le_toInt v27; have := Int64.toInt_lt v27
  have bl1 := Int32.le_toInt ex1; have bu1 := Int32.toInt_lt ex1
  have fa1 := c_mask p1 (2147483647 : Int32) 31 (by decide) (by decide); rw [hex1] at fa1; try simp only [Int32.reduceToInt, Int64.reduceToInt] at fa1
  clear hex1
  have bl2 := Int32.le_toInt ex2; have bu2 := Int32.toInt_lt ex2
  have fa2 := c_mask p3 (1 : Int32) 1 (by decide) (by decide); rw [hex2] at fa2; try simp only [Int32.reduceToInt, Int64.reduceToInt] at fa2
  clear hex2
  have bl3 := Int32.le_toInt ex3; have bu3 := Int32.toInt_lt ex3
  have fa3 := c_mask p2 (7 : Int32) 3 (by decide) (by decide); rw [hex3] at fa3; try simp only [Int32.reduceToInt, Int64.reduceToInt] at fa3
  clear hex3
  have bl4 := Int32.le_toInt ex4; have bu4 := Int32.toInt_lt ex4
  have fa4 := c_mask p2 (2147483647 : Int32) 31 (by decide) (by decide); rw [hex4] at fa4; try simp only [Int32.reduceToInt, Int64.reduceToInt] at fa4
  clear hex4
  try simp only [Int32.lt_iff_toInt_lt, Int64.lt_iff_toInt_lt, ← Int32.toInt_inj, ← Int64.toInt_inj, Int32.reduceToInt, Int64.reduceToInt, not_true_eq_false, not_false_eq_true, false_and, and_false, true_and, and_true, false_or, or_false, true_or, or_true] at fc5
  try simp only [Int32.lt_iff_toInt_lt, Int64.lt_iff_toInt_lt, ← Int32.toInt_inj, ← Int64.toInt_inj, Int32.reduceToInt, Int64.reduceToInt, not_true_eq_false, not_false_eq_true, false_and, and_false, true_and, and_true, false_or, or_false, true_or, or_true] at fc6
  try simp only [Int32.lt_iff_toInt_lt, Int64.lt_iff_toInt_lt, ← Int32.toInt_inj, ← Int64.toInt_inj, Int32.reduceToInt, Int64.reduceToInt, not_true_eq_false, not_false_eq_true, false_and, and_false, true_and, and_true, false_or, or_false, true_or, or_true] at fc7
  have bl8 := Int32.le_toInt ex8; have bu8 := Int32.toInt_lt ex8
  have fa8 := c_isub v15 v18; rw [hex8] at fa8; try simp only [Int32.reduceToInt, Int64.reduceToInt] at fa8
  clear hex8
  have bl9 := Int64.le_toInt ex9; have bu9 := Int64.toInt_lt ex9
  have fa9 := c_i2l p0; rw [hex9] at fa9; try simp only [Int32.reduceToInt, Int64.reduceToInt] at fa9
  clear hex9
  have bl10 := Int64.le_toInt ex10; have bu10 := Int64.toInt_lt ex10
  have fa10 := c_i2l v15; rw [hex10] at fa10; try simp only [Int32.reduceToInt, Int64.reduceToInt] at fa10
  clear hex10
  have bl11 := Int64.le_toInt ex11; have bu11 := Int64.toInt_lt ex11
  have fa11 := c_i2l v18; rw [hex11] at fa11; try simp only [Int32.reduceToInt, Int64.reduceToInt] at fa11
  clear hex11
  have bl12 := Int64.le_toInt ex12; have bu12 := Int64.toInt_lt ex12
  have fa12 := c_i2l v23; rw [hex12] at fa12; try simp only [Int32.reduceToInt, Int64.reduceToInt] at fa12
  clear hex12
  have bl13 := Int64.le_toInt ex13; have bu13 := Int64.toInt_lt ex13
  have fa13 := c_ladd v24 v26; rw [hex13] at fa13; try simp only [Int32.reduceToInt, Int64.reduceToInt] at fa13
  clear hex13
  have bl14 := Int64.le_toInt ex14; have bu14 := Int64.toInt_lt ex14
  have fa14 := c_ladd v27 v26; rw [hex14] at fa14; try simp only [Int32.reduceToInt, Int64.reduceToInt] at fa14
  clear hex14
  all_goals omega
set_option maxRecDepth 65536 in
set_option maxHeartbeats 40000000 in
theorem own_leaf0_33 (p0 : Int32) (p1 : Int32) (p2 : Int32) (p3 : Int32) (v15 : Int32) (hv15 : v15 = (p1 &&& (2147483647 : Int32))) (v18 : Int32) (hv18 : v18 = (if (p3 &&& (1 : Int32)) = (0 : Int32) then (p2 &&& (2147483647 : Int32)) else (p2 &&& (7 : Int32)))) (v23 : Int32) (hv23 : v23 = (own_f1 p0 v15 v18)) (v24 : Int64) (hv24 : v24 = (p0.toInt64)) (v25 : Int64) (hv25 : v25 = (v15.toInt64)) (v26 : Int64) (hv26 : v26 = (v18.toInt64)) (v27 : Int64) (hv27 : v27 = (v23.toInt64)) (hc29 : ¬ (v18 = (0 : Int32))) (hc45 : ¬ (v25 < v26)) (hc71 : (0 : Int64) < v24) (hc73 : v25 < (v24 + v26)) (hc75 : ¬ (v23 = (-1 : Int32))) (hc77 : ¬ (v27 < (0 : Int64))) (hc83 : ¬ (v27 < v24)) (hc89 : ¬ (v25 < (v27 + v26))) (hc95 : ¬ (v27 = (0 : Int64))) (hc97 : (v27 - (1 : Int64)) < v24) : False := by
  have dv18 : ((p3 &&& (1 : Int32)) = (0 : Int32) ∧ (v18 = (p2 &&& (2147483647 : Int32)))) ∨ (¬ ((p3 &&& (1 : Int32)) = (0 : Int32)) ∧ (v18 = (p2 &&& (7 : Int32)))) := (if cq0 : (p3 &&& (1 : Int32)) = (0 : Int32) then Or.inl ⟨cq0, (by rw [hv18, if_pos cq0])⟩ else Or.inr ⟨cq0, (by rw [hv18, if_neg cq0])⟩)
  clear hv18
  generalize hex1 : (p1 &&& (2147483647 : Int32)) = ex1 at *
  generalize hex2 : (p3 &&& (1 : Int32)) = ex2 at *
  generalize hex3 : (p2 &&& (7 : Int32)) = ex3 at *
  generalize hex4 : (p2 &&& (2147483647 : Int32)) = ex4 at *
  have fc5 := own_f1_cases p0 v15 v18
  generalize own_f1 p0 v15 v18 = ex5 at *
  have fc6 := own_f2_cases p0 (0 : Int32)
  generalize own_f2 p0 (0 : Int32) = ex6 at *
  have fc7 := own_f3_cases ex6 v15
  generalize own_f3 ex6 v15 = ex7 at *
  generalize hex8 : (v15 - v18) = ex8 at *
  generalize hex9 : (p0.toInt64) = ex9 at *
  generalize hex10 : (v15.toInt64) = ex10 at *
  generalize hex11 : (v18.toInt64) = ex11 at *
  generalize hex12 : (v23.toInt64) = ex12 at *
  generalize hex13 : (v24 + v26) = ex13 at *
  generalize hex14 : (v27 + v26) = ex14 at *
  generalize hex15 : (v27 - (1 : Int64)) = ex15 at *
  try simp only [Int32.lt_iff_toInt_lt, Int64.lt_iff_toInt_lt, ← Int32.toInt_inj, ← Int64.toInt_inj, Int32.reduceToInt, Int64.reduceToInt, not_true_eq_false, not_false_eq_true, false_and, and_false, true_and, and_true, false_or, or_false, true_or, or_true] at dv18
  try simp only [Int32.lt_iff_toInt_lt, Int64.lt_iff_toInt_lt, ← Int32.toInt_inj, ← Int64.toInt_inj, Int32.reduceToInt, Int64.reduceToInt, not_true_eq_false, not_false_eq_true, false_and, and_false, true_and, and_true, false_or, or_false, true_or, or_true] at hv15
  try simp only [Int32.lt_iff_toInt_lt, Int64.lt_iff_toInt_lt, ← Int32.toInt_inj, ← Int64.toInt_inj, Int32.reduceToInt, Int64.reduceToInt, not_true_eq_false, not_false_eq_true, false_and, and_false, true_and, and_true, false_or, or_false, true_or, or_true] at hv23
  try simp only [Int32.lt_iff_toInt_lt, Int64.lt_iff_toInt_lt, ← Int32.toInt_inj, ← Int64.toInt_inj, Int32.reduceToInt, Int64.reduceToInt, not_true_eq_false, not_false_eq_true, false_and, and_false, true_and, and_true, false_or, or_false, true_or, or_true] at hv24
  try simp only [Int32.lt_iff_toInt_lt, Int64.lt_iff_toInt_lt, ← Int32.toInt_inj, ← Int64.toInt_inj, Int32.reduceToInt, Int64.reduceToInt, not_true_eq_false, not_false_eq_true, false_and, and_false, true_and, and_true, false_or, or_false, true_or, or_true] at hv25
  try simp only [Int32.lt_iff_toInt_lt, Int64.lt_iff_toInt_lt, ← Int32.toInt_inj, ← Int64.toInt_inj, Int32.reduceToInt, Int64.reduceToInt, not_true_eq_false, not_false_eq_true, false_and, and_false, true_and, and_true, false_or, or_false, true_or, or_true] at hv26
  try simp only [Int32.lt_iff_toInt_lt, Int64.lt_iff_toInt_lt, ← Int32.toInt_inj, ← Int64.toInt_inj, Int32.reduceToInt, Int64.reduceToInt, not_true_eq_false, not_false_eq_true, false_and, and_false, true_and, and_true, false_or, or_false, true_or, or_true] at hv27
  try simp only [Int32.lt_iff_toInt_lt, Int64.lt_iff_toInt_lt, ← Int32.toInt_inj, ← Int64.toInt_inj, Int32.reduceToInt, Int64.reduceToInt, not_true_eq_false, not_false_eq_true, false_and, and_false, true_and, and_true, false_or, or_false, true_or, or_true] at hc29
  try simp only [Int32.lt_iff_toInt_lt, Int64.lt_iff_toInt_lt, ← Int32.toInt_inj, ← Int64.toInt_inj, Int32.reduceToInt, Int64.reduceToInt, not_true_eq_false, not_false_eq_true, false_and, and_false, true_and, and_true, false_or, or_false, true_or, or_true] at hc45
  try simp only [Int32.lt_iff_toInt_lt, Int64.lt_iff_toInt_lt, ← Int32.toInt_inj, ← Int64.toInt_inj, Int32.reduceToInt, Int64.reduceToInt, not_true_eq_false, not_false_eq_true, false_and, and_false, true_and, and_true, false_or, or_false, true_or, or_true] at hc71
  try simp only [Int32.lt_iff_toInt_lt, Int64.lt_iff_toInt_lt, ← Int32.toInt_inj, ← Int64.toInt_inj, Int32.reduceToInt, Int64.reduceToInt, not_true_eq_false, not_false_eq_true, false_and, and_false, true_and, and_true, false_or, or_false, true_or, or_true] at hc73
  try simp only [Int32.lt_iff_toInt_lt, Int64.lt_iff_toInt_lt, ← Int32.toInt_inj, ← Int64.toInt_inj, Int32.reduceToInt, Int64.reduceToInt, not_true_eq_false, not_false_eq_true, false_and, and_false, true_and, and_true, false_or, or_false, true_or, or_true] at hc75
  try simp only [Int32.lt_iff_toInt_lt, Int64.lt_iff_toInt_lt, ← Int32.toInt_inj, ← Int64.toInt_inj, Int32.reduceToInt, Int64.reduceToInt, not_true_eq_false, not_false_eq_true, false_and, and_false, true_and, and_true, false_or, or_false, true_or, or_true] at hc77
  try simp only [Int32.lt_iff_toInt_lt, Int64.lt_iff_toInt_lt, ← Int32.toInt_inj, ← Int64.toInt_inj, Int32.reduceToInt, Int64.reduceToInt, not_true_eq_false, not_false_eq_true, false_and, and_false, true_and, and_true, false_or, or_false, true_or, or_true] at hc83
  try simp only [Int32.lt_iff_toInt_lt, Int64.lt_iff_toInt_lt, ← Int32.toInt_inj, ← Int64.toInt_inj, Int32.reduceToInt, Int64.reduceToInt, not_true_eq_false, not_false_eq_true, false_and, and_false, true_and, and_true, false_or, or_false, true_or, or_true] at hc89
  try simp only [Int32.lt_iff_toInt_lt, Int64.lt_iff_toInt_lt, ← Int32.toInt_inj, ← Int64.toInt_inj, Int32.reduceToInt, Int64.reduceToInt, not_true_eq_false, not_false_eq_true, false_and, and_false, true_and, and_true, false_or, or_false, true_or, or_true] at hc95
  try simp only [Int32.lt_iff_toInt_lt, Int64.lt_iff_toInt_lt, ← Int32.toInt_inj, ← Int64.toInt_inj, Int32.reduceToInt, Int64.reduceToInt, not_true_eq_false, not_false_eq_true, false_and, and_false, true_and, and_true, false_or, or_false, true_or, or_true] at hc97
  have := Int32.le_toInt p0; have := Int32.toInt_lt p0
  have := Int32.le_toInt p1; have := Int32.toInt_lt p1
  have := Int32.le_toInt p2; have := Int32.toInt_lt p2
  have := Int32.le_toInt p3; have := Int32.toInt_lt p3
  have := Int32.le_toInt v15; have := Int32.toInt_lt v15
  have := Int32.le_toInt v18; have := Int32.toInt_lt v18
  have := Int32.le_toInt v23; have := Int32.toInt_lt v23
  have := Int64.le_toInt v24; have := Int64.toInt_lt v24
  have := Int64.le_toInt v25; have := Int64.toInt_lt v25
  have := Int64.le_toInt v26; have := Int64.toInt_lt v26
  have := Int64.le_toInt v27; have := Int64.toInt_lt v27
  have bl1 := Int32.le_toInt ex1; have bu1 := Int32.toInt_lt ex1
  have fa1 := c_mask p1 (2147483647 : Int32) 31 (by decide) (by decide); rw [hex1] at fa1; try simp only [Int32.reduceToInt, Int64.reduceToInt] at fa1
  clear hex1
  have bl2 := Int32.le_toInt ex2; have bu2 := Int32.toInt_lt ex2
  have fa2 := c_mask p3 (1 : Int32) 1 (by decide) (by decide); rw [hex2] at fa2; try simp only [Int32.reduceToInt, Int64.reduceToInt] at fa2
  clear hex2
  have bl3 := Int32.le_toInt ex3; have bu3 := Int32.toInt_lt ex3
  have fa3 := c_mask p2 (7 : Int32) 3 (by decide) (by decide); rw [hex3] at fa3; try simp only [Int32.reduceToInt, Int64.reduceToInt] at fa3
  clear hex3
  have bl4 := Int32.le_toInt ex4; have bu4 := Int32.toInt_lt ex4
  have fa4 := c_mask p2 (2147483647 : Int32) 31 (by decide) (by decide); rw [hex4] at fa4; try simp only [Int32.reduceToInt, Int64.reduceToInt] at fa4
  clear hex4
  try simp only [Int32.lt_iff_toInt_lt, Int64.lt_iff_toInt_lt, ← Int32.toInt_inj, ← Int64.toInt_inj, Int32.reduceToInt, Int64.reduceToInt, not_true_eq_false, not_false_eq_true, false_and, and_false, true_and, and_true, false_or, or_false, true_or, or_true] at fc5
  try simp only [Int32.lt_iff_toInt_lt, Int64.lt_iff_toInt_lt, ← Int32.toInt_inj, ← Int64.toInt_inj, Int32.reduceToInt, Int64.reduceToInt, not_true_eq_false, not_false_eq_true, false_and, and_false, true_and, and_true, false_or, or_false, true_or, or_true] at fc6
  try simp only [Int32.lt_iff_toInt_lt, Int64.lt_iff_toInt_lt, ← Int32.toInt_inj, ← Int64.toInt_inj, Int32.reduceToInt, Int64.reduceToInt, not_true_eq_false, not_false_eq_true, false_and, and_false, true_and, and_true, false_or, or_false, true_or, or_true] at fc7
  have bl8 := Int32.le_toInt ex8; have bu8 := Int32.toInt_lt ex8
  have fa8 := c_isub v15 v18; rw [hex8] at fa8; try simp only [Int32.reduceToInt, Int64.reduceToInt] at fa8
  clear hex8
  have bl9 := Int64.le_toInt ex9; have bu9 := Int64.toInt_lt ex9
  have fa9 := c_i2l p0; rw [hex9] at fa9; try simp only [Int32.reduceToInt, Int64.reduceToInt] at fa9
  clear hex9
  have bl10 := Int64.le_toInt ex10; have bu10 := Int64.toInt_lt ex10
  have fa10 := c_i2l v15; rw [hex10] at fa10; try simp only [Int32.reduceToInt, Int64.reduceToInt] at fa10
  clear hex10
  have bl11 := Int64.le_toInt ex11; have bu11 := Int64.toInt_lt ex11
  have fa11 := c_i2l v18; rw [hex11] at fa11; try simp only [Int32.reduceToInt, Int64.reduceToInt] at fa11
  clear hex11
  have bl12 := Int64.le_toInt ex12; have bu12 := Int64.toInt_lt ex12
  have fa12 := c_i2l v23; rw [hex12] at fa12; try simp only [Int32.reduceToInt, Int64.reduceToInt] at fa12
  clear hex12
  have bl13 := Int64.le_toInt ex13; have bu13 := Int64.toInt_lt ex13
  have fa13 := c_ladd v24 v26; rw [hex13] at fa13; try simp only [Int32.reduceToInt, Int64.reduceToInt] at fa13
  clear hex13
  have bl14 := Int64.le_toInt ex14; have bu14 := Int64.toInt_lt ex14
  have fa14 := c_ladd v27 v26; rw [hex14] at fa14; try simp only [Int32.reduceToInt, Int64.reduceToInt] at fa14
  clear hex14
  have bl15 := Int64.le_toInt ex15; have bu15 := Int64.toInt_lt ex15
  have fa15 := c_lsub v27 (1 : Int64); rw [hex15] at fa15; try simp only [Int32.reduceToInt, Int64.reduceToInt] at fa15
  clear hex15
  all_goals omega
set_option maxRecDepth 65536 in
set_option maxHeartbeats 40000000 in
theorem own_leaf0_34 (p0 : Int32) (p1 : Int32) (p2 : Int32) (p3 : Int32) (v15 : Int32) (hv15 : v15 = (p1 &&& (2147483647 : Int32))) (v18 : Int32) (hv18 : v18 = (if (p3 &&& (1 : Int32)) = (0 : Int32) then (p2 &&& (2147483647 : Int32)) else (p2 &&& (7 : Int32)))) (v23 : Int32) (hv23 : v23 = (own_f1 p0 v15 v18)) (v24 : Int64) (hv24 : v24 = (p0.toInt64)) (v25 : Int64) (hv25 : v25 = (v15.toInt64)) (v26 : Int64) (hv26 : v26 = (v18.toInt64)) (v27 : Int64) (hv27 : v27 = (v23.toInt64)) (hc29 : ¬ (v18 = (0 : Int32))) (hc45 : ¬ (v25 < v26)) (hc71 : (0 : Int64) < v24) (hc73 : v25 < (v24 + v26)) (hc75 : ¬ (v23 = (-1 : Int32))) (hc77 : ¬ (v27 < (0 : Int64))) (hc83 : ¬ (v27 < v24)) (hc89 : ¬ (v25 < (v27 + v26))) (hc95 : ¬ (v27 = (0 : Int64))) (hc97 : ¬ ((v27 - (1 : Int64)) < v24)) : False := by
  have dv18 : ((p3 &&& (1 : Int32)) = (0 : Int32) ∧ (v18 = (p2 &&& (2147483647 : Int32)))) ∨ (¬ ((p3 &&& (1 : Int32)) = (0 : Int32)) ∧ (v18 = (p2 &&& (7 : Int32)))) := (if cq0 : (p3 &&& (1 : Int32)) = (0 : Int32) then Or.inl ⟨cq0, (by rw [hv18, if_pos cq0])⟩ else Or.inr ⟨cq0, (by rw [hv18, if_neg cq0])⟩)
  clear hv18
  generalize hex1 : (p1 &&& (2147483647 : Int32)) = ex1 at *
  generalize hex2 : (p3 &&& (1 : Int32)) = ex2 at *
  generalize hex3 : (p2 &&& (7 : Int32)) = ex3 at *
  generalize hex4 : (p2 &&& (2147483647 : Int32)) = ex4 at *
  have fc5 := own_f1_cases p0 v15 v18
  generalize own_f1 p0 v15 v18 = ex5 at *
  have fc6 := own_f2_cases p0 (0 : Int32)
  generalize own_f2 p0 (0 : Int32) = ex6 at *
  have fc7 := own_f3_cases ex6 v15
  generalize own_f3 ex6 v15 = ex7 at *
  generalize hex8 : (v15 - v18) = ex8 at *
  generalize hex9 : (p0.toInt64) = ex9 at *
  generalize hex10 : (v15.toInt64) = ex10 at *
  generalize hex11 : (v18.toInt64) = ex11 at *
  generalize hex12 : (v23.toInt64) = ex12 at *
  generalize hex13 : (v24 + v26) = ex13 at *
  generalize hex14 : (v27 + v26) = ex14 at *
  generalize hex15 : (v27 - (1 : Int64)) = ex15 at *
  try simp only [Int32.lt_iff_toInt_lt, Int64.lt_iff_toInt_lt, ← Int32.toInt_inj, ← Int64.toInt_inj, Int32.reduceToInt, Int64.reduceToInt, not_true_eq_false, not_false_eq_true, false_and, and_false, true_and, and_true, false_or, or_false, true_or, or_true] at dv18
  try simp only [Int32.lt_iff_toInt_lt, Int64.lt_iff_toInt_lt, ← Int32.toInt_inj, ← Int64.toInt_inj, Int32.reduceToInt, Int64.reduceToInt, not_true_eq_false, not_false_eq_true, false_and, and_false, true_and, and_true, false_or, or_false, true_or, or_true] at hv15
  try simp only [Int32.lt_iff_toInt_lt, Int64.lt_iff_toInt_lt, ← Int32.toInt_inj, ← Int64.toInt_inj, Int32.reduceToInt, Int64.reduceToInt, not_true_eq_false, not_false_eq_true, false_and, and_false, true_and, and_true, false_or, or_false, true_or, or_true] at hv23
  try simp only [Int32.lt_iff_toInt_lt, Int64.lt_iff_toInt_lt, ← Int32.toInt_inj, ← Int64.toInt_inj, Int32.reduceToInt, Int64.reduceToInt, not_true_eq_false, not_false_eq_true, false_and, and_false, true_and, and_true, false_or, or_false, true_or, or_true] at hv24
  try simp only [Int32.lt_iff_toInt_lt, Int64.lt_iff_toInt_lt, ← Int32.toInt_inj, ← Int64.toInt_inj, Int32.reduceToInt, Int64.reduceToInt, not_true_eq_false, not_false_eq_true, false_and, and_false, true_and, and_true, false_or, or_false, true_or, or_true] at hv25
  try simp only [Int32.lt_iff_toInt_lt, Int64.lt_iff_toInt_lt, ← Int32.toInt_inj, ← Int64.toInt_inj, Int32.reduceToInt, Int64.reduceToInt, not_true_eq_false, not_false_eq_true, false_and, and_false, true_and, and_true, false_or, or_false, true_or, or_true] at hv26
  try simp only [Int32.lt_iff_toInt_lt, Int64.lt_iff_toInt_lt, ← Int32.toInt_inj, ← Int64.toInt_inj, Int32.reduceToInt, Int64.reduceToInt, not_true_eq_false, not_false_eq_true, false_and, and_false, true_and, and_true, false_or, or_false, true_or, or_true] at hv27
  try simp only [Int32.lt_iff_toInt_lt, Int64.lt_iff_toInt_lt, ← Int32.toInt_inj, ← Int64.toInt_inj, Int32.reduceToInt, Int64.reduceToInt, not_true_eq_false, not_false_eq_true, false_and, and_false, true_and, and_true, false_or, or_false, true_or, or_true] at hc29
  try simp only [Int32.lt_iff_toInt_lt, Int64.lt_iff_toInt_lt, ← Int32.toInt_inj, ← Int64.toInt_inj, Int32.reduceToInt, Int64.reduceToInt, not_true_eq_false, not_false_eq_true, false_and, and_false, true_and, and_true, false_or, or_false, true_or, or_true] at hc45
  try simp only [Int32.lt_iff_toInt_lt, Int64.lt_iff_toInt_lt, ← Int32.toInt_inj, ← Int64.toInt_inj, Int32.reduceToInt, Int64.reduceToInt, not_true_eq_false, not_false_eq_true, false_and, and_false, true_and, and_true, false_or, or_false, true_or, or_true] at hc71
  try simp only [Int32.lt_iff_toInt_lt, Int64.lt_iff_toInt_lt, ← Int32.toInt_inj, ← Int64.toInt_inj, Int32.reduceToInt, Int64.reduceToInt, not_true_eq_false, not_false_eq_true, false_and, and_false, true_and, and_true, false_or, or_false, true_or, or_true] at hc73
  try simp only [Int32.lt_iff_toInt_lt, Int64.lt_iff_toInt_lt, ← Int32.toInt_inj, ← Int64.toInt_inj, Int32.reduceToInt, Int64.reduceToInt, not_true_eq_false, not_false_eq_true, false_and, and_false, true_and, and_true, false_or, or_false, true_or, or_true] at hc75
  try simp only [Int32.lt_iff_toInt_lt, Int64.lt_iff_toInt_lt, ← Int32.toInt_inj, ← Int64.toInt_inj, Int32.reduceToInt, Int64.reduceToInt, not_true_eq_false, not_false_eq_true, false_and, and_false, true_and, and_true, false_or, or_false, true_or, or_true] at hc77
  try simp only [Int32.lt_iff_toInt_lt, Int64.lt_iff_toInt_lt, ← Int32.toInt_inj, ← Int64.toInt_inj, Int32.reduceToInt, Int64.reduceToInt, not_true_eq_false, not_false_eq_true, false_and, and_false, true_and, and_true, false_or, or_false, true_or, or_true] at hc83
  try simp only [Int32.lt_iff_toInt_lt, Int64.lt_iff_toInt_lt, ← Int32.toInt_inj, ← Int64.toInt_inj, Int32.reduceToInt, Int64.reduceToInt, not_true_eq_false, not_false_eq_true, false_and, and_false, true_and, and_true, false_or, or_false, true_or, or_true] at hc89
  try simp only [Int32.lt_iff_toInt_lt, Int64.lt_iff_toInt_lt, ← Int32.toInt_inj, ← Int64.toInt_inj, Int32.reduceToInt, Int64.reduceToInt, not_true_eq_false, not_false_eq_true, false_and, and_false, true_and, and_true, false_or, or_false, true_or, or_true] at hc95
  try simp only [Int32.lt_iff_toInt_lt, Int64.lt_iff_toInt_lt, ← Int32.toInt_inj, ← Int64.toInt_inj, Int32.reduceToInt, Int64.reduceToInt, not_true_eq_false, not_false_eq_true, false_and, and_false, true_and, and_true, false_or, or_false, true_or, or_true] at hc97
  have := Int32.le_toInt p0; have := Int32.toInt_lt p0
  have := Int32.le_toInt p1; have := Int32.toInt_lt p1
  have := Int32.le_toInt p2; have := Int32.toInt_lt p2
  have := Int32.le_toInt p3; have := Int32.toInt_lt p3
  have := Int32.le_toInt v15; have := Int32.toInt_lt v15
  have := Int32.le_toInt v18; have := Int32.toInt_lt v18
  have := Int32.le_toInt v23; have := Int32.toInt_lt v23
  have := Int64.le_toInt v24; have := Int64.toInt_lt v24
  have := Int64.le_toInt v25; have := Int64.toInt_lt v25
  have := Int64.le_toInt v26; have := Int64.toInt_lt v26
  have := Int64.le_toInt v27; have := Int64.toInt_lt v27
  have bl1 := Int32.le_toInt ex1; have bu1 := Int32.toInt_lt ex1
  have fa1 := c_mask p1 (2147483647 : Int32) 31 (by decide) (by decide); rw [hex1] at fa1; try simp only [Int32.reduceToInt, Int64.reduceToInt] at fa1
  clear hex1
  have bl2 := Int32.le_toInt ex2; have bu2 := Int32.toInt_lt ex2
  have fa2 := c_mask p3 (1 : Int32) 1 (by decide) (by decide); rw [hex2] at fa2; try simp only [Int32.reduceToInt, Int64.reduceToInt] at fa2
  clear hex2
  have bl3 := Int32.le_toInt ex3; have bu3 := Int32.toInt_lt ex3
  have fa3 := c_mask p2 (7 : Int32) 3 (by decide) (by decide); rw [hex3] at fa3; try simp only [Int32.reduceToInt, Int64.reduceToInt] at fa3
  clear hex3
  have bl4 := Int32.le_toInt ex4; have bu4 := Int32.toInt_lt ex4
  have fa4 := c_mask p2 (2147483647 : Int32) 31 (by decide) (by decide); rw [hex4] at fa4; try simp only [Int32.reduceToInt, Int64.reduceToInt] at fa4
  clear hex4
  try simp only [Int32.lt_iff_toInt_lt, Int64.lt_iff_toInt_lt, ← Int32.toInt_inj, ← Int64.toInt_inj, Int32.reduceToInt, Int64.reduceToInt, not_true_eq_false, not_false_eq_true, false_and, and_false, true_and, and_true, false_or, or_false, true_or, or_true] at fc5
  try simp only [Int32.lt_iff_toInt_lt, Int64.lt_iff_toInt_lt, ← Int32.toInt_inj, ← Int64.toInt_inj, Int32.reduceToInt, Int64.reduceToInt, not_true_eq_false, not_false_eq_true, false_and, and_false, true_and, and_true, false_or, or_false, true_or, or_true] at fc6
  try simp only [Int32.lt_iff_toInt_lt, Int64.lt_iff_toInt_lt, ← Int32.toInt_inj, ← Int64.toInt_inj, Int32.reduceToInt, Int64.reduceToInt, not_true_eq_false, not_false_eq_true, false_and, and_false, true_and, and_true, false_or, or_false, true_or, or_true] at fc7
  have bl8 := Int32.le_toInt ex8; have bu8 := Int32.toInt_lt ex8
  have fa8 := c_isub v15 v18; rw [hex8] at fa8; try simp only [Int32.reduceToInt, Int64.reduceToInt] at fa8
  clear hex8
  have bl9 := Int64.le_toInt ex9; have bu9 := Int64.toInt_lt ex9
  have fa9 := c_i2l p0; rw [hex9] at fa9; try simp only [Int32.reduceToInt, Int64.reduceToInt] at fa9
  clear hex9
  have bl10 := Int64.le_toInt ex10; have bu10 := Int64.toInt_lt ex10
  have fa10 := c_i2l v15; rw [hex10] at fa10; try simp only [Int32.reduceToInt, Int64.reduceToInt] at fa10
  clear hex10
  have bl11 := Int64.le_toInt ex11; have bu11 := Int64.toInt_lt ex11
  have fa11 := c_i2l v18; rw [hex11] at fa11; try simp only [Int32.reduceToInt, Int64.reduceToInt] at fa11
  clear hex11
  have bl12 := Int64.le_toInt ex12; have bu12 := Int64.toInt_lt ex12
  have fa12 := c_i2l v23; rw [hex12] at fa12; try simp only [Int32.reduceToInt, Int64.reduceToInt] at fa12
  clear hex12
  have bl13 := Int64.le_toInt ex13; have bu13 := Int64.toInt_lt ex13
  have fa13 := c_ladd v24 v26; rw [hex13] at fa13; try simp only [Int32.reduceToInt, Int64.reduceToInt] at fa13
  clear hex13
  have bl14 := Int64.le_toInt ex14; have bu14 := Int64.toInt_lt ex14
  have fa14 := c_ladd v27 v26; rw [hex14] at fa14; try simp only [Int32.reduceToInt, Int64.reduceToInt] at fa14
  clear hex14
  have bl15 := Int64.le_toInt ex15; have bu15 := Int64.toInt_lt ex15
  have fa15 := c_lsub v27 (1 : Int64); rw [hex15] at fa15; try simp only [Int32.reduceToInt, Int64.reduceToInt] at fa15
  clear hex15
  all_goals omega
set_option maxRecDepth 65536 in
set_option maxHeartbeats 40000000 in
theorem own_leaf0_35 (p0 : Int32) (p1 : Int32) (p2 : Int32) (p3 : Int32) (v15 : Int32) (hv15 : v15 = (p1 &&& (2147483647 : Int32))) (v18 : Int32) (hv18 : v18 = (if (p3 &&& (1 : Int32)) = (0 : Int32) then (p2 &&& (2147483647 : Int32)) else (p2 &&& (7 : Int32)))) (v23 : Int32) (hv23 : v23 = (own_f1 p0 v15 v18)) (v24 : Int64) (hv24 : v24 = (p0.toInt64)) (v25 : Int64) (hv25 : v25 = (v15.toInt64)) (v26 : Int64) (hv26 : v26 = (v18.toInt64)) (v27 : Int64) (hv27 : v27 = (v23.toInt64)) (hc29 : ¬ (v18 = (0 : Int32))) (hc45 : ¬ (v25 < v26)) (hc71 : (0 : Int64) < v24) (hc73 : ¬ (v25 < (v24 + v26))) (hc99 : v23 = (-1 : Int32)) : False := by
  have dv18 : ((p3 &&& (1 : Int32)) = (0 : Int32) ∧ (v18 = (p2 &&& (2147483647 : Int32)))) ∨ (¬ ((p3 &&& (1 : Int32)) = (0 : Int32)) ∧ (v18 = (p2 &&& (7 : Int32)))) := (if cq0 : (p3 &&& (1 : Int32)) = (0 : Int32) then Or.inl ⟨cq0, (by rw [hv18, if_pos cq0])⟩ else Or.inr ⟨cq0, (by rw [hv18, if_neg cq0])⟩)
  clear hv18
  generalize hex1 : (p1 &&& (2147483647 : Int32)) = ex1 at *
  generalize hex2 : (p3 &&& (1 : Int32)) = ex2 at *
  generalize hex3 : (p2 &&& (7 : Int32)) = ex3 at *
  generalize hex4 : (p2 &&& (2147483647 : Int32)) = ex4 at *
  have fc5 := own_f1_cases p0 v15 v18
  generalize own_f1 p0 v15 v18 = ex5 at *
  have fc6 := own_f2_cases p0 (0 : Int32)
  generalize own_f2 p0 (0 : Int32) = ex6 at *
  have fc7 := own_f3_cases ex6 v15
  generalize own_f3 ex6 v15 = ex7 at *
  generalize hex8 : (v15 - v18) = ex8 at *
  generalize hex9 : (p0.toInt64) = ex9 at *
  generalize hex10 : (v15.toInt64) = ex10 at *
  generalize hex11 : (v18.toInt64) = ex11 at *
  generalize hex12 : (v23.toInt64) = ex12 at *
  generalize hex13 : (v24 + v26) = ex13 at *
  try simp only [Int32.lt_iff_toInt_lt, Int64.lt_iff_toInt_lt, ← Int32.toInt_inj, ← Int64.toInt_inj, Int32.reduceToInt, Int64.reduceToInt, not_true_eq_false, not_false_eq_true, false_and, and_false, true_and, and_true, false_or, or_false, true_or, or_true] at dv18
  try simp only [Int32.lt_iff_toInt_lt, Int64.lt_iff_toInt_lt, ← Int32.toInt_inj, ← Int64.toInt_inj, Int32.reduceToInt, Int64.reduceToInt, not_true_eq_false, not_false_eq_true, false_and, and_false, true_and, and_true, false_or, or_false, true_or, or_true] at hv15
  try simp only [Int32.lt_iff_toInt_lt, Int64.lt_iff_toInt_lt, ← Int32.toInt_inj, ← Int64.toInt_inj, Int32.reduceToInt, Int64.reduceToInt, not_true_eq_false, not_false_eq_true, false_and, and_false, true_and, and_true, false_or, or_false, true_or, or_true] at hv23
  try simp only [Int32.lt_iff_toInt_lt, Int64.lt_iff_toInt_lt, ← Int32.toInt_inj, ← Int64.toInt_inj, Int32.reduceToInt, Int64.reduceToInt, not_true_eq_false, not_false_eq_true, false_and, and_false, true_and, and_true, false_or, or_false, true_or, or_true] at hv24
  try simp only [Int32.lt_iff_toInt_lt, Int64.lt_iff_toInt_lt, ← Int32.toInt_inj, ← Int64.toInt_inj, Int32.reduceToInt, Int64.reduceToInt, not_true_eq_false, not_false_eq_true, false_and, and_false, true_and, and_true, false_or, or_false, true_or, or_true] at hv25
  try simp only [Int32.lt_iff_toInt_lt, Int64.lt_iff_toInt_lt, ← Int32.toInt_inj, ← Int64.toInt_inj, Int32.reduceToInt, Int64.reduceToInt, not_true_eq_false, not_false_eq_true, false_and, and_false, true_and, and_true, false_or, or_false, true_or, or_true] at hv26
  try simp only [Int32.lt_iff_toInt_lt, Int64.lt_iff_toInt_lt, ← Int32.toInt_inj, ← Int64.toInt_inj, Int32.reduceToInt, Int64.reduceToInt, not_true_eq_false, not_false_eq_true, false_and, and_false, true_and, and_true, false_or, or_false, true_or, or_true] at hv27
  try simp only [Int32.lt_iff_toInt_lt, Int64.lt_iff_toInt_lt, ← Int32.toInt_inj, ← Int64.toInt_inj, Int32.reduceToInt, Int64.reduceToInt, not_true_eq_false, not_false_eq_true, false_and, and_false, true_and, and_true, false_or, or_false, true_or, or_true] at hc29
  try simp only [Int32.lt_iff_toInt_lt, Int64.lt_iff_toInt_lt, ← Int32.toInt_inj, ← Int64.toInt_inj, Int32.reduceToInt, Int64.reduceToInt, not_true_eq_false, not_false_eq_true, false_and, and_false, true_and, and_true, false_or, or_false, true_or, or_true] at hc45
  try simp only [Int32.lt_iff_toInt_lt, Int64.lt_iff_toInt_lt, ← Int32.toInt_inj, ← Int64.toInt_inj, Int32.reduceToInt, Int64.reduceToInt, not_true_eq_false, not_false_eq_true, false_and, and_false, true_and, and_true, false_or, or_false, true_or, or_true] at hc71
  try simp only [Int32.lt_iff_toInt_lt, Int64.lt_iff_toInt_lt, ← Int32.toInt_inj, ← Int64.toInt_inj, Int32.reduceToInt, Int64.reduceToInt, not_true_eq_false, not_false_eq_true, false_and, and_false, true_and, and_true, false_or, or_false, true_or, or_true] at hc73
  try simp only [Int32.lt_iff_toInt_lt, Int64.lt_iff_toInt_lt, ← Int32.toInt_inj, ← Int64.toInt_inj, Int32.reduceToInt, Int64.reduceToInt, not_true_eq_false, not_false_eq_true, false_and, and_false, true_and, and_true, false_or, or_false, true_or, or_true] at hc99
  have := Int32.le_toInt p0; have := Int32.toInt_lt p0
  have := Int32.le_toInt p1; have := Int32.toInt_lt p1
  have := Int32.le_toInt p2; have := Int32.toInt_lt p2
  have := Int32.le_toInt p3; have := Int32.toInt_lt p3
  have := Int32.le_toInt v15; have := Int32.toInt_lt v15
  have := Int32.le_toInt v18; have := Int32.toInt_lt v18
  have := Int32.le_toInt v23; have := Int32.toInt_lt v23
  have := Int64.le_toInt v24; have := Int64.toInt_lt v24
  have := Int64.le_toInt v25; have := Int64.toInt_lt v25
  have := Int64.le_toInt v26; have := Int64.toInt_lt v26
  have := Int64.le_toInt v27; have := Int64.toInt_lt v27
  have bl1 := Int32.le_toInt ex1; have bu1 := Int32.toInt_lt ex1
  have fa1 := c_mask p1 (2147483647 : Int32) 31 (by decide) (by decide); rw [hex1] at fa1; try simp only [Int32.reduceToInt, Int64.reduceToInt] at fa1
  clear hex1
  have bl2 := Int32.le_toInt ex2; have bu2 := Int32.toInt_lt ex2
  have fa2 := c_mask p3 (1 : Int32) 1 (by decide) (by decide); rw [hex2] at fa2; try simp only [Int32.reduceToInt, Int64.reduceToInt] at fa2
  clear hex2
  have bl3 := Int32.le_toInt ex3; have bu3 := Int32.toInt_lt ex3
  have fa3 := c_mask p2 (7 : Int32) 3 (by decide) (by decide); rw [hex3] at fa3; try simp only [Int32.reduceToInt, Int64.reduceToInt] at fa3
  clear hex3
  have bl4 := Int32.le_toInt ex4; have bu4 := Int32.toInt_lt ex4
  have fa4 := c_mask p2 (2147483647 : Int32) 31 (by decide) (by decide); rw [hex4] at fa4; try simp only [Int32.reduceToInt, Int64.reduceToInt] at fa4
  clear hex4
  try simp only [Int32.lt_iff_toInt_lt, Int64.lt_iff_toInt_lt, ← Int32.toInt_inj, ← Int64.toInt_inj, Int32.reduceToInt, Int64.reduceToInt, not_true_eq_false, not_false_eq_true, false_and, and_false, true_and, and_true, false_or, or_false, true_or, or_true] at fc5
  try simp only [Int32.lt_iff_toInt_lt, Int64.lt_iff_toInt_lt, ← Int32.toInt_inj, ← Int64.toInt_inj, Int32.reduceToInt, Int64.reduceToInt, not_true_eq_false, not_false_eq_true, false_and, and_false, true_and, and_true, false_or, or_false, true_or, or_true] at fc6
  try simp only [Int32.lt_iff_toInt_lt, Int64.lt_iff_toInt_lt, ← Int32.toInt_inj, ← Int64.toInt_inj, Int32.reduceToInt, Int64.reduceToInt, not_true_eq_false, not_false_eq_true, false_and, and_false, true_and, and_true, false_or, or_false, true_or, or_true] at fc7
  have bl8 := Int32.le_toInt ex8; have bu8 := Int32.toInt_lt ex8
  have fa8 := c_isub v15 v18; rw [hex8] at fa8; try simp only [Int32.reduceToInt, Int64.reduceToInt] at fa8
  clear hex8
  have bl9 := Int64.le_toInt ex9; have bu9 := Int64.toInt_lt ex9
  have fa9 := c_i2l p0; rw [hex9] at fa9; try simp only [Int32.reduceToInt, Int64.reduceToInt] at fa9
  clear hex9
  have bl10 := Int64.le_toInt ex10; have bu10 := Int64.toInt_lt ex10
  have fa10 := c_i2l v15; rw [hex10] at fa10; try simp only [Int32.reduceToInt, Int64.reduceToInt] at fa10
  clear hex10
  have bl11 := Int64.le_toInt ex11; have bu11 := Int64.toInt_lt ex11
  have fa11 := c_i2l v18; rw [hex11] at fa11; try simp only [Int32.reduceToInt, Int64.reduceToInt] at fa11
  clear hex11
  have bl12 := Int64.le_toInt ex12; have bu12 := Int64.toInt_lt ex12
  have fa12 := c_i2l v23; rw [hex12] at fa12; try simp only [Int32.reduceToInt, Int64.reduceToInt] at fa12
  clear hex12
  have bl13 := Int64.le_toInt ex13; have bu13 := Int64.toInt_lt ex13
  have fa13 := c_ladd v24 v26; rw [hex13] at fa13; try simp only [Int32.reduceToInt, Int64.reduceToInt] at fa13
  clear hex13
  all_goals omega
set_option maxRecDepth 65536 in
set_option maxHeartbeats 40000000 in
theorem own_leaf0_36 (p0 : Int32) (p1 : Int32) (p2 : Int32) (p3 : Int32) (v15 : Int32) (hv15 : v15 = (p1 &&& (2147483647 : Int32))) (v18 : Int32) (hv18 : v18 = (if (p3 &&& (1 : Int32)) = (0 : Int32) then (p2 &&& (2147483647 : Int32)) else (p2 &&& (7 : Int32)))) (v23 : Int32) (hv23 : v23 = (own_f1 p0 v15 v18)) (v24 : Int64) (hv24 : v24 = (p0.toInt64)) (v25 : Int64) (hv25 : v25 = (v15.toInt64)) (v26 : Int64) (hv26 : v26 = (v18.toInt64)) (v27 : Int64) (hv27 : v27 = (v23.toInt64)) (hc29 : ¬ (v18 = (0 : Int32))) (hc45 : ¬ (v25 < v26)) (hc71 : (0 : Int64) < v24) (hc73 : ¬ (v25 < (v24 + v26))) (hc99 : ¬ (v23 = (-1 : Int32))) (hc101 : v27 < (0 : Int64)) (hc103 : v27 = (0 : Int64)) : False := by
  have dv18 : ((p3 &&& (1 : Int32)) = (0 : Int32) ∧ (v18 = (p2 &&& (2147483647 : Int32)))) ∨ (¬ ((p3 &&& (1 : Int32)) = (0 : Int32)) ∧ (v18 = (p2 &&& (7 : Int32)))) := (if cq0 : (p3 &&& (1 : Int32)) = (0 : Int32) then Or.inl ⟨cq0, (by rw [hv18, if_pos cq0])⟩ else Or.inr ⟨cq0, (by rw [hv18, if_neg cq0])⟩)
  clear hv18
  generalize hex1 : (p1 &&& (2147483647 : Int32)) = ex1 at *
  generalize hex2 : (p3 &&& (1 : Int32)) = ex2 at *
  generalize hex3 : (p2 &&& (7 : Int32)) = ex3 at *
  generalize hex4 : (p2 &&& (2147483647 : Int32)) = ex4 at *
  have fc5 := own_f1_cases p0 v15 v18
  generalize own_f1 p0 v15 v18 = ex5 at *
  have fc6 := own_f2_cases p0 (0 : Int32)
  generalize own_f2 p0 (0 : Int32) = ex6 at *
  have fc7 := own_f3_cases ex6 v15
  generalize own_f3 ex6 v15 = ex7 at *
  generalize hex8 : (v15 - v18) = ex8 at *
  generalize hex9 : (p0.toInt64) = ex9 at *
  generalize hex10 : (v15.toInt64) = ex10 at *
  generalize hex11 : (v18.toInt64) = ex11 at *
  generalize hex12 : (v23.toInt64) = ex12 at *
  generalize hex13 : (v24 + v26) = ex13 at *
  try simp only [Int32.lt_iff_toInt_lt, Int64.lt_iff_toInt_lt, ← Int32.toInt_inj, ← Int64.toInt_inj, Int32.reduceToInt, Int64.reduceToInt, not_true_eq_false, not_false_eq_true, false_and, and_false, true_and, and_true, false_or, or_false, true_or, or_true] at dv18
  try simp only [Int32.lt_iff_toInt_lt, Int64.lt_iff_toInt_lt, ← Int32.toInt_inj, ← Int64.toInt_inj, Int32.reduceToInt, Int64.reduceToInt, not_true_eq_false, not_false_eq_true, false_and, and_false, true_and, and_true, false_or, or_false, true_or, or_true] at hv15
  try simp only [Int32.lt_iff_toInt_lt, Int64.lt_iff_toInt_lt, ← Int32.toInt_inj, ← Int64.toInt_inj, Int32.reduceToInt, Int64.reduceToInt, not_true_eq_false, not_false_eq_true, false_and, and_false, true_and, and_true, false_or, or_false, true_or, or_true] at hv23
  try simp only [Int32.lt_iff_toInt_lt, Int64.lt_iff_toInt_lt, ← Int32.toInt_inj, ← Int64.toInt_inj, Int32.reduceToInt, Int64.reduceToInt, not_true_eq_false, not_false_eq_true, false_and, and_false, true_and, and_true, false_or, or_false, true_or, or_true] at hv24
  try simp only [Int32.lt_iff_toInt_lt, Int64.lt_iff_toInt_lt, ← Int32.toInt_inj, ← Int64.toInt_inj, Int32.reduceToInt, Int64.reduceToInt, not_true_eq_false, not_false_eq_true, false_and, and_false, true_and, and_true, false_or, or_false, true_or, or_true] at hv25
  try simp only [Int32.lt_iff_toInt_lt, Int64.lt_iff_toInt_lt, ← Int32.toInt_inj, ← Int64.toInt_inj, Int32.reduceToInt, Int64.reduceToInt, not_true_eq_false, not_false_eq_true, false_and, and_false, true_and, and_true, false_or, or_false, true_or, or_true] at hv26
  try simp only [Int32.lt_iff_toInt_lt, Int64.lt_iff_toInt_lt, ← Int32.toInt_inj, ← Int64.toInt_inj, Int32.reduceToInt, Int64.reduceToInt, not_true_eq_false, not_false_eq_true, false_and, and_false, true_and, and_true, false_or, or_false, true_or, or_true] at hv27
  try simp only [Int32.lt_iff_toInt_lt, Int64.lt_iff_toInt_lt, ← Int32.toInt_inj, ← Int64.toInt_inj, Int32.reduceToInt, Int64.reduceToInt, not_true_eq_false, not_false_eq_true, false_and, and_false, true_and, and_true, false_or, or_false, true_or, or_true] at hc29
  try simp only [Int32.lt_iff_toInt_lt, Int64.lt_iff_toInt_lt, ← Int32.toInt_inj, ← Int64.toInt_inj, Int32.reduceToInt, Int64.reduceToInt, not_true_eq_false, not_false_eq_true, false_and, and_false, true_and, and_true, false_or, or_false, true_or, or_true] at hc45
  try simp only [Int32.lt_iff_toInt_lt, Int64.lt_iff_toInt_lt, ← Int32.toInt_inj, ← Int64.toInt_inj, Int32.reduceToInt, Int64.reduceToInt, not_true_eq_false, not_false_eq_true, false_and, and_false, true_and, and_true, false_or, or_false, true_or, or_true] at hc71
  try simp only [Int32.lt_iff_toInt_lt, Int64.lt_iff_toInt_lt, ← Int32.toInt_inj, ← Int64.toInt_inj, Int32.reduceToInt, Int64.reduceToInt, not_true_eq_false, not_false_eq_true, false_and, and_false, true_and, and_true, false_or, or_false, true_or, or_true] at hc73
  try simp only [Int32.lt_iff_toInt_lt, Int64.lt_iff_toInt_lt, ← Int32.toInt_inj, ← Int64.toInt_inj, Int32.reduceToInt, Int64.reduceToInt, not_true_eq_false, not_false_eq_true, false_and, and_false, true_and, and_true, false_or, or_false, true_or, or_true] at hc99
  try simp only [Int32.lt_iff_toInt_lt, Int64.lt_iff_toInt_lt, ← Int32.toInt_inj, ← Int64.toInt_inj, Int32.reduceToInt, Int64.reduceToInt, not_true_eq_false, not_false_eq_true, false_and, and_false, true_and, and_true, false_or, or_false, true_or, or_true] at hc101
  try simp only [Int32.lt_iff_toInt_lt, Int64.lt_iff_toInt_lt, ← Int32.toInt_inj, ← Int64.toInt_inj, Int32.reduceToInt, Int64.reduceToInt, not_true_eq_false, not_false_eq_true, false_and, and_false, true_and, and_true, false_or, or_false, true_or, or_true] at hc103
  have := Int32.le_toInt p0; have := Int32.toInt_lt p0
  have := Int32.le_toInt p1; have := Int32.toInt_lt p1
  have := Int32.le_toInt p2; have := Int32.toInt_lt p2
  have := Int32.le_toInt p3; have := Int32.toInt_lt p3
  have := Int32.le_toInt v15; have := Int32.toInt_lt v15
  have := Int32.le_toInt v18; have := Int32.toInt_lt v18
  have := Int32.le_toInt v23; have := Int32.toInt_lt v23
  have := Int64.le_toInt v24; have := Int64.toInt_lt v24
  have := Int64.le_toInt v25; have := Int64.toInt_lt v25
  have := Int64.le_toInt v26; have := Int64.toInt_lt v26
  have := Int64.le_toInt v27; have := Int64.toInt_lt v27
  have bl1 := Int32.le_toInt ex1; have bu1 := Int32.toInt_lt ex1
  have fa1 := c_mask p1 (2147483647 : Int32) 31 (by decide) (by decide); rw [hex1] at fa1; try simp only [Int32.reduceToInt, Int64.reduceToInt] at fa1
  clear hex1
  have bl2 := Int32.le_toInt ex2; have bu2 := Int32.toInt_lt ex2
  have fa2 := c_mask p3 (1 : Int32) 1 (by decide) (by decide); rw [hex2] at fa2; try simp only [Int32.reduceToInt, Int64.reduceToInt] at fa2
  clear hex2
  have bl3 := Int32.le_toInt ex3; have bu3 := Int32.toInt_lt ex3
  have fa3 := c_mask p2 (7 : Int32) 3 (by decide) (by decide); rw [hex3] at fa3; try simp only [Int32.reduceToInt, Int64.reduceToInt] at fa3
  clear hex3
  have bl4 := Int32.le_toInt ex4; have bu4 := Int32.toInt_lt ex4
  have fa4 := c_mask p2 (2147483647 : Int32) 31 (by decide) (by decide); rw [hex4] at fa4; try simp only [Int32.reduceToInt, Int64.reduceToInt] at fa4
  clear hex4
  try simp only [Int32.lt_iff_toInt_lt, Int64.lt_iff_toInt_lt, ← Int32.toInt_inj, ← Int64.toInt_inj, Int32.reduceToInt, Int64.reduceToInt, not_true_eq_false, not_false_eq_true, false_and, and_false, true_and, and_true, false_or, or_false, true_or, or_true] at fc5
  try simp only [Int32.lt_iff_toInt_lt, Int64.lt_iff_toInt_lt, ← Int32.toInt_inj, ← Int64.toInt_inj, Int32.reduceToInt, Int64.reduceToInt, not_true_eq_false, not_false_eq_true, false_and, and_false, true_and, and_true, false_or, or_false, true_or, or_true] at fc6
  try simp only [Int32.lt_iff_toInt_lt, Int64.lt_iff_toInt_lt, ← Int32.toInt_inj, ← Int64.toInt_inj, Int32.reduceToInt, Int64.reduceToInt, not_true_eq_false, not_false_eq_true, false_and, and_false, true_and, and_true, false_or, or_false, true_or, or_true] at fc7
  have bl8 := Int32.le_toInt ex8; have bu8 := Int32.toInt_lt ex8
  have fa8 := c_isub v15 v18; rw [hex8] at fa8; try simp only [Int32.reduceToInt, Int64.reduceToInt] at fa8
  clear hex8
  have bl9 := Int64.le_toInt ex9; have bu9 := Int64.toInt_lt ex9
  have fa9 := c_i2l p0; rw [hex9] at fa9; try simp only [Int32.reduceToInt, Int64.reduceToInt] at fa9
  clear hex9
  have bl10 := Int64.le_toInt ex10; have bu10 := Int64.toInt_lt ex10
  have fa10 := c_i2l v15; rw [hex10] at fa10; try simp only [Int32.reduceToInt, Int64.reduceToInt] at fa10
  clear hex10
  have bl11 := Int64.le_toInt ex11; have bu11 := Int64.toInt_lt ex11
  have fa11 := c_i2l v18; rw [hex11] at fa11; try simp only [Int32.reduceToInt, Int64.reduceToInt] at fa11
  clear hex11
  have bl12 := Int64.le_toInt ex12; have bu12 := Int64.toInt_lt ex12
  have fa12 := c_i2l v23; rw [hex12] at fa12; try simp only [Int32.reduceToInt, Int64.reduceToInt] at fa12
  clear hex12
  have bl13 := Int64.le_toInt ex13; have bu13 := Int64.toInt_lt ex13
  have fa13 := c_ladd v24 v26; rw [hex13] at fa13; try simp only [Int32.reduceToInt, Int64.reduceToInt] at fa13
  clear hex13
  all_goals omega
set_option maxRecDepth 65536 in
set_option maxHeartbeats 40000000 in
theorem own_leaf0_37 (p0 : Int32) (p1 : Int32) (p2 : Int32) (p3 : Int32) (v15 : Int32) (hv15 : v15 = (p1 &&& (2147483647 : Int32))) (v18 : Int32) (hv18 : v18 = (if (p3 &&& (1 : Int32)) = (0 : Int32) then (p2 &&& (2147483647 : Int32)) else (p2 &&& (7 : Int32)))) (v23 : Int32) (hv23 : v23 = (own_f1 p0 v15 v18)) (v24 : Int64) (hv24 : v24 = (p0.toInt64)) (v25 : Int64) (hv25 : v25 = (v15.toInt64)) (v26 : Int64) (hv26 : v26 = (v18.toInt64)) (v27 : Int64) (hv27 : v27 = (v23.toInt64)) (hc29 : ¬ (v18 = (0 : Int32))) (hc45 : ¬ (v25 < v26)) (hc71 : (0 : Int64) < v24) (hc73 : ¬ (v25 < (v24 + v26))) (hc99 : ¬ (v23 = (-1 : Int32))) (hc101 : v27 < (0 : Int64)) (hc103 : ¬ (v27 = (0 : Int64))) (hc105 : (v27 - (1 : Int64)) < v24) : False := by
  have dv18 : ((p3 &&& (1 : Int32)) = (0 : Int32) ∧ (v18 = (p2 &&& (2147483647 : Int32)))) ∨ (¬ ((p3 &&& (1 : Int32)) = (0 : Int32)) ∧ (v18 = (p2 &&& (7 : Int32)))) := (if cq0 : (p3 &&& (1 : Int32)) = (0 : Int32) then Or.inl ⟨cq0, (by rw [hv18, if_pos cq0])⟩ else Or.inr ⟨cq0, (by rw [hv18, if_neg cq0])⟩)
  clear hv18
  generalize hex1 : (p1 &&& (2147483647 : Int32)) = ex1 at *
  generalize hex2 : (p3 &&& (1 : Int32)) = ex2 at *
  generalize hex3 : (p2 &&& (7 : Int32)) = ex3 at *
  generalize hex4 : (p2 &&& (2147483647 : Int32)) = ex4 at *
  have fc5 := own_f1_cases p0 v15 v18
  generalize own_f1 p0 v15 v18 = ex5 at *
  have fc6 := own_f2_cases p0 (0 : Int32)
  generalize own_f2 p0 (0 : Int32) = ex6 at *
  have fc7 := own_f3_cases ex6 v15
  generalize own_f3 ex6 v15 = ex7 at *
  generalize hex8 : (v15 - v18) = ex8 at *
  generalize hex9 : (p0.toInt64) = ex9 at *
  generalize hex10 : (v15.toInt64) = ex10 at *
  generalize hex11 : (v18.toInt64) = ex11 at *
  generalize hex12 : (v23.toInt64) = ex12 at *
  generalize hex13 : (v24 + v26) = ex13 at *
  generalize hex14 : (v27 - (1 : Int64)) = ex14 at *
  try simp only [Int32.lt_iff_toInt_lt, Int64.lt_iff_toInt_lt, ← Int32.toInt_inj, ← Int64.toInt_inj, Int32.reduceToInt, Int64.reduceToInt, not_true_eq_false, not_false_eq_true, false_and, and_false, true_and, and_true, false_or, or_false, true_or, or_true] at dv18
  try simp only [Int32.lt_iff_toInt_lt, Int64.lt_iff_toInt_lt, ← Int32.toInt_inj, ← Int64.toInt_inj, Int32.reduceToInt, Int64.reduceToInt, not_true_eq_false, not_false_eq_true, false_and, and_false, true_and, and_true, false_or, or_false, true_or, or_true] at hv15
  try simp only [Int32.lt_iff_toInt_lt, Int64.lt_iff_toInt_lt, ← Int32.toInt_inj, ← Int64.toInt_inj, Int32.reduceToInt, Int64.reduceToInt, not_true_eq_false, not_false_eq_true, false_and, and_false, true_and, and_true, false_or, or_false, true_or, or_true] at hv23
  try simp only [Int32.lt_iff_toInt_lt, Int64.lt_iff_toInt_lt, ← Int32.toInt_inj, ← Int64.toInt_inj, Int32.reduceToInt, Int64.reduceToInt, not_true_eq_false, not_false_eq_true, false_and, and_false, true_and, and_true, false_or, or_false, true_or, or_true] at hv24
  try simp only [Int32.lt_iff_toInt_lt, Int64.lt_iff_toInt_lt, ← Int32.toInt_inj, ← Int64.toInt_inj, Int32.reduceToInt, Int64.reduceToInt, not_true_eq_false, not_false_eq_true, false_and, and_false, true_and, and_true, false_or, or_false, true_or, or_true] at hv25
  try simp only [Int32.lt_iff_toInt_lt, Int64.lt_iff_toInt_lt, ← Int32.toInt_inj, ← Int64.toInt_inj, Int32.reduceToInt, Int64.reduceToInt, not_true_eq_false, not_false_eq_true, false_and, and_false, true_and, and_true, false_or, or_false, true_or, or_true] at hv26
  try simp only [Int32.lt_iff_toInt_lt, Int64.lt_iff_toInt_lt, ← Int32.toInt_inj, ← Int64.toInt_inj, Int32.reduceToInt, Int64.reduceToInt, not_true_eq_false, not_false_eq_true, false_and, and_false, true_and, and_true, false_or, or_false, true_or, or_true] at hv27
  try simp only [Int32.lt_iff_toInt_lt, Int64.lt_iff_toInt_lt, ← Int32.toInt_inj, ← Int64.toInt_inj, Int32.reduceToInt, Int64.reduceToInt, not_true_eq_false, not_false_eq_true, false_and, and_false, true_and, and_true, false_or, or_false, true_or, or_true] at hc29
  try simp only [Int32.lt_iff_toInt_lt, Int64.lt_iff_toInt_lt, ← Int32.toInt_inj, ← Int64.toInt_inj, Int32.reduceToInt, Int64.reduceToInt, not_true_eq_false, not_false_eq_true, false_and, and_false, true_and, and_true, false_or, or_false, true_or, or_true] at hc45
  try simp only [Int32.lt_iff_toInt_lt, Int64.lt_iff_toInt_lt, ← Int32.toInt_inj, ← Int64.toInt_inj, Int32.reduceToInt, Int64.reduceToInt, not_true_eq_false, not_false_eq_true, false_and, and_false, true_and, and_true, false_or, or_false, true_or, or_true] at hc71
  try simp only [Int32.lt_iff_toInt_lt, Int64.lt_iff_toInt_lt, ← Int32.toInt_inj, ← Int64.toInt_inj, Int32.reduceToInt, Int64.reduceToInt, not_true_eq_false, not_false_eq_true, false_and, and_false, true_and, and_true, false_or, or_false, true_or, or_true] at hc73
  try simp only [Int32.lt_iff_toInt_lt, Int64.lt_iff_toInt_lt, ← Int32.toInt_inj, ← Int64.toInt_inj, Int32.reduceToInt, Int64.reduceToInt, not_true_eq_false, not_false_eq_true, false_and, and_false, true_and, and_true, false_or, or_false, true_or, or_true] at hc99
  try simp only [Int32.lt_iff_toInt_lt, Int64.lt_iff_toInt_lt, ← Int32.toInt_inj, ← Int64.toInt_inj, Int32.reduceToInt, Int64.reduceToInt, not_true_eq_false, not_false_eq_true, false_and, and_false, true_and, and_true, false_or, or_false, true_or, or_true] at hc101
  try simp only [Int32.lt_iff_toInt_lt, Int64.lt_iff_toInt_lt, ← Int32.toInt_inj, ← Int64.toInt_inj, Int32.reduceToInt, Int64.reduceToInt, not_true_eq_false, not_false_eq_true, false_and, and_false, true_and, and_true, false_or, or_false, true_or, or_true] at hc103
  try simp only [Int32.lt_iff_toInt_lt, Int64.lt_iff_toInt_lt, ← Int32.toInt_inj, ← Int64.toInt_inj, Int32.reduceToInt, Int64.reduceToInt, not_true_eq_false, not_false_eq_true, false_and, and_false, true_and, and_true, false_or, or_false, true_or, or_true] at hc105
  have := Int32.le_toInt p0; have := Int32.toInt_lt p0
  have := Int32.le_toInt p1; have := Int32.toInt_lt p1
  have := Int32.le_toInt p2; have := Int32.toInt_lt p2
  have := Int32.le_toInt p3; have := Int32.toInt_lt p3
  have := Int32.le_toInt v15; have := Int32.toInt_lt v15
  have := Int32.le_toInt v18; have := Int32.toInt_lt v18
  have := Int32.le_toInt v23; have := Int32.toInt_lt v23
  have := Int64.le_toInt v24; have := Int64.toInt_lt v24
  have := Int64.le_toInt v25; have := Int64.toInt_lt v25
  have := Int64.le_toInt v26; have := Int64.toInt_lt v26
  have := Int64.le_toInt v27; have := Int64.toInt_lt v27
  have bl1 := Int32.le_toInt ex1; have bu1 := Int32.toInt_lt ex1
  have fa1 := c_mask p1 (2147483647 : Int32) 31 (by decide) (by decide); rw [hex1] at fa1; try simp only [Int32.reduceToInt, Int64.reduceToInt] at fa1
  clear hex1
  have bl2 := Int32.le_toInt ex2; have bu2 := Int32.toInt_lt ex2
  have fa2 := c_mask p3 (1 : Int32) 1 (by decide) (by decide); rw [hex2] at fa2; try simp only [Int32.reduceToInt, Int64.reduceToInt] at fa2
  clear hex2
  have bl3 := Int32.le_toInt ex3; have bu3 := Int32.toInt_lt ex3
  have fa3 := c_mask p2 (7 : Int32) 3 (by decide) (by decide); rw [hex3] at fa3; try simp only [Int32.reduceToInt, Int64.reduceToInt] at fa3
  clear hex3
  have bl4 := Int32.le_toInt ex4; have bu4 := Int32.toInt_lt ex4
  have fa4 := c_mask p2 (2147483647 : Int32) 31 (by decide) (by decide); rw [hex4] at fa4; try simp only [Int32.reduceToInt, Int64.reduceToInt] at fa4
  clear hex4
  try simp only [Int32.lt_iff_toInt_lt, Int64.lt_iff_toInt_lt, ← Int32.toInt_inj, ← Int64.toInt_inj, Int32.reduceToInt, Int64.reduceToInt, not_true_eq_false, not_false_eq_true, false_and, and_false, true_and, and_true, false_or, or_false, true_or, or_true] at fc5
  try simp only [Int32.lt_iff_toInt_lt, Int64.lt_iff_toInt_lt, ← Int32.toInt_inj, ← Int64.toInt_inj, Int32.reduceToInt, Int64.reduceToInt, not_true_eq_false, not_false_eq_true, false_and, and_false, true_and, and_true, false_or, or_false, true_or, or_true] at fc6
  try simp only [Int32.lt_iff_toInt_lt, Int64.lt_iff_toInt_lt, ← Int32.toInt_inj, ← Int64.toInt_inj, Int32.reduceToInt, Int64.reduceToInt, not_true_eq_false, not_false_eq_true, false_and, and_false, true_and, and_true, false_or, or_false, true_or, or_true] at fc7
  have bl8 := Int32.le_toInt ex8; have bu8 := Int32.toInt_lt ex8
  have fa8 := c_isub v15 v18; rw [hex8] at fa8; try simp only [Int32.reduceToInt, Int64.reduceToInt] at fa8
  clear hex8
  have bl9 := Int64.le_toInt ex9; have bu9 := Int64.toInt_lt ex9
  have fa9 := c_i2l p0; rw [hex9] at fa9; try simp only [Int32.reduceToInt, Int64.reduceToInt] at fa9
  clear hex9
  have bl10 := Int64.le_toInt ex10; have bu10 := Int64.toInt_lt ex10
  have fa10 := c_i2l v15; rw [hex10] at fa10; try simp only [Int32.reduceToInt, Int64.reduceToInt] at fa10
  clear hex10
  have bl11 := Int64.le_toInt ex11; have bu11 := Int64.toInt_lt ex11
  have fa11 := c_i2l v18; rw [hex11] at fa11; try simp only [Int32.reduceToInt, Int64.reduceToInt] at fa11
  clear hex11
  have bl12 := Int64.le_toInt ex12; have bu12 := Int64.toInt_lt ex12
  have fa12 := c_i2l v23; rw [hex12] at fa12; try simp only [Int32.reduceToInt, Int64.reduceToInt] at fa12
  clear hex12
  have bl13 := Int64.le_toInt ex13; have bu13 := Int64.toInt_lt ex13
  have fa13 := c_ladd v24 v26; rw [hex13] at fa13; try simp only [Int32.reduceToInt, Int64.reduceToInt] at fa13
  clear hex13
  have bl14 := Int64.le_toInt ex14; have bu14 := Int64.toInt_lt ex14
  have fa14 := c_lsub v27 (1 : Int64); rw [hex14] at fa14; try simp only [Int32.reduceToInt, Int64.reduceToInt] at fa14
  clear hex14
  all_goals omega
set_option maxRecDepth 65536 in
set_option maxHeartbeats 40000000 in
theorem own_leaf0_38 (p0 : Int32) (p1 : Int32) (p2 : Int32) (p3 : Int32) (v15 : Int32) (hv15 : v15 = (p1 &&& (2147483647 : Int32))) (v18 : Int32) (hv18 : v18 = (if (p3 &&& (1 : Int32)) = (0 : Int32) then (p2 &&& (2147483647 : Int32)) else (p2 &&& (7 : Int32)))) (v23 : Int32) (hv23 : v23 = (own_f1 p0 v15 v18)) (v24 : Int64) (hv24 : v24 = (p0.toInt64)) (v25 : Int64) (hv25 : v25 = (v15.toInt64)) (v26 : Int64) (hv26 : v26 = (v18.toInt64)) (v27 : Int64) (hv27 : v27 = (v23.toInt64)) (hc29 : ¬ (v18 = (0 : Int32))) (hc45 : ¬ (v25 < v26)) (hc71 : (0 : Int64) < v24) (hc73 : ¬ (v25 < (v24 + v26))) (hc99 : ¬ (v23 = (-1 : Int32))) (hc101 : v27 < (0 : Int64)) (hc103 : ¬ (v27 = (0 : Int64))) (hc105 : ¬ ((v27 - (1 : Int64)) < v24)) : False := by
  have dv18 : ((p3 &&& (1 : Int32)) = (0 : Int32) ∧ (v18 = (p2 &&& (2147483647 : Int32)))) ∨ (¬ ((p3 &&& (1 : Int32)) = (0 : Int32)) ∧ (v18 = (p2 &&& (7 : Int32)))) := (if cq0 : (p3 &&& (1 : Int32)) = (0 : Int32) then Or.inl ⟨cq0, (by rw [hv18, if_pos cq0])⟩ else Or.inr ⟨cq0, (by rw [hv18, if_neg cq0])⟩)
  clear hv18
  generalize hex1 : (p1 &&& (2147483647 : Int32)) = ex1 at *
  generalize hex2 : (p3 &&& (1 : Int32)) = ex2 at *
  generalize hex3 : (p2 &&& (7 : Int32)) = ex3 at *
  generalize hex4 : (p2 &&& (2147483647 : Int32)) = ex4 at *
  have fc5 := own_f1_cases p0 v15 v18
  generalize own_f1 p0 v15 v18 = ex5 at *
  have fc6 := own_f2_cases p0 (0 : Int32)
  generalize own_f2 p0 (0 : Int32) = ex6 at *
  have fc7 := own_f3_cases ex6 v15
  generalize own_f3 ex6 v15 = ex7 at *
  generalize hex8 : (v15 - v18) = ex8 at *
  generalize hex9 : (p0.toInt64) = ex9 at *
  generalize hex10 : (v15.toInt64) = ex10 at *
  generalize hex11 : (v18.toInt64) = ex11 at *
  generalize hex12 : (v23.toInt64) = ex12 at *
  generalize hex13 : (v24 + v26) = ex13 at *
  generalize hex14 : (v27 - (1 : Int64)) = ex14 at *
  try simp only [Int32.lt_iff_toInt_lt, Int64.lt_iff_toInt_lt, ← Int32.toInt_inj, ← Int64.toInt_inj, Int32.reduceToInt, Int64.reduceToInt, not_true_eq_false, not_false_eq_true, false_and, and_false, true_and, and_true, false_or, or_false, true_or, or_true] at dv18
  try simp only [Int32.lt_iff_toInt_lt, Int64.lt_iff_toInt_lt, ← Int32.toInt_inj, ← Int64.toInt_inj, Int32.reduceToInt, Int64.reduceToInt, not_true_eq_false, not_false_eq_true, false_and, and_false, true_and, and_true, false_or, or_false, true_or, or_true] at hv15
  try simp only [Int32.lt_iff_toInt_lt, Int64.lt_iff_toInt_lt, ← Int32.toInt_inj, ← Int64.toInt_inj, Int32.reduceToInt, Int64.reduceToInt, not_true_eq_false, not_false_eq_true, false_and, and_false, true_and, and_true, false_or, or_false, true_or, or_true] at hv23
  try simp only [Int32.lt_iff_toInt_lt, Int64.lt_iff_toInt_lt, ← Int32.toInt_inj, ← Int64.toInt_inj, Int32.reduceToInt, Int64.reduceToInt, not_true_eq_false, not_false_eq_true, false_and, and_false, true_and, and_true, false_or, or_false, true_or, or_true] at hv24
  try simp only [Int32.lt_iff_toInt_lt, Int64.lt_iff_toInt_lt, ← Int32.toInt_inj, ← Int64.toInt_inj, Int32.reduceToInt, Int64.reduceToInt, not_true_eq_false, not_false_eq_true, false_and, and_false, true_and, and_true, false_or, or_false, true_or, or_true] at hv25
  try simp only [Int32.lt_iff_toInt_lt, Int64.lt_iff_toInt_lt, ← Int32.toInt_inj, ← Int64.toInt_inj, Int32.reduceToInt, Int64.reduceToInt, not_true_eq_false, not_false_eq_true, false_and, and_false, true_and, and_true, false_or, or_false, true_or, or_true] at hv26
  try simp only [Int32.lt_iff_toInt_lt, Int64.lt_iff_toInt_lt, ← Int32.toInt_inj, ← Int64.toInt_inj, Int32.reduceToInt, Int64.reduceToInt, not_true_eq_false, not_false_eq_true, false_and, and_false, true_and, and_true, false_or, or_false, true_or, or_true] at hv27
  try simp only [Int32.lt_iff_toInt_lt, Int64.lt_iff_toInt_lt, ← Int32.toInt_inj, ← Int64.toInt_inj, Int32.reduceToInt, Int64.reduceToInt, not_true_eq_false, not_false_eq_true, false_and, and_false, true_and, and_true, false_or, or_false, true_or, or_true] at hc29
  try simp only [Int32.lt_iff_toInt_lt, Int64.lt_iff_toInt_lt, ← Int32.toInt_inj, ← Int64.toInt_inj, Int32.reduceToInt, Int64.reduceToInt, not_true_eq_false, not_false_eq_true, false_and, and_false, true_and, and_true, false_or, or_false, true_or, or_true] at hc45
  try simp only [Int32.lt_iff_toInt_lt, Int64.lt_iff_toInt_lt, ← Int32.toInt_inj, ← Int64.toInt_inj, Int32.reduceToInt, Int64.reduceToInt, not_true_eq_false, not_false_eq_true, false_and, and_false, true_and, and_true, false_or, or_false, true_or, or_true] at hc71
  try simp only [Int32.lt_iff_toInt_lt, Int64.lt_iff_toInt_lt, ← Int32.toInt_inj, ← Int64.toInt_inj, Int32.reduceToInt, Int64.reduceToInt, not_true_eq_false, not_false_eq_true, false_and, and_false, true_and, and_true, false_or, or_false, true_or, or_true] at hc73
  try simp only [Int32.lt_iff_toInt_lt, Int64.lt_iff_toInt_lt, ← Int32.toInt_inj, ← Int64.toInt_inj, Int32.reduceToInt, Int64.reduceToInt, not_true_eq_false, not_false_eq_true, false_and, and_false, true_and, and_true, false_or, or_false, true_or, or_true] at hc99
  try simp only [Int32.lt_iff_toInt_lt, Int64.lt_iff_toInt_lt, ← Int32.toInt_inj, ← Int64.toInt_inj, Int32.reduceToInt, Int64.reduceToInt, not_true_eq_false, not_false_eq_true, false_and, and_false, true_and, and_true, false_or, or_false, true_or, or_true] at hc101
  try simp only [Int32.lt_iff_toInt_lt, Int64.lt_iff_toInt_lt, ← Int32.toInt_inj, ← Int64.toInt_inj, Int32.reduceToInt, Int64.reduceToInt, not_true_eq_false, not_false_eq_true, false_and, and_false, true_and, and_true, false_or, or_false, true_or, or_true] at hc103
  try simp only [Int32.lt_iff_toInt_lt, Int64.lt_iff_toInt_lt, ← Int32.toInt_inj, ← Int64.toInt_inj, Int32.reduceToInt, Int64.reduceToInt, not_true_eq_false, not_false_eq_true, false_and, and_false, true_and, and_true, false_or, or_false, true_or, or_true] at hc105
  have := Int32.le_toInt p0; have := Int32.toInt_lt p0
  have := Int32.le_toInt p1; have := Int32.toInt_lt p1
  have := Int32.le_toInt p2; have := Int32.toInt_lt p2
  have := Int32.le_toInt p3; have := Int32.toInt_lt p3
  have := Int32.le_toInt v15; have := Int32.toInt_lt v15
  have := Int32.le_toInt v18; have := Int32.toInt_lt v18
  have := Int32.le_toInt v23; have := Int32.toInt_lt v23
  have := Int64.le_toInt v24; have := Int64.toInt_lt v24
  have := Int64.le_toInt v25; have := Int64.toInt_lt v25
  have := Int64.le_toInt v26; have := Int64.toInt_lt v26
  have := Int64.le_toInt v27; have := Int64.toInt_lt v27
  have bl1 := Int32.le_toInt ex1; have bu1 := Int32.toInt_lt ex1
  have fa1 := c_mask p1 (2147483647 : Int32) 31 (by decide) (by decide); rw [hex1] at fa1; try simp only [Int32.reduceToInt, Int64.reduceToInt] at fa1
  clear hex1
  have bl2 := Int32.le_toInt ex2; have bu2 := Int32.toInt_lt ex2
  have fa2 := c_mask p3 (1 : Int32) 1 (by decide) (by decide); rw [hex2] at fa2; try simp only [Int32.reduceToInt, Int64.reduceToInt] at fa2
  clear hex2
  have bl3 := Int32.le_toInt ex3; have bu3 := Int32.toInt_lt ex3
  have fa3 := c_mask p2 (7 : Int32) 3 (by decide) (by decide); rw [hex3] at fa3; try simp only [Int32.reduceToInt, Int64.reduceToInt] at fa3
  clear hex3
  have bl4 := Int32.le_toInt ex4; have bu4 := Int32.toInt_lt ex4
  have fa4 := c_mask p2 (2147483647 : Int32) 31 (by decide) (by decide); rw [hex4] at fa4; try simp only [Int32.reduceToInt, Int64.reduceToInt] at fa4
  clear hex4
  try simp only [Int32.lt_iff_toInt_lt, Int64.lt_iff_toInt_lt, ← Int32.toInt_inj, ← Int64.toInt_inj, Int32.reduceToInt, Int64.reduceToInt, not_true_eq_false, not_false_eq_true, false_and, and_false, true_and, and_true, false_or, or_false, true_or, or_true] at fc5
  try simp only [Int32.lt_iff_toInt_lt, Int64.lt_iff_toInt_lt, ← Int32.toInt_inj, ← Int64.toInt_inj, Int32.reduceToInt, Int64.reduceToInt, not_true_eq_false, not_false_eq_true, false_and, and_false, true_and, and_true, false_or, or_false, true_or, or_true] at fc6
  try simp only [Int32.lt_iff_toInt_lt, Int64.lt_iff_toInt_lt, ← Int32.toInt_inj, ← Int64.toInt_inj, Int32.reduceToInt, Int64.reduceToInt, not_true_eq_false, not_false_eq_true, false_and, and_false, true_and, and_true, false_or, or_false, true_or, or_true] at fc7
  have bl8 := Int32.le_toInt ex8; have bu8 := Int32.toInt_lt ex8
  have fa8 := c_isub v15 v18; rw [hex8] at fa8; try simp only [Int32.reduceToInt, Int64.reduceToInt] at fa8
  clear hex8
  have bl9 := Int64.le_toInt ex9; have bu9 := Int64.toInt_lt ex9
  have fa9 := c_i2l p0; rw [hex9] at fa9; try simp only [Int32.reduceToInt, Int64.reduceToInt] at fa9
  clear hex9
  have bl10 := Int64.le_toInt ex10; have bu10 := Int64.toInt_lt ex10
  have fa10 := c_i2l v15; rw [hex10] at fa10; try simp only [Int32.reduceToInt, Int64.reduceToInt] at fa10
  clear hex10
  have bl11 := Int64.le_toInt ex11; have bu11 := Int64.toInt_lt ex11
  have fa11 := c_i2l v18; rw [hex11] at fa11; try simp only [Int32.reduceToInt, Int64.reduceToInt] at fa11
  clear hex11
  have bl12 := Int64.le_toInt ex12; have bu12 := Int64.toInt_lt ex12
  have fa12 := c_i2l v23; rw [hex12] at fa12; try simp only [Int32.reduceToInt, Int64.reduceToInt] at fa12
  clear hex12
  have bl13 := Int64.le_toInt ex13; have bu13 := Int64.toInt_lt ex13
  have fa13 := c_ladd v24 v26; rw [hex13] at fa13; try simp only [Int32.reduceToInt, Int64.reduceToInt] at fa13
  clear hex13
  have bl14 := Int64.le_toInt ex14; have bu14 := Int64.toInt_lt ex14
  have fa14 := c_lsub v27 (1 : Int64); rw [hex14] at fa14; try simp only [Int32.reduceToInt, Int64.reduceToInt] at fa14
  clear hex14
  all_goals omega
set_option maxRecDepth 65536 in
set_option maxHeartbeats 40000000 in
theorem own_leaf0_39 (p0 : Int32) (p1 : Int32) (p2 : Int32) (p3 : Int32) (v15 : Int32) (hv15 : v15 = (p1 &&& (2147483647 : Int32))) (v18 : Int32) (hv18 : v18 = (if (p3 &&& (1 : Int32)) = (0 : Int32) then (p2 &&& (2147483647 : Int32)) else (p2 &&& (7 : Int32)))) (v23 : Int32) (hv23 : v23 = (own_f1 p0 v15 v18)) (v24 : Int64) (hv24 : v24 = (p0.toInt64)) (v25 : Int64) (hv25 : v25 = (v15.toInt64)) (v26 : Int64) (hv26 : v26 = (v18.toInt64)) (v27 : Int64) (hv27 : v27 = (v23.toInt64)) (hc29 : ¬ (v18 = (0 : Int32))) (hc45 : ¬ (v25 < v26)) (hc71 : (0 : Int64) < v24) (hc73 : ¬ (v25 < (v24 + v26))) (hc99 : ¬ (v23 = (-1 : Int32))) (hc101 : ¬ (v27 < (0 : Int64))) (hc107 : v27 < v24) (hc109 : v27 = (0 : Int64)) : False := by
  have dv18 : ((p3 &&& (1 : Int32)) = (0 : Int32) ∧ (v18 = (p2 &&& (2147483647 : Int32)))) ∨ (¬ ((p3 &&& (1 : Int32)) = (0 : Int32)) ∧ (v18 = (p2 &&& (7 : Int32)))) := (if cq0 : (p3 &&& (1 : Int32)) = (0 : Int32) then Or.inl ⟨cq0, (by rw [hv18, if_pos cq0])⟩ else Or.inr ⟨cq0, (by rw [hv18, if_neg cq0])⟩)
  clear hv18
  generalize hex1 : (p1 &&& (2147483647 : Int32)) = ex1 at *
  generalize hex2 : (p3 &&& (1 : Int32)) = ex2 at *
  generalize hex3 : (p2 &&& (7 : Int32)) = ex3 at *
  generalize hex4 : (p2 &&& (2147483647 : Int32)) = ex4 at *
  have fc5 := own_f1_cases p0 v15 v18
  generalize own_f1 p0 v15 v18 = ex5 at *
  have fc6 := own_f2_cases p0 (0 : Int32)
  generalize own_f2 p0 (0 : Int32) = ex6 at *
  have fc7 := own_f3_cases ex6 v15
  generalize own_f3 ex6 v15 = ex7 at *
  generalize hex8 : (v15 - v18) = ex8 at *
  generalize hex9 : (p0.toInt64) = ex9 at *
  generalize hex10 : (v15.toInt64) = ex10 at *
  generalize hex11 : (v18.toInt64) = ex11 at *
  generalize hex12 : (v23.toInt64) = ex12 at *
  generalize hex13 : (v24 + v26) = ex13 at *
  try simp only [Int32.lt_iff_toInt_lt, Int64.lt_iff_toInt_lt, ← Int32.toInt_inj, ← Int64.toInt_inj, Int32.reduceToInt, Int64.reduceToInt, not_true_eq_false, not_false_eq_true, false_and, and_false, true_and, and_true, false_or, or_false, true_or, or_true] at dv18
  try simp only [Int32.lt_iff_toInt_lt, Int64.lt_iff_toInt_lt, ← Int32.toInt_inj, ← Int64.toInt_inj, Int32.reduceToInt, Int64.reduceToInt, not_true_eq_false, not_false_eq_true, false_and, and_false, true_and, and_true, false_or, or_false, true_or, or_true] at hv15
  try simp only [Int32.lt_iff_toInt_lt, Int64.lt_iff_toInt_lt, ← Int32.toInt_inj, ← Int64.toInt_inj, Int32.reduceToInt, Int64.reduceToInt, not_true_eq_false, not_false_eq_true, false_and, and_false, true_and, and_true, false_or, or_false, true_or, or_true] at hv23
  try simp only [Int32.lt_iff_toInt_lt, Int64.lt_iff_toInt_lt, ← Int32.toInt_inj, ← Int64.toInt_inj, Int32.reduceToInt, Int64.reduceToInt, not_true_eq_false, not_false_eq_true, false_and, and_false, true_and, and_true, false_or, or_false, true_or, or_true] at hv24
  try simp only [Int32.lt_iff_toInt_lt, Int64.lt_iff_toInt_lt, ← Int32.toInt_inj, ← Int64.toInt_inj, Int32.reduceToInt, Int64.reduceToInt, not_true_eq_false, not_false_eq_true, false_and, and_false, true_and, and_true, false_or, or_false, true_or, or_true] at hv25
  try simp only [Int32.lt_iff_toInt_lt, Int64.lt_iff_toInt_lt, ← Int32.toInt_inj, ← Int64.toInt_inj, Int32.reduceToInt, Int64.reduceToInt, not_true_eq_false, not_false_eq_true, false_and, and_false, true_and, and_true, false_or, or_false, true_or, or_true] at hv26
  try simp only [Int32.lt_iff_toInt_lt, Int64.lt_iff_toInt_lt, ← Int32.toInt_inj, ← Int64.toInt_inj, Int32.reduceToInt, Int64.reduceToInt, not_true_eq_false, not_false_eq_true, false_and, and_false, true_and, and_true, false_or, or_false, true_or, or_true] at hv27
  try simp only [Int32.lt_iff_toInt_lt, Int64.lt_iff_toInt_lt, ← Int32.toInt_inj, ← Int64.toInt_inj, Int32.reduceToInt, Int64.reduceToInt, not_true_eq_false, not_false_eq_true, false_and, and_false, true_and, and_true, false_or, or_false, true_or, or_true] at hc29
  try simp only [Int32.lt_iff_toInt_lt, Int64.lt_iff_toInt_lt, ← Int32.toInt_inj, ← Int64.toInt_inj, Int32.reduceToInt, Int64.reduceToInt, not_true_eq_false, not_false_eq_true, false_and, and_false, true_and, and_true, false_or, or_false, true_or, or_true] at hc45
  try simp only [Int32.lt_iff_toInt_lt, Int64.lt_iff_toInt_lt, ← Int32.toInt_inj, ← Int64.toInt_inj, Int32.reduceToInt, Int64.reduceToInt, not_true_eq_false, not_false_eq_true, false_and, and_false, true_and, and_true, false_or, or_false, true_or, or_true] at hc71
  try simp only [Int32.lt_iff_toInt_lt, Int64.lt_iff_toInt_lt, ← Int32.toInt_inj, ← Int64.toInt_inj, Int32.reduceToInt, Int64.reduceToInt, not_true_eq_false, not_false_eq_true, false_and, and_false, true_and, and_true, false_or, or_false, true_or, or_true] at hc73
  try simp only [Int32.lt_iff_toInt_lt, Int64.lt_iff_toInt_lt, ← Int32.toInt_inj, ← Int64.toInt_inj, Int32.reduceToInt, Int64.reduceToInt, not_true_eq_false, not_false_eq_true, false_and, and_false, true_and, and_true, false_or, or_false, true_or, or_true] at hc99
  try simp only [Int32.lt_iff_toInt_lt, Int64.lt_iff_toInt_lt, ← Int32.toInt_inj, ← Int64.toInt_inj, Int32.reduceToInt, Int64.reduceToInt, not_true_eq_false, not_false_eq_true, false_and, and_false, true_and, and_true, false_or, or_false, true_or, or_true] at hc101
  try simp only [Int32.lt_iff_toInt_lt, Int64.lt_iff_toInt_lt, ← Int32.toInt_inj, ← Int64.toInt_inj, Int32.reduceToInt, Int64.reduceToInt, not_true_eq_false, not_false_eq_true, false_and, and_false, true_and, and_true, false_or, or_false, true_or, or_true] at hc107
  try simp only [Int32.lt_iff_toInt_lt, Int64.lt_iff_toInt_lt, ← Int32.toInt_inj, ← Int64.toInt_inj, Int32.reduceToInt, Int64.reduceToInt, not_true_eq_false, not_false_eq_true, false_and, and_false, true_and, and_true, false_or, or_false, true_or, or_true] at hc109
  have := Int32.le_toInt p0; have := Int32.toInt_lt p0
  have := Int32.le_toInt p1; have := Int32.toInt_lt p1
  have := Int32.le_toInt p2; have := Int32.toInt_lt p2
  have := Int32.le_toInt p3; have := Int32.toInt_lt p3
  have := Int32.le_toInt v15; have := Int32.toInt_lt v15
  have := Int32.le_toInt v18; have := Int32.toInt_lt v18
  have := Int32.le_toInt v23; have := Int32.toInt_lt v23
  have := Int64.le_toInt v24; have := Int64.toInt_lt v24
  have := Int64.le_toInt v25; have := Int64.toInt_lt v25
  have := Int64.le_toInt v26; have := Int64.toInt_lt v26
  have := Int64.le_toInt v27; have := Int64.toInt_lt v27
  have bl1 := Int32.le_toInt ex1; have bu1 := Int32.toInt_lt ex1
  have fa1 := c_mask p1 (2147483647 : Int32) 31 (by decide) (by decide); rw [hex1] at fa1; try simp only [Int32.reduceToInt, Int64.reduceToInt] at fa1
  clear hex1
  have bl2 := Int32.le_toInt ex2; have bu2 := Int32.toInt_lt ex2
  have fa2 := c_mask p3 (1 : Int32) 1 (by decide) (by decide); rw [hex2] at fa2; try simp only [Int32.reduceToInt, Int64.reduceToInt] at fa2
  clear hex2
  have bl3 := Int32.le_toInt ex3; have bu3 := Int32.toInt_lt ex3
  have fa3 := c_mask p2 (7 : Int32) 3 (by decide) (by decide); rw [hex3] at fa3; try simp only [Int32.reduceToInt, Int64.reduceToInt] at fa3
  clear hex3
  have bl4 := Int32.le_toInt ex4; have bu4 := Int32.toInt_lt ex4
  have fa4 := c_mask p2 (2147483647 : Int32) 31 (by decide) (by decide); rw [hex4] at fa4; try simp only [Int32.reduceToInt, Int64.reduceToInt] at fa4
  clear hex4
  try simp only [Int32.lt_iff_toInt_lt, Int64.lt_iff_toInt_lt, ← Int32.toInt_inj, ← Int64.toInt_inj, Int32.reduceToInt, Int64.reduceToInt, not_true_eq_false, not_false_eq_true, false_and, and_false, true_and, and_true, false_or, or_false, true_or, or_true] at fc5
  try simp only [Int32.lt_iff_toInt_lt, Int64.lt_iff_toInt_lt, ← Int32.toInt_inj, ← Int64.toInt_inj, Int32.reduceToInt, Int64.reduceToInt, not_true_eq_false, not_false_eq_true, false_and, and_false, true_and, and_true, false_or, or_false, true_or, or_true] at fc6
  try simp only [Int32.lt_iff_toInt_lt, Int64.lt_iff_toInt_lt, ← Int32.toInt_inj, ← Int64.toInt_inj, Int32.reduceToInt, Int64.reduceToInt, not_true_eq_false, not_false_eq_true, false_and, and_false, true_and, and_true, false_or, or_false, true_or, or_true] at fc7
  have bl8 := Int32.le_toInt ex8; have bu8 := Int32.toInt_lt ex8
  have fa8 := c_isub v15 v18; rw [hex8] at fa8; try simp only [Int32.reduceToInt, Int64.reduceToInt] at fa8
  clear hex8
  have bl9 := Int64.le_toInt ex9; have bu9 := Int64.toInt_lt ex9
  have fa9 := c_i2l p0; rw [hex9] at fa9; try simp only [Int32.reduceToInt, Int64.reduceToInt] at fa9
  clear hex9
  have bl10 := Int64.le_toInt ex10; have bu10 := Int64.toInt_lt ex10
  have fa10 := c_i2l v15; rw [hex10] at fa10; try simp only [Int32.reduceToInt, Int64.reduceToInt] at fa10
  clear hex10
  have bl11 := Int64.le_toInt ex11; have bu11 := Int64.toInt_lt ex11
  have fa11 := c_i2l v18; rw [hex11] at fa11; try simp only [Int32.reduceToInt, Int64.reduceToInt] at fa11
  clear hex11
  have bl12 := Int64.le_toInt ex12; have bu12 := Int64.toInt_lt ex12
  have fa12 := c_i2l v23; rw [hex12] at fa12; try simp only [Int32.reduceToInt, Int64.reduceToInt] at fa12
  clear hex12
  have bl13 := Int64.le_toInt ex13; have bu13 := Int64.toInt_lt ex13
  have fa13 := c_ladd v24 v26; rw [hex13] at fa13; try simp only [Int32.reduceToInt, Int64.reduceToInt] at fa13
  clear hex13
  all_goals omega
set_option maxRecDepth 65536 in
set_option maxHeartbeats 40000000 in
theorem own_leaf0_40 (p0 : Int32) (p1 : Int32) (p2 : Int32) (p3 : Int32) (v15 : Int32) (hv15 : v15 = (p1 &&& (2147483647 : Int32))) (v18 : Int32) (hv18 : v18 = (if (p3 &&& (1 : Int32)) = (0 : Int32) then (p2 &&& (2147483647 : Int32)) else (p2 &&& (7 : Int32)))) (v23 : Int32) (hv23 : v23 = (own_f1 p0 v15 v18)) (v24 : Int64) (hv24 : v24 = (p0.toInt64)) (v25 : Int64) (hv25 : v25 = (v15.toInt64)) (v26 : Int64) (hv26 : v26 = (v18.toInt64)) (v27 : Int64) (hv27 : v27 = (v23.toInt64)) (hc29 : ¬ (v18 = (0 : Int32))) (hc45 : ¬ (v25 < v26)) (hc71 : (0 : Int64) < v24) (hc73 : ¬ (v25 < (v24 + v26))) (hc99 : ¬ (v23 = (-1 : Int32))) (hc101 : ¬ (v27 < (0 : Int64))) (hc107 : v27 < v24) (hc109 : ¬ (v27 = (0 : Int64))) (hc111 : (v27 - (1 : Int64)) < v24) : False := by
  have dv18 : ((p3 &&& (1 : Int32)) = (0 : Int32) ∧ (v18 = (p2 &&& (2147483647 : Int32)))) ∨ (¬ ((p3 &&& (1 : Int32)) = (0 : Int32)) ∧ (v18 = (p2 &&& (7 : Int32)))) := (if cq0 : (p3 &&& (1 : Int32)) = (0 : Int32) then Or.inl ⟨cq0, (by rw [hv18, if_pos cq0])⟩ else Or.inr ⟨cq0, (by rw [hv18, if_neg cq0])⟩)
  clear hv18
  generalize hex1 : (p1 &&& (2147483647 : Int32)) = ex1 at *
  generalize hex2 : (p3 &&& (1 : Int32)) = ex2 at *
  generalize hex3 : (p2 &&& (7 : Int32)) = ex3 at *
  generalize hex4 : (p2 &&& (2147483647 : Int32)) = ex4 at *
  have fc5 := own_f1_cases p0 v15 v18
  generalize own_f1 p0 v15 v18 = ex5 at *
  have fc6 := own_f2_cases p0 (0 : Int32)
  generalize own_f2 p0 (0 : Int32) = ex6 at *
  have fc7 := own_f3_cases ex6 v15
  generalize own_f3 ex6 v15 = ex7 at *
  generalize hex8 : (v15 - v18) = ex8 at *
  generalize hex9 : (p0.toInt64) = ex9 at *
  generalize hex10 : (v15.toInt64) = ex10 at *
  generalize hex11 : (v18.toInt64) = ex11 at *
  generalize hex12 : (v23.toInt64) = ex12 at *
  generalize hex13 : (v24 + v26) = ex13 at *
  generalize hex14 : (v27 - (1 : Int64)) = ex14 at *
  try simp only [Int32.lt_iff_toInt_lt, Int64.lt_iff_toInt_lt, ← Int32.toInt_inj, ← Int64.toInt_inj, Int32.reduceToInt, Int64.reduceToInt, not_true_eq_false, not_false_eq_true, false_and, and_false, true_and, and_true, false_or, or_false, true_or, or_true] at dv18
  try simp only [Int32.lt_iff_toInt_lt, Int64.lt_iff_toInt_lt, ← Int32.toInt_inj, ← Int64.toInt_inj, Int32.reduceToInt, Int64.reduceToInt, not_true_eq_false, not_false_eq_true, false_and, and_false, true_and, and_true, false_or, or_false, true_or, or_true] at hv15
  try simp only [Int32.lt_iff_toInt_lt, Int64.lt_iff_toInt_lt, ← Int32.toInt_inj, ← Int64.toInt_inj, Int32.reduceToInt, Int64.reduceToInt, not_true_eq_false, not_false_eq_true, false_and, and_false, true_and, and_true, false_or, or_false, true_or, or_true] at hv23
  try simp only [Int32.lt_iff_toInt_lt, Int64.lt_iff_toInt_lt, ← Int32.toInt_inj, ← Int64.toInt_inj, Int32.reduceToInt, Int64.reduceToInt, not_true_eq_false, not_false_eq_true, false_and, and_false, true_and, and_true, false_or, or_false, true_or, or_true] at hv24
  try simp only [Int32.lt_iff_toInt_lt, Int64.lt_iff_toInt_lt, ← Int32.toInt_inj, ← Int64.toInt_inj, Int32.reduceToInt, Int64.reduceToInt, not_true_eq_false, not_false_eq_true, false_and, and_false, true_and, and_true, false_or, or_false, true_or, or_true] at hv25
  try simp only [Int32.lt_iff_toInt_lt, Int64.lt_iff_toInt_lt, ← Int32.toInt_inj, ← Int64.toInt_inj, Int32.reduceToInt, Int64.reduceToInt, not_true_eq_false, not_false_eq_true, false_and, and_false, true_and, and_true, false_or, or_false, true_or, or_true] at hv26
  try simp only [Int32.lt_iff_toInt_lt, Int64.lt_iff_toInt_lt, ← Int32.toInt_inj, ← Int64.toInt_inj, Int32.reduceToInt, Int64.reduceToInt, not_true_eq_false, not_false_eq_true, false_and, and_false, true_and, and_true, false_or, or_false, true_or, or_true] at hv27
  try simp only [Int32.lt_iff_toInt_lt, Int64.lt_iff_toInt_lt, ← Int32.toInt_inj, ← Int64.toInt_inj, Int32.reduceToInt, Int64.reduceToInt, not_true_eq_false, not_false_eq_true, false_and, and_false, true_and, and_true, false_or, or_false, true_or, or_true] at hc29
  try simp only [Int32.lt_iff_toInt_lt, Int64.lt_iff_toInt_lt, ← Int32.toInt_inj, ← Int64.toInt_inj, Int32.reduceToInt, Int64.reduceToInt, not_true_eq_false, not_false_eq_true, false_and, and_false, true_and, and_true, false_or, or_false, true_or, or_true] at hc45
  try simp only [Int32.lt_iff_toInt_lt, Int64.lt_iff_toInt_lt, ← Int32.toInt_inj, ← Int64.toInt_inj, Int32.reduceToInt, Int64.reduceToInt, not_true_eq_false, not_false_eq_true, false_and, and_false, true_and, and_true, false_or, or_false, true_or, or_true] at hc71
  try simp only [Int32.lt_iff_toInt_lt, Int64.lt_iff_toInt_lt, ← Int32.toInt_inj, ← Int64.toInt_inj, Int32.reduceToInt, Int64.reduceToInt, not_true_eq_false, not_false_eq_true, false_and, and_false, true_and, and_true, false_or, or_false, true_or, or_true] at hc73
  try simp only [Int32.lt_iff_toInt_lt, Int64.lt_iff_toInt_lt, ← Int32.toInt_inj, ← Int64.toInt_inj, Int32.reduceToInt, Int64.reduceToInt, not_true_eq_false, not_false_eq_true, false_and, and_false, true_and, and_true, false_or, or_false, true_or, or_true] at hc99
  try simp only [Int32.lt_iff_toInt_lt, Int64.lt_iff_toInt_lt, ← Int32.toInt_inj, ← Int64.toInt_inj, Int32.reduceToInt, Int64.reduceToInt, not_true_eq_false, not_false_eq_true, false_and, and_false, true_and, and_true, false_or, or_false, true_or, or_true] at hc101
  try simp only [Int32.lt_iff_toInt_lt, Int64.lt_iff_toInt_lt, ← Int32.toInt_inj, ← Int64.toInt_inj, Int32.reduceToInt, Int64.reduceToInt, not_true_eq_false, not_false_eq_true, false_and, and_false, true_and, and_true, false_or, or_false, true_or, or_true] at hc107
  try simp only [Int32.lt_iff_toInt_lt, Int64.lt_iff_toInt_lt, ← Int32.toInt_inj, ← Int64.toInt_inj, Int32.reduceToInt, Int64.reduceToInt, not_true_eq_false, not_false_eq_true, false_and, and_false, true_and, and_true, false_or, or_false, true_or, or_true] at hc109
  try simp only [Int32.lt_iff_toInt_lt, Int64.lt_iff_toInt_lt, ← Int32.toInt_inj, ← Int64.toInt_inj, Int32.reduceToInt, Int64.reduceToInt, not_true_eq_false, not_false_eq_true, false_and, and_false, true_and, and_true, false_or, or_false, true_or, or_true] at hc111
  have := Int32.le_toInt p0; have := Int32.toInt_lt p0
  have := Int32.le_toInt p1; have := Int32.toInt_lt p1
  have := Int32.le_toInt p2; have := Int32.toInt_lt p2
  have := Int32.le_toInt p3; have := Int32.toInt_lt p3
  have := Int32.le_toInt v15; have := Int32.toInt_lt v15
  have := Int32.le_toInt v18; have := Int32.toInt_lt v18
  have := Int32.le_toInt v23; have := Int32.toInt_lt v23
  have := Int64.le_toInt v24; have := Int64.toInt_lt v24
  have := Int64.le_toInt v25; have := Int64.toInt_lt v25
  have := Int64.le_toInt v26; have := Int64.toInt_lt v26
  have := Int64.le_toInt v27; have := Int64.toInt_lt v27
  have bl1 := Int32.le_toInt ex1; have bu1 := Int32.toInt_lt ex1
  have fa1 := c_mask p1 (2147483647 : Int32) 31 (by decide) (by decide); rw [hex1] at fa1; try simp only [Int32.reduceToInt, Int64.reduceToInt] at fa1
  clear hex1
  have bl2 := Int32.le_toInt ex2; have bu2 := Int32.toInt_lt ex2
  have fa2 := c_mask p3 (1 : Int32) 1 (by decide) (by decide); rw [hex2] at fa2; try simp only [Int32.reduceToInt, Int64.reduceToInt] at fa2
  clear hex2
  have bl3 := Int32.le_toInt ex3; have bu3 := Int32.toInt_lt ex3
  have fa3 := c_mask p2 (7 : Int32) 3 (by decide) (by decide); rw [hex3] at fa3; try simp only [Int32.reduceToInt, Int64.reduceToInt] at fa3
  clear hex3
  have bl4 := Int32.le_toInt ex4; have bu4 := Int32.toInt_lt ex4
  have fa4 := c_mask p2 (2147483647 : Int32) 31 (by decide) (by decide); rw [hex4] at fa4; try simp only [Int32.reduceToInt, Int64.reduceToInt] at fa4
  clear hex4
  try simp only [Int32.lt_iff_toInt_lt, Int64.lt_iff_toInt_lt, ← Int32.toInt_inj, ← Int64.toInt_inj, Int32.reduceToInt, Int64.reduceToInt, not_true_eq_false, not_false_eq_true, false_and, and_false, true_and, and_true, false_or, or_false, true_or, or_true] at fc5
  try simp only [Int32.lt_iff_toInt_lt, Int64.lt_iff_toInt_lt, ← Int32.toInt_inj, ← Int64.toInt_inj, Int32.reduceToInt, Int64.reduceToInt, not_true_eq_false, not_false_eq_true, false_and, and_false, true_and, and_true, false_or, or_false, true_or, or_true] at fc6
  try simp only [Int32.lt_iff_toInt_lt, Int64.lt_iff_toInt_lt, ← Int32.toInt_inj, ← Int64.toInt_inj, Int32.reduceToInt, Int64.reduceToInt, not_true_eq_false, not_false_eq_true, false_and, and_false, true_and, and_true, false_or, or_false, true_or, or_true] at fc7
  have bl8 := Int32.le_toInt ex8; have bu8 := Int32.toInt_lt ex8
  have fa8 := c_isub v15 v18; rw [hex8] at fa8; try simp only [Int32.reduceToInt, Int64.reduceToInt] at fa8
  clear hex8
  have bl9 := Int64.le_toInt ex9; have bu9 := Int64.toInt_lt ex9
  have fa9 := c_i2l p0; rw [hex9] at fa9; try simp only [Int32.reduceToInt, Int64.reduceToInt] at fa9
  clear hex9
  have bl10 := Int64.le_toInt ex10; have bu10 := Int64.toInt_lt ex10
  have fa10 := c_i2l v15; rw [hex10] at fa10; try simp only [Int32.reduceToInt, Int64.reduceToInt] at fa10
  clear hex10
  have bl11 := Int64.le_toInt ex11; have bu11 := Int64.toInt_lt ex11
  have fa11 := c_i2l v18; rw [hex11] at fa11; try simp only [Int32.reduceToInt, Int64.reduceToInt] at fa11
  clear hex11
  have bl12 := Int64.le_toInt ex12; have bu12 := Int64.toInt_lt ex12
  have fa12 := c_i2l v23; rw [hex12] at fa12; try simp only [Int32.reduceToInt, Int64.reduceToInt] at fa12
  clear hex12
  have bl13 := Int64.le_toInt ex13; have bu13 := Int64.toInt_lt ex13
  have fa13 := c_ladd v24 v26; rw [hex13] at fa13; try simp only [Int32.reduceToInt, Int64.reduceToInt] at fa13
  clear hex13
  have bl14 := Int64.le_toInt ex14; have bu14 := Int64.toInt_lt ex14
  have fa14 := c_lsub v27 (1 : Int64); rw [hex14] at fa14; try simp only [Int32.reduceToInt, Int64.reduceToInt] at fa14
  clear hex14
  all_goals omega
set_option maxRecDepth 65536 in
set_option maxHeartbeats 40000000 in
theorem own_leaf0_41 (p0 : Int32) (p1 : Int32) (p2 : Int32) (p3 : Int32) (v15 : Int32) (hv15 : v15 = (p1 &&& (2147483647 : Int32))) (v18 : Int32) (hv18 : v18 = (if (p3 &&& (1 : Int32)) = (0 : Int32) then (p2 &&& (2147483647 : Int32)) else (p2 &&& (7 : Int32)))) (v23 : Int32) (hv23 : v23 = (own_f1 p0 v15 v18)) (v24 : Int64) (hv24 : v24 = (p0.toInt64)) (v25 : Int64) (hv25 : v25 = (v15.toInt64)) (v26 : Int64) (hv26 : v26 = (v18.toInt64)) (v27 : Int64) (hv27 : v27 = (v23.toInt64)) (hc29 : ¬ (v18 = (0 : Int32))) (hc45 : ¬ (v25 < v26)) (hc71 : (0 : Int64) < v24) (hc73 : ¬ (v25 < (v24 + v26))) (hc99 : ¬ (v23 = (-1 : Int32))) (hc101 : ¬ (v27 < (0 : Int64))) (hc107 : v27 < v24) (hc109 : ¬ (v27 = (0 : Int64))) (hc111 : ¬ ((v27 - (1 : Int64)) < v24)) : False := by
  have dv18 : ((p3 &&& (1 : Int32)) = (0 : Int32) ∧ (v18 = (p2 &&& (2147483647 : Int32)))) ∨ (¬ ((p3 &&& (1 : Int32)) = (0 : Int32)) ∧ (v18 = (p2 &&& (7 : Int32)))) := (if cq0 : (p3 &&& (1 : Int32)) = (0 : Int32) then Or.inl ⟨cq0, (by rw [hv18, if_pos cq0])⟩ else Or.inr ⟨cq0, (by rw [hv18, if_neg cq0])⟩)
  clear hv18
  generalize hex1 : (p1 &&& (2147483647 : Int32)) = ex1 at *
  generalize hex2 : (p3 &&& (1 : Int32)) = ex2 at *
  generalize hex3 : (p2 &&& (7 : Int32)) = ex3 at *
  generalize hex4 : (p2 &&& (2147483647 : Int32)) = ex4 at *
  have fc5 := own_f1_cases p0 v15 v18
  generalize own_f1 p0 v15 v18 = ex5 at *
  have fc6 := own_f2_cases p0 (0 : Int32)
  generalize own_f2 p0 (0 : Int32) = ex6 at *
  have fc7 := own_f3_cases ex6 v15
  generalize own_f3 ex6 v15 = ex7 at *
  generalize hex8 : (v15 - v18) = ex8 at *
  generalize hex9 : (p0.toInt64) = ex9 at *
  generalize hex10 : (v15.toInt64) = ex10 at *
  generalize hex11 : (v18.toInt64) = ex11 at *
  generalize hex12 : (v23.toInt64) = ex12 at *
  generalize hex13 : (v24 + v26) = ex13 at *
  generalize hex14 : (v27 - (1 : Int64)) = ex14 at *
  try simp only [Int32.lt_iff_toInt_lt, Int64.lt_iff_toInt_lt, ← Int32.toInt_inj, ← Int64.toInt_inj, Int32.reduceToInt, Int64.reduceToInt, not_true_eq_false, not_false_eq_true, false_and, and_false, true_and, and_true, false_or, or_false, true_or, or_true] at dv18
  try simp only [Int32.lt_iff_toInt_lt, Int64.lt_iff_toInt_lt, ← Int32.toInt_inj, ← Int64.toInt_inj, Int32.reduceToInt, Int64.reduceToInt, not_true_eq_false, not_false_eq_true, false_and, and_false, true_and, and_true, false_or, or_false, true_or, or_true] at hv15
  try simp only [Int32.lt_iff_toInt_lt, Int64.lt_iff_toInt_lt, ← Int32.toInt_inj, ← Int64.toInt_inj, Int32.reduceToInt, Int64.reduceToInt, not_true_eq_false, not_false_eq_true, false_and, and_false, true_and, and_true, false_or, or_false, true_or, or_true] at hv23
  try simp only [Int32.lt_iff_toInt_lt, Int64.lt_iff_toInt_lt, ← Int32.toInt_inj, ← Int64.toInt_inj, Int32.reduceToInt, Int64.reduceToInt, not_true_eq_false, not_false_eq_true, false_and, and_false, true_and, and_true, false_or, or_false, true_or, or_true] at hv24
  try simp only [Int32.lt_iff_toInt_lt, Int64.lt_iff_toInt_lt, ← Int32.toInt_inj, ← Int64.toInt_inj, Int32.reduceToInt, Int64.reduceToInt, not_true_eq_false, not_false_eq_true, false_and, and_false, true_and, and_true, false_or, or_false, true_or, or_true] at hv25
  try simp only [Int32.lt_iff_toInt_lt, Int64.lt_iff_toInt_lt, ← Int32.toInt_inj, ← Int64.toInt_inj, Int32.reduceToInt, Int64.reduceToInt, not_true_eq_false, not_false_eq_true, false_and, and_false, true_and, and_true, false_or, or_false, true_or, or_true] at hv26
  try simp only [Int32.lt_iff_toInt_lt, Int64.lt_iff_toInt_lt, ← Int32.toInt_inj, ← Int64.toInt_inj, Int32.reduceToInt, Int64.reduceToInt, not_true_eq_false, not_false_eq_true, false_and, and_false, true_and, and_true, false_or, or_false, true_or, or_true] at hv27
  try simp only [Int32.lt_iff_toInt_lt, Int64.lt_iff_toInt_lt, ← Int32.toInt_inj, ← Int64.toInt_inj, Int32.reduceToInt, Int64.reduceToInt, not_true_eq_false, not_false_eq_true, false_and, and_false, true_and, and_true, false_or, or_false, true_or, or_true] at hc29
  try simp only [Int32.lt_iff_toInt_lt, Int64.lt_iff_toInt_lt, ← Int32.toInt_inj, ← Int64.toInt_inj, Int32.reduceToInt, Int64.reduceToInt, not_true_eq_false, not_false_eq_true, false_and, and_false, true_and, and_true, false_or, or_false, true_or, or_true] at hc45
  try simp only [Int32.lt_iff_toInt_lt, Int64.lt_iff_toInt_lt, ← Int32.toInt_inj, ← Int64.toInt_inj, Int32.reduceToInt, Int64.reduceToInt, not_true_eq_false, not_false_eq_true, false_and, and_false, true_and, and_true, false_or, or_false, true_or, or_true] at hc71
  try simp only [Int32.lt_iff_toInt_lt, Int64.lt_iff_toInt_lt, ← Int32.toInt_inj, ← Int64.toInt_inj, Int32.reduceToInt, Int64.reduceToInt, not_true_eq_false, not_false_eq_true, false_and, and_false, true_and, and_true, false_or, or_false, true_or, or_true] at hc73
  try simp only [Int32.lt_iff_toInt_lt, Int64.lt_iff_toInt_lt, ← Int32.toInt_inj, ← Int64.toInt_inj, Int32.reduceToInt, Int64.reduceToInt, not_true_eq_false, not_false_eq_true, false_and, and_false, true_and, and_true, false_or, or_false, true_or, or_true] at hc99
  try simp only [Int32.lt_iff_toInt_lt, Int64.lt_iff_toInt_lt, ← Int32.toInt_inj, ← Int64.toInt_inj, Int32.reduceToInt, Int64.reduceToInt, not_true_eq_false, not_false_eq_true, false_and, and_false, true_and, and_true, false_or, or_false, true_or, or_true] at hc101
  try simp only [Int32.lt_iff_toInt_lt, Int64.lt_iff_toInt_lt, ← Int32.toInt_inj, ← Int64.toInt_inj, Int32.reduceToInt, Int64.reduceToInt, not_true_eq_false, not_false_eq_true, false_and, and_false, true_and, and_true, false_or, or_false, true_or, or_true] at hc107
  try simp only [Int32.lt_iff_toInt_lt, Int64.lt_iff_toInt_lt, ← Int32.toInt_inj, ← Int64.toInt_inj, Int32.reduceToInt, Int64.reduceToInt, not_true_eq_false, not_false_eq_true, false_and, and_false, true_and, and_true, false_or, or_false, true_or, or_true] at hc109
  try simp only [Int32.lt_iff_toInt_lt, Int64.lt_iff_toInt_lt, ← Int32.toInt_inj, ← Int64.toInt_inj, Int32.reduceToInt, Int64.reduceToInt, not_true_eq_false, not_false_eq_true, false_and, and_false, true_and, and_true, false_or, or_false, true_or, or_true] at hc111
  have := Int32.le_toInt p0; have := Int32.toInt_lt p0
  have := Int32.le_toInt p1; have := Int32.toInt_lt p1
  have := Int32.le_toInt p2; have := Int32.toInt_lt p2
  have := Int32.le_toInt p3; have := Int32.toInt_lt p3
  have := Int32.le_toInt v15; have := Int32.toInt_lt v15
  have := Int32.le_toInt v18; have := Int32.toInt_lt v18
  have := Int32.le_toInt v23; have := Int32.toInt_lt v23
  have := Int64.le_toInt v24; have := Int64.toInt_lt v24
  have := Int64.le_toInt v25; have := Int64.toInt_lt v25
  have := Int64.le_toInt v26; have := Int64.toInt_lt v26
  have := Int64.le_toInt v27; have := Int64.toInt_lt v27
  have bl1 := Int32.le_toInt ex1; have bu1 := Int32.toInt_lt ex1
  have fa1 := c_mask p1 (2147483647 : Int32) 31 (by decide) (by decide); rw [hex1] at fa1; try simp only [Int32.reduceToInt, Int64.reduceToInt] at fa1
  clear hex1
  have bl2 := Int32.le_toInt ex2; have bu2 := Int32.toInt_lt ex2
  have fa2 := c_mask p3 (1 : Int32) 1 (by decide) (by decide); rw [hex2] at fa2; try simp only [Int32.reduceToInt, Int64.reduceToInt] at fa2
  clear hex2
  have bl3 := Int32.le_toInt ex3; have bu3 := Int32.toInt_lt ex3
  have fa3 := c_mask p2 (7 : Int32) 3 (by decide) (by decide); rw [hex3] at fa3; try simp only [Int32.reduceToInt, Int64.reduceToInt] at fa3
  clear hex3
  have bl4 := Int32.le_toInt ex4; have bu4 := Int32.toInt_lt ex4
  have fa4 := c_mask p2 (2147483647 : Int32) 31 (by decide) (by decide); rw [hex4] at fa4; try simp only [Int32.reduceToInt, Int64.reduceToInt] at fa4
  clear hex4
  try simp only [Int32.lt_iff_toInt_lt, Int64.lt_iff_toInt_lt, ← Int32.toInt_inj, ← Int64.toInt_inj, Int32.reduceToInt, Int64.reduceToInt, not_true_eq_false, not_false_eq_true, false_and, and_false, true_and, and_true, false_or, or_false, true_or, or_true] at fc5
  try simp only [Int32.lt_iff_toInt_lt, Int64.lt_iff_toInt_lt, ← Int32.toInt_inj, ← Int64.toInt_inj, Int32.reduceToInt, Int64.reduceToInt, not_true_eq_false, not_false_eq_true, false_and, and_false, true_and, and_true, false_or, or_false, true_or, or_true] at fc6
  try simp only [Int32.lt_iff_toInt_lt, Int64.lt_iff_toInt_lt, ← Int32.toInt_inj, ← Int64.toInt_inj, Int32.reduceToInt, Int64.reduceToInt, not_true_eq_false, not_false_eq_true, false_and, and_false, true_and, and_true, false_or, or_false, true_or, or_true] at fc7
  have bl8 := Int32.le_toInt ex8; have bu8 := Int32.toInt_lt ex8
  have fa8 := c_isub v15 v18; rw [hex8] at fa8; try simp only [Int32.reduceToInt, Int64.reduceToInt] at fa8
  clear hex8
  have bl9 := Int64.le_toInt ex9; have bu9 := Int64.toInt_lt ex9
  have fa9 := c_i2l p0; rw [hex9] at fa9; try simp only [Int32.reduceToInt, Int64.reduceToInt] at fa9
  clear hex9
  have bl10 := Int64.le_toInt ex10; have bu10 := Int64.toInt_lt ex10
  have fa10 := c_i2l v15; rw [hex10] at fa10; try simp only [Int32.reduceToInt, Int64.reduceToInt] at fa10
  clear hex10
  have bl11 := Int64.le_toInt ex11; have bu11 := Int64.toInt_lt ex11
  have fa11 := c_i2l v18; rw [hex11] at fa11; try simp only [Int32.reduceToInt, Int64.reduceToInt] at fa11
  clear hex11
  have bl12 := Int64.le_toInt ex12; have bu12 := Int64.toInt_lt ex12
  have fa12 := c_i2l v23; rw [hex12] at fa12; try simp only [Int32.reduceToInt, Int64.reduceToInt] at fa12
  clear hex12
  have bl13 := Int64.le_toInt ex13; have bu13 := Int64.toInt_lt ex13
  have fa13 := c_ladd v24 v26; rw [hex13] at fa13; try simp only [Int32.reduceToInt, Int64.reduceToInt] at fa13
  clear hex13
  have bl14 := Int64.le_toInt ex14; have bu14 := Int64.toInt_lt ex14
  have fa14 := c_lsub v27 (1 : Int64); rw [hex14] at fa14; try simp only [Int32.reduceToInt, Int64.reduceToInt] at fa14
  clear hex14
  all_goals omega
set_option maxRecDepth 65536 in
set_option maxHeartbeats 40000000 in
theorem own_leaf0_42 (p0 : Int32) (p1 : Int32) (p2 : Int32) (p3 : Int32) (v15 : Int32) (hv15 : v15 = (p1 &&& (2147483647 : Int32))) (v18 : Int32) (hv18 : v18 = (if (p3 &&& (1 : Int32)) = (0 : Int32) then (p2 &&& (2147483647 : Int32)) else (p2 &&& (7 : Int32)))) (v23 : Int32) (hv23 : v23 = (own_f1 p0 v15 v18)) (v24 : Int64) (hv24 : v24 = (p0.toInt64)) (v25 : Int64) (hv25 : v25 = (v15.toInt64)) (v26 : Int64) (hv26 : v26 = (v18.toInt64)) (v27 : Int64) (hv27 : v27 = (v23.toInt64)) (hc29 : ¬ (v18 = (0 : Int32))) (hc45 : ¬ (v25 < v26)) (hc71 : (0 : Int64) < v24) (hc73 : ¬ (v25 < (v24 + v26))) (hc99 : ¬ (v23 = (-1 : Int32))) (hc101 : ¬ (v27 < (0 : Int64))) (hc107 : ¬ (v27 < v24)) (hc113 : v25 < (v27 + v26)) (hc115 : v27 = (0 : Int64)) : False := by
  have dv18 : ((p3 &&& (1 : Int32)) = (0 : Int32) ∧ (v18 = (p2 &&& (2147483647 : Int32)))) ∨ (¬ ((p3 &&& (1 : Int32)) = (0 : Int32)) ∧ (v18 = (p2 &&& (7 : Int32)))) := (if cq0 : (p3 &&& (1 : Int32)) = (0 : Int32) then Or.inl ⟨cq0, (by rw [hv18, if_pos cq0])⟩ else Or.inr ⟨cq0, (by rw [hv18, if_neg cq0])⟩)
  clear hv18
  generalize hex1 : (p1 &&& (2147483647 : Int32)) = ex1 at *
  generalize hex2 : (p3 &&& (1 : Int32)) = ex2 at *
  generalize hex3 : (p2 &&& (7 : Int32)) = ex3 at *
  generalize hex4 : (p2 &&& (2147483647 : Int32)) = ex4 at *
  have fc5 := own_f1_cases p0 v15 v18
  generalize own_f1 p0 v15 v18 = ex5 at *
  have fc6 := own_f2_cases p0 (0 : Int32)
  generalize own_f2 p0 (0 : Int32) = ex6 at *
  have fc7 := own_f3_cases ex6 v15
  generalize own_f3 ex6 v15 = ex7 at *
  generalize hex8 : (v15 - v18) = ex8 at *
  generalize hex9 : (p0.toInt64) = ex9 at *
  generalize hex10 : (v15.toInt64) = ex10 at *
  generalize hex11 : (v18.toInt64) = ex11 at *
  generalize hex12 : (v23.toInt64) = ex12 at *
  generalize hex13 : (v24 + v26) = ex13 at *
  generalize hex14 : (v27 + v26) = ex14 at *
  try simp only [Int32.lt_iff_toInt_lt, Int64.lt_iff_toInt_lt, ← Int32.toInt_inj, ← Int64.toInt_inj, Int32.reduceToInt, Int64.reduceToInt, not_true_eq_false, not_false_eq_true, false_and, and_false, true_and, and_true, false_or, or_false, true_or, or_true] at dv18
  try simp only [Int32.lt_iff_toInt_lt, Int64.lt_iff_toInt_lt, ← Int32.toInt_inj, ← Int64.toInt_inj, Int32.reduceToInt, Int64.reduceToInt, not_true_eq_false, not_false_eq_true, false_and, and_false, true_and, and_true, false_or, or_false, true_or, or_true] at hv15
  try simp only [Int32.lt_iff_toInt_lt, Int64.lt_iff_toInt_lt, ← Int32.toInt_inj, ← Int64.toInt_inj, Int32.reduceToInt, Int64.reduceToInt, not_true_eq_false, not_false_eq_true, false_and, and_false, true_and, and_true, false_or, or_false, true_or, or_true] at hv23
  try simp only [Int32.lt_iff_toInt_lt, Int64.lt_iff_toInt_lt, ← Int32.toInt_inj, ← Int64.toInt_inj, Int32.reduceToInt, Int64.reduceToInt, not_true_eq_false, not_false_eq_true, false_and, and_false, true_and, and_true, false_or, or_false, true_or, or_true] at hv24
  try simp only [Int32.lt_iff_toInt_lt, Int64.lt_iff_toInt_lt, ← Int32.toInt_inj, ← Int64.toInt_inj, Int32.reduceToInt, Int64.reduceToInt, not_true_eq_false, not_false_eq_true, false_and, and_false, true_and, and_true, false_or, or_false, true_or, or_true] at hv25
  try simp only [Int32.lt_iff_toInt_lt, Int64.lt_iff_toInt_lt, ← Int32.toInt_inj, ← Int64.toInt_inj, Int32.reduceToInt, Int64.reduceToInt, not_true_eq_false, not_false_eq_true, false_and, and_false, true_and, and_true, false_or, or_false, true_or, or_true] at hv26
  try simp only [Int32.lt_iff_toInt_lt, Int64.lt_iff_toInt_lt, ← Int32.toInt_inj, ← Int64.toInt_inj, Int32.reduceToInt, Int64.reduceToInt, not_true_eq_false, not_false_eq_true, false_and, and_false, true_and, and_true, false_or, or_false, true_or, or_true] at hv27
  try simp only [Int32.lt_iff_toInt_lt, Int64.lt_iff_toInt_lt, ← Int32.toInt_inj, ← Int64.toInt_inj, Int32.reduceToInt, Int64.reduceToInt, not_true_eq_false, not_false_eq_true, false_and, and_false, true_and, and_true, false_or, or_false, true_or, or_true] at hc29
  try simp only [Int32.lt_iff_toInt_lt, Int64.lt_iff_toInt_lt, ← Int32.toInt_inj, ← Int64.toInt_inj, Int32.reduceToInt, Int64.reduceToInt, not_true_eq_false, not_false_eq_true, false_and, and_false, true_and, and_true, false_or, or_false, true_or, or_true] at hc45
  try simp only [Int32.lt_iff_toInt_lt, Int64.lt_iff_toInt_lt, ← Int32.toInt_inj, ← Int64.toInt_inj, Int32.reduceToInt, Int64.reduceToInt, not_true_eq_false, not_false_eq_true, false_and, and_false, true_and, and_true, false_or, or_false, true_or, or_true] at hc71
  try simp only [Int32.lt_iff_toInt_lt, Int64.lt_iff_toInt_lt, ← Int32.toInt_inj, ← Int64.toInt_inj, Int32.reduceToInt, Int64.reduceToInt, not_true_eq_false, not_false_eq_true, false_and, and_false, true_and, and_true, false_or, or_false, true_or, or_true] at hc73
  try simp only [Int32.lt_iff_toInt_lt, Int64.lt_iff_toInt_lt, ← Int32.toInt_inj, ← Int64.toInt_inj, Int32.reduceToInt, Int64.reduceToInt, not_true_eq_false, not_false_eq_true, false_and, and_false, true_and, and_true, false_or, or_false, true_or, or_true] at hc99
  try simp only [Int32.lt_iff_toInt_lt, Int64.lt_iff_toInt_lt, ← Int32.toInt_inj, ← Int64.toInt_inj, Int32.reduceToInt, Int64.reduceToInt, not_true_eq_false, not_false_eq_true, false_and, and_false, true_and, and_true, false_or, or_false, true_or, or_true] at hc101
  try simp only [Int32.lt_iff_toInt_lt, Int64.lt_iff_toInt_lt, ← Int32.toInt_inj, ← Int64.toInt_inj, Int32.reduceToInt, Int64.reduceToInt, not_true_eq_false, not_false_eq_true, false_and, and_false, true_and, and_true, false_or, or_false, true_or, or_true] at hc107
  try simp only [Int32.lt_iff_toInt_lt, Int64.lt_iff_toInt_lt, ← Int32.toInt_inj, ← Int64.toInt_inj, Int32.reduceToInt, Int64.reduceToInt, not_true_eq_false, not_false_eq_true, false_and, and_false, true_and, and_true, false_or, or_false, true_or, or_true] at hc113
  try simp only [Int32.lt_iff_toInt_lt, Int64.lt_iff_toInt_lt, ← Int32.toInt_inj, ← Int64.toInt_inj, Int32.reduceToInt, Int64.reduceToInt, not_true_eq_false, not_false_eq_true, false_and, and_false, true_and, and_true, false_or, or_false, true_or, or_true] at hc115
  have := Int32.le_toInt p0; have := Int32.toInt_lt p0
  have := Int32.le_toInt p1; have := Int32.toInt_lt p1
  have := Int32.le_toInt p2; have := Int32.toInt_lt p2
  have := Int32.le_toInt p3; have := Int32.toInt_lt p3
  have := Int32.le_toInt v15; have := Int32.toInt_lt v15
  have := Int32.le_toInt v18; have := Int32.toInt_lt v18
  have := Int32.le_toInt v23; have := Int32.toInt_lt v23
  have := Int64.le_toInt v24; have := Int64.toInt_lt v24
  have := Int64.le_toInt v25; have := Int64.toInt_lt v25
  have := Int64.le_toInt v26; have := Int64.toInt_lt v26
  have := Int64.le_toInt v27; have := Int64.toInt_lt v27
  have bl1 := Int32.le_toInt ex1; have bu1 := Int32.toInt_lt ex1
  have fa1 := c_mask p1 (2147483647 : Int32) 31 (by decide) (by decide); rw [hex1] at fa1; try simp only [Int32.reduceToInt, Int64.reduceToInt] at fa1
  clear hex1
  have bl2 := Int32.le_toInt ex2; have bu2 := Int32.toInt_lt ex2
  have fa2 := c_mask p3 (1 : Int32) 1 (by decide) (by decide); rw [hex2] at fa2; try simp only [Int32.reduceToInt, Int64.reduceToInt] at fa2
  clear hex2
  have bl3 := Int32.le_toInt ex3; have bu3 := Int32.toInt_lt ex3
  have fa3 := c_mask p2 (7 : Int32) 3 (by decide) (by decide); rw [hex3] at fa3; try simp only [Int32.reduceToInt, Int64.reduceToInt] at fa3
  clear hex3
  have bl4 := Int32.le_toInt ex4; have bu4 := Int32.toInt_lt ex4
  have fa4 := c_mask p2 (2147483647 : Int32) 31 (by decide) (by decide); rw [hex4] at fa4; try simp only [Int32.reduceToInt, Int64.reduceToInt] at fa4
  clear hex4
  try simp only [Int32.lt_iff_toInt_lt, Int64.lt_iff_toInt_lt, ← Int32.toInt_inj, ← Int64.toInt_inj, Int32.reduceToInt, Int64.reduceToInt, not_true_eq_false, not_false_eq_true, false_and, and_false, true_and, and_true, false_or, or_false, true_or, or_true] at fc5
  try simp only [Int32.lt_iff_toInt_lt, Int64.lt_iff_toInt_lt, ← Int32.toInt_inj, ← Int64.toInt_inj, Int32.reduceToInt, Int64.reduceToInt, not_true_eq_false, not_false_eq_true, false_and, and_false, true_and, and_true, false_or, or_false, true_or, or_true] at fc6
  try simp only [Int32.lt_iff_toInt_lt, Int64.lt_iff_toInt_lt, ← Int32.toInt_inj, ← Int64.toInt_inj, Int32.reduceToInt, Int64.reduceToInt, not_true_eq_false, not_false_eq_true, false_and, and_false, true_and, and_true, false_or, or_false, true_or, or_true] at fc7
  have bl8 := Int32.le_toInt ex8; have bu8 := Int32.toInt_lt ex8
  have fa8 := c_isub v15 v18; rw [hex8] at fa8; try simp only [Int32.reduceToInt, Int64.reduceToInt] at fa8
  clear hex8
  have bl9 := Int64.le_toInt ex9; have bu9 := Int64.toInt_lt ex9
  have fa9 := c_i2l p0; rw [hex9] at fa9; try simp only [Int32.reduceToInt, Int64.reduceToInt] at fa9
  clear hex9
  have bl10 := Int64.le_toInt ex10; have bu10 := Int64.toInt_lt ex10
  have fa10 := c_i2l v15; rw [hex10] at fa10; try simp only [Int32.reduceToInt, Int64.reduceToInt] at fa10
  clear hex10
  have bl11 := Int64.le_toInt ex11; have bu11 := Int64.toInt_lt ex11
  have fa11 := c_i2l v18; rw [hex11] at fa11; try simp only [Int32.reduceToInt, Int64.reduceToInt] at fa11
  clear hex11
  have bl12 := Int64.le_toInt ex12; have bu12 := Int64.toInt_lt ex12
  have fa12 := c_i2l v23; rw [hex12] at fa12; try simp only [Int32.reduceToInt, Int64.reduceToInt] at fa12
  clear hex12
  have bl13 := Int64.le_toInt ex13; have bu13 := Int64.toInt_lt ex13
  have fa13 := c_ladd v24 v26; rw [hex13] at fa13; try simp only [Int32.reduceToInt, Int64.reduceToInt] at fa13
  clear hex13
  have bl14 := Int64.le_toInt ex14; have bu14 := Int64.toInt_lt ex14
  have fa14 := c_ladd v27 v26; rw [hex14] at fa14; try simp only [Int32.reduceToInt, Int64.reduceToInt] at fa14
  clear hex14
  all_goals omega
set_option maxRecDepth 65536 in
set_option maxHeartbeats 40000000 in
theorem own_leaf0_43 (p0 : Int32) (p1 : Int32) (p2 : Int32) (p3 : Int32) (v15 : Int32) (hv15 : v15 = (p1 &&& (2147483647 : Int32))) (v18 : Int32) (hv18 : v18 = (if (p3 &&& (1 : Int32)) = (0 : Int32) then (p2 &&& (2147483647 : Int32)) else (p2 &&& (7 : Int32)))) (v23 : Int32) (hv23 : v23 = (own_f1 p0 v15 v18)) (v24 : Int64) (hv24 : v24 = (p0.toInt64)) (v25 : Int64) (hv25 : v25 = (v15.toInt64)) (v26 : Int64) (hv26 : v26 = (v18.toInt64)) (v27 : Int64) (hv27 : v27 = (v23.toInt64)) (hc29 : ¬ (v18 = (0 : Int32))) (hc45 : ¬ (v25 < v26)) (hc71 : (0 : Int64) < v24) (hc73 : ¬ (v25 < (v24 + v26))) (hc99 : ¬ (v23 = (-1 : Int32))) (hc101 : ¬ (v27 < (0 : Int64))) (hc107 : ¬ (v27 < v24)) (hc113 : v25 < (v27 + v26)) (hc115 : ¬ (v27 = (0 : Int64))) (hc117 : (v27 - (1 : Int64)) < v24) : False := by
  have dv18 : ((p3 &&& (1 : Int32)) = (0 : Int32) ∧ (v18 = (p2 &&& (2147483647 : Int32)))) ∨ (¬ ((p3 &&& (1 : Int32)) = (0 : Int32)) ∧ (v18 = (p2 &&& (7 : Int32)))) := (if cq0 : (p3 &&& (1 : Int32)) = (0 : Int32) then Or.inl ⟨cq0, (by rw [hv18, if_pos cq0])⟩ else Or.inr ⟨cq0, (by rw [hv18, if_neg cq0])⟩)
  clear hv18
  generalize hex1 : (p1 &&& (2147483647 : Int32)) = ex1 at *
  generalize hex2 : (p3 &&& (1 : Int32)) = ex2 at *
  generalize hex3 : (p2 &&& (7 : Int32)) = ex3 at *
  generalize hex4 : (p2 &&& (2147483647 : Int32)) = ex4 at *
  have fc5 := own_f1_cases p0 v15 v18
  generalize own_f1 p0 v15 v18 = ex5 at *
  have fc6 := own_f2_cases p0 (0 : Int32)
  generalize own_f2 p0 (0 : Int32) = ex6 at *
  have fc7 := own_f3_cases ex6 v15
  generalize own_f3 ex6 v15 = ex7 at *
  generalize hex8 : (v15 - v18) = ex8 at *
  generalize hex9 : (p0.toInt64) = ex9 at *
  generalize hex10 : (v15.toInt64) = ex10 at *
  generalize hex11 : (v18.toInt64) = ex11 at *
  generalize hex12 : (v23.toInt64) = ex12 at *
  generalize hex13 : (v24 + v26) = ex13 at *
  generalize hex14 : (v27 + v26) = ex14 at *
  generalize hex15 : (v27 - (1 : Int64)) = ex15 at *
  try simp only [Int32.lt_iff_toInt_lt, Int64.lt_iff_toInt_lt, ← Int32.toInt_inj, ← Int64.toInt_inj, Int32.reduceToInt, Int64.reduceToInt, not_true_eq_false, not_false_eq_true, false_and, and_false, true_and, and_true, false_or, or_false, true_or, or_true] at dv18
  try simp only [Int32.lt_iff_toInt_lt, Int64.lt_iff_toInt_lt, ← Int32.toInt_inj, ← Int64.toInt_inj, Int32.reduceToInt, Int64.reduceToInt, not_true_eq_false, not_false_eq_true, false_and, and_false, true_and, and_true, false_or, or_false, true_or, or_true] at hv15
  try simp only [Int32.lt_iff_toInt_lt, Int64.lt_iff_toInt_lt, ← Int32.toInt_inj, ← Int64.toInt_inj, Int32.reduceToInt, Int64.reduceToInt, not_true_eq_false, not_false_eq_true, false_and, and_false, true_and, and_true, false_or, or_false, true_or, or_true] at hv23
  try simp only [Int32.lt_iff_toInt_lt, Int64.lt_iff_toInt_lt, ← Int32.toInt_inj, ← Int64.toInt_inj, Int32.reduceToInt, Int64.reduceToInt, not_true_eq_false, not_false_eq_true, false_and, and_false, true_and, and_true, false_or, or_false, true_or, or_true] at hv24
  try simp only [Int32.lt_iff_toInt_lt, Int64.lt_iff_toInt_lt, ← Int32.toInt_inj, ← Int64.toInt_inj, Int32.reduceToInt, Int64.reduceToInt, not_true_eq_false, not_false_eq_true, false_and, and_false, true_and, and_true, false_or, or_false, true_or, or_true] at hv25
  try simp only [Int32.lt_iff_toInt_lt, Int64.lt_iff_toInt_lt, ← Int32.toInt_inj, ← Int64.toInt_inj, Int32.reduceToInt, Int64.reduceToInt, not_true_eq_false, not_false_eq_true, false_and, and_false, true_and, and_true, false_or, or_false, true_or, or_true] at hv26
  try simp only [Int32.lt_iff_toInt_lt, Int64.lt_iff_toInt_lt, ← Int32.toInt_inj, ← Int64.toInt_inj, Int32.reduceToInt, Int64.reduceToInt, not_true_eq_false, not_false_eq_true, false_and, and_false, true_and, and_true, false_or, or_false, true_or, or_true] at hv27
  try simp only [Int32.lt_iff_toInt_lt, Int64.lt_iff_toInt_lt, ← Int32.toInt_inj, ← Int64.toInt_inj, Int32.reduceToInt, Int64.reduceToInt, not_true_eq_false, not_false_eq_true, false_and, and_false, true_and, and_true, false_or, or_false, true_or, or_true] at hc29
  try simp only [Int32.lt_iff_toInt_lt, Int64.lt_iff_toInt_lt, ← Int32.toInt_inj, ← Int64.toInt_inj, Int32.reduceToInt, Int64.reduceToInt, not_true_eq_false, not_false_eq_true, false_and, and_false, true_and, and_true, false_or, or_false, true_or, or_true] at hc45
  try simp only [Int32.lt_iff_toInt_lt, Int64.lt_iff_toInt_lt, ← Int32.toInt_inj, ← Int64.toInt_inj, Int32.reduceToInt, Int64.reduceToInt, not_true_eq_false, not_false_eq_true, false_and, and_false, true_and, and_true, false_or, or_false, true_or, or_true] at hc71
  try simp only [Int32.lt_iff_toInt_lt, Int64.lt_iff_toInt_lt, ← Int32.toInt_inj, ← Int64.toInt_inj, Int32.reduceToInt, Int64.reduceToInt, not_true_eq_false, not_false_eq_true, false_and, and_false, true_and, and_true, false_or, or_false, true_or, or_true] at hc73
  try simp only [Int32.lt_iff_toInt_lt, Int64.lt_iff_toInt_lt, ← Int32.toInt_inj, ← Int64.toInt_inj, Int32.reduceToInt, Int64.reduceToInt, not_true_eq_false, not_false_eq_true, false_and, and_false, true_and, and_true, false_or, or_false, true_or, or_true] at hc99
  try simp only [Int32.lt_iff_toInt_lt, Int64.lt_iff_toInt_lt, ← Int32.toInt_inj, ← Int64.toInt_inj, Int32.reduceToInt, Int64.reduceToInt, not_true_eq_false, not_false_eq_true, false_and, and_false, true_and, and_true, false_or, or_false, true_or, or_true] at hc101
  try simp only [Int32.lt_iff_toInt_lt, Int64.lt_iff_toInt_lt, ← Int32.toInt_inj, ← Int64.toInt_inj, Int32.reduceToInt, Int64.reduceToInt, not_true_eq_false, not_false_eq_true, false_and, and_false, true_and, and_true, false_or, or_false, true_or, or_true] at hc107
  try simp only [Int32.lt_iff_toInt_lt, Int64.lt_iff_toInt_lt, ← Int32.toInt_inj, ← Int64.toInt_inj, Int32.reduceToInt, Int64.reduceToInt, not_true_eq_false, not_false_eq_true, false_and, and_false, true_and, and_true, false_or, or_false, true_or, or_true] at hc113
  try simp only [Int32.lt_iff_toInt_lt, Int64.lt_iff_toInt_lt, ← Int32.toInt_inj, ← Int64.toInt_inj, Int32.reduceToInt, Int64.reduceToInt, not_true_eq_false, not_false_eq_true, false_and, and_false, true_and, and_true, false_or, or_false, true_or, or_true] at hc115
  try simp only [Int32.lt_iff_toInt_lt, Int64.lt_iff_toInt_lt, ← Int32.toInt_inj, ← Int64.toInt_inj, Int32.reduceToInt, Int64.reduceToInt, not_true_eq_false, not_false_eq_true, false_and, and_false, true_and, and_true, false_or, or_false, true_or, or_true] at hc117
  have := Int32.le_toInt p0; have := Int32.toInt_lt p0
  have := Int32.le_toInt p1; have := Int32.toInt_lt p1
  have := Int32.le_toInt p2; have := Int32.toInt_lt p2
  have := Int32.le_toInt p3; have := Int32.toInt_lt p3
  have := Int32.le_toInt v15; have := Int32.toInt_lt v15
  have := Int32.le_toInt v18; have := Int32.toInt_lt v18
  have := Int32.le_toInt v23; have := Int32.toInt_lt v23
  have := Int64.le_toInt v24; have := Int64.toInt_lt v24
  have := Int64.le_toInt v25; have := Int64.toInt_lt v25
  have := Int64.le_toInt v26; have := Int64.toInt_lt v26
  have := Int64.le_toInt v27; have := Int64.toInt_lt v27
  have bl1 := Int32.le_toInt ex1; have bu1 := Int32.toInt_lt ex1
  have fa1 := c_mask p1 (2147483647 : Int32) 31 (by decide) (by decide); rw [hex1] at fa1; try simp only [Int32.reduceToInt, Int64.reduceToInt] at fa1
  clear hex1
  have bl2 := Int32.le_toInt ex2; have bu2 := Int32.toInt_lt ex2
  have fa2 := c_mask p3 (1 : Int32) 1 (by decide) (by decide); rw [hex2] at fa2; try simp only [Int32.reduceToInt, Int64.reduceToInt] at fa2
  clear hex2
  have bl3 := Int32.le_toInt ex3; have bu3 := Int32.toInt_lt ex3
  have fa3 := c_mask p2 (7 : Int32) 3 (by decide) (by decide); rw [hex3] at fa3; try simp only [Int32.reduceToInt, Int64.reduceToInt] at fa3
  clear hex3
  have bl4 := Int32.le_toInt ex4; have bu4 := Int32.toInt_lt ex4
  have fa4 := c_mask p2 (2147483647 : Int32) 31 (by decide) (by decide); rw [hex4] at fa4; try simp only [Int32.reduceToInt, Int64.reduceToInt] at fa4
  clear hex4
  try simp only [Int32.lt_iff_toInt_lt, Int64.lt_iff_toInt_lt, ← Int32.toInt_inj, ← Int64.toInt_inj, Int32.reduceToInt, Int64.reduceToInt, not_true_eq_false, not_false_eq_true, false_and, and_false, true_and, and_true, false_or, or_false, true_or, or_true] at fc5
  try simp only [Int32.lt_iff_toInt_lt, Int64.lt_iff_toInt_lt, ← Int32.toInt_inj, ← Int64.toInt_inj, Int32.reduceToInt, Int64.reduceToInt, not_true_eq_false, not_false_eq_true, false_and, and_false, true_and, and_true, false_or, or_false, true_or, or_true] at fc6
  try simp only [Int32.lt_iff_toInt_lt, Int64.lt_iff_toInt_lt, ← Int32.toInt_inj, ← Int64.toInt_inj, Int32.reduceToInt, Int64.reduceToInt, not_true_eq_false, not_false_eq_true, false_and, and_false, true_and, and_true, false_or, or_false, true_or, or_true] at fc7
  have bl8 := Int32.le_toInt ex8; have bu8 := Int32.toInt_lt ex8
  have fa8 := c_isub v15 v18; rw [hex8] at fa8; try simp only [Int32.reduceToInt, Int64.reduceToInt] at fa8
  clear hex8
  have bl9 := Int64.le_toInt ex9; have bu9 := Int64.toInt_lt ex9
  have fa9 := c_i2l p0; rw [hex9] at fa9; try simp only [Int32.reduceToInt, Int64.reduceToInt] at fa9
  clear hex9
  have bl10 := Int64.le_toInt ex10; have bu10 := Int64.toInt_lt ex10
  have fa10 := c_i2l v15; rw [hex10] at fa10; try simp only [Int32.reduceToInt, Int64.reduceToInt] at fa10
  clear hex10
  have bl11 := Int64.le_toInt ex11; have bu11 := Int64.toInt_lt ex11
  have fa11 := c_i2l v18; rw [hex11] at fa11; try simp only [Int32.reduceToInt, Int64.reduceToInt] at fa11
  clear hex11
  have bl12 := Int64.le_toInt ex12; have bu12 := Int64.toInt_lt ex12
  have fa12 := c_i2l v23; rw [hex12] at fa12; try simp only [Int32.reduceToInt, Int64.reduceToInt] at fa12
  clear hex12
  have bl13 := Int64.le_toInt ex13; have bu13 := Int64.toInt_lt ex13
  have fa13 := c_ladd v24 v26; rw [hex13] at fa13; try simp only [Int32.reduceToInt, Int64.reduceToInt] at fa13
  clear hex13
  have bl14 := Int64.le_toInt ex14; have bu14 := Int64.toInt_lt ex14
  have fa14 := c_ladd v27 v26; rw [hex14] at fa14; try simp only [Int32.reduceToInt, Int64.reduceToInt] at fa14
  clear hex14
  have bl15 := Int64.le_toInt ex15; have bu15 := Int64.toInt_lt ex15
  have fa15 := c_lsub v27 (1 : Int64); rw [hex15] at fa15; try simp only [Int32.reduceToInt, Int64.reduceToInt] at fa15
  clear hex15
  all_goals omega
set_option maxRecDepth 65536 in
set_option maxHeartbeats 40000000 in
theorem own_leaf0_44 (p0 : Int32) (p1 : Int32) (p2 : Int32) (p3 : Int32) (v15 : Int32) (hv15 : v15 = (p1 &&& (2147483647 : Int32))) (v18 : Int32) (hv18 : v18 = (if (p3 &&& (1 : Int32)) = (0 : Int32) then (p2 &&& (2147483647 : Int32)) else (p2 &&& (7 : Int32)))) (v23 : Int32) (hv23 : v23 = (own_f1 p0 v15 v18)) (v24 : Int64) (hv24 : v24 = (p0.toInt64)) (v25 : Int64) (hv25 : v25 = (v15.toInt64)) (v26 : Int64) (hv26 : v26 = (v18.toInt64)) (v27 : Int64) (hv27 : v27 = (v23.toInt64)) (hc29 : ¬ (v18 = (0 : Int32))) (hc45 : ¬ (v25 < v26)) (hc71 : (0 : Int64) < v24) (hc73 : ¬ (v25 < (v24 + v26))) (hc99 : ¬ (v23 = (-1 : Int32))) (hc101 : ¬ (v27 < (0 : Int64))) (hc107 : ¬ (v27 < v24)) (hc113 : v25 < (v27 + v26)) (hc115 : ¬ (v27 = (0 : Int64))) (hc117 : ¬ ((v27 - (1 : Int64)) < v24)) : False := by
  have dv18 : ((p3 &&& (1 : Int32)) = (0 : Int32) ∧ (v18 = (p2 &&& (2147483647 : Int32)))) ∨ (¬ ((p3 &&& (1 : Int32)) = (0 : Int32)) ∧ (v18 = (p2 &&& (7 : Int32)))) := (if cq0 : (p3 &&& (1 : Int32)) = (0 : Int32) then Or.inl ⟨cq0, (by rw [hv18, if_pos cq0])⟩ else Or.inr ⟨cq0, (by rw [hv18, if_neg cq0])⟩)
  clear hv18
  generalize hex1 : (p1 &&& (2147483647 : Int32)) = ex1 at *
  generalize hex2 : (p3 &&& (1 : Int32)) = ex2 at *
  generalize hex3 : (p2 &&& (7 : Int32)) = ex3 at *
  generalize hex4 : (p2 &&& (2147483647 : Int32)) = ex4 at *
  have fc5 := own_f1_cases p0 v15 v18
  generalize own_f1 p0 v15 v18 = ex5 at *
  have fc6 := own_f2_cases p0 (0 : Int32)
  generalize own_f2 p0 (0 : Int32) = ex6 at *
  have fc7 := own_f3_cases ex6 v15
  generalize own_f3 ex6 v15 = ex7 at *
  generalize hex8 : (v15 - v18) = ex8 at *
  generalize hex9 : (p0.toInt64) = ex9 at *
  generalize hex10 : (v15.toInt64) = ex10 at *
  generalize hex11 : (v18.toInt64) = ex11 at *
  generalize hex12 : (v23.toInt64) = ex12 at *
  generalize hex13 : (v24 + v26) = ex13 at *
  generalize hex14 : (v27 + v26) = ex14 at *
  generalize hex15 : (v27 - (1 : Int64)) = ex15 at *
  try simp only [Int32.lt_iff_toInt_lt, Int64.lt_iff_toInt_lt, ← Int32.toInt_inj, ← Int64.toInt_inj, Int32.reduceToInt, Int64.reduceToInt, not_true_eq_false, not_false_eq_true, false_and, and_false, true_and, and_true, false_or, or_false, true_or, or_true] at dv18
  try simp only [Int32.lt_iff_toInt_lt, Int64.lt_iff_toInt_lt, ← Int32.toInt_inj, ← Int64.toInt_inj, Int32.reduceToInt, Int64.reduceToInt, not_true_eq_false, not_false_eq_true, false_and, and_false, true_and, and_true, false_or, or_false, true_or, or_true] at hv15
  try simp only [Int32.lt_iff_toInt_lt, Int64.lt_iff_toInt_lt, ← Int32.toInt_inj, ← Int64.toInt_inj, Int32.reduceToInt, Int64.reduceToInt, not_true_eq_false, not_false_eq_true, false_and, and_false, true_and, and_true, false_or, or_false, true_or, or_true] at hv23
  try simp only [Int32.lt_iff_toInt_lt, Int64.lt_iff_toInt_lt, ← Int32.toInt_inj, ← Int64.toInt_inj, Int32.reduceToInt, Int64.reduceToInt, not_true_eq_false, not_false_eq_true, false_and, and_false, true_and, and_true, false_or, or_false, true_or, or_true] at hv24
  try simp only [Int32.lt_iff_toInt_lt, Int64.lt_iff_toInt_lt, ← Int32.toInt_inj, ← Int64.toInt_inj, Int32.reduceToInt, Int64.reduceToInt, not_true_eq_false, not_false_eq_true, false_and, and_false, true_and, and_true, false_or, or_false, true_or, or_true] at hv25
  try simp only [Int32.lt_iff_toInt_lt, Int64.lt_iff_toInt_lt, ← Int32.toInt_inj, ← Int64.toInt_inj, Int32.reduceToInt, Int64.reduceToInt, not_true_eq_false, not_false_eq_true, false_and, and_false, true_and, and_true, false_or, or_false, true_or, or_true] at hv26
  try simp only [Int32.lt_iff_toInt_lt, Int64.lt_iff_toInt_lt, ← Int32.toInt_inj, ← Int64.toInt_inj, Int32.reduceToInt, Int64.reduceToInt, not_true_eq_false, not_false_eq_true, false_and, and_false, true_and, and_true, false_or, or_false, true_or, or_true] at hv27
  try simp only [Int32.lt_iff_toInt_lt, Int64.lt_iff_toInt_lt, ← Int32.toInt_inj, ← Int64.toInt_inj, Int32.reduceToInt, Int64.reduceToInt, not_true_eq_false, not_false_eq_true, false_and, and_false, true_and, and_true, false_or, or_false, true_or, or_true] at hc29
  try simp only [Int32.lt_iff_toInt_lt, Int64.lt_iff_toInt_lt, ← Int32.toInt_inj, ← Int64.toInt_inj, Int32.reduceToInt, Int64.reduceToInt, not_true_eq_false, not_false_eq_true, false_and, and_false, true_and, and_true, false_or, or_false, true_or, or_true] at hc45
  try simp only [Int32.lt_iff_toInt_lt, Int64.lt_iff_toInt_lt, ← Int32.toInt_inj, ← Int64.toInt_inj, Int32.reduceToInt, Int64.reduceToInt, not_true_eq_false, not_false_eq_true, false_and, and_false, true_and, and_true, false_or, or_false, true_or, or_true] at hc71
  try simp only [Int32.lt_iff_toInt_lt, Int64.lt_iff_toInt_lt, ← Int32.toInt_inj, ← Int64.toInt_inj, Int32.reduceToInt, Int64.reduceToInt, not_true_eq_false, not_false_eq_true, false_and, and_false, true_and, and_true, false_or, or_false, true_or, or_true] at hc73
  try simp only [Int32.lt_iff_toInt_lt, Int64.lt_iff_toInt_lt, ← Int32.toInt_inj, ← Int64.toInt_inj, Int32.reduceToInt, Int64.reduceToInt, not_true_eq_false, not_false_eq_true, false_and, and_false, true_and, and_true, false_or, or_false, true_or, or_true] at hc99
  try simp only [Int32.lt_iff_toInt_lt, Int64.lt_iff_toInt_lt, ← Int32.toInt_inj, ← Int64.toInt_inj, Int32.reduceToInt, Int64.reduceToInt, not_true_eq_false, not_false_eq_true, false_and, and_false, true_and, and_true, false_or, or_false, true_or, or_true] at hc101
  try simp only [Int32.lt_iff_toInt_lt, Int64.lt_iff_toInt_lt, ← Int32.toInt_inj, ← Int64.toInt_inj, Int32.reduceToInt, Int64.reduceToInt, not_true_eq_false, not_false_eq_true, false_and, and_false, true_and, and_true, false_or, or_false, true_or, or_true] at hc107
  try simp only [Int32.lt_iff_toInt_lt, Int64.lt_iff_toInt_lt, ← Int32.toInt_inj, ← Int64.toInt_inj, Int32.reduceToInt, Int64.reduceToInt, not_true_eq_false, not_false_eq_true, false_and, and_false, true_and, and_true, false_or, or_false, true_or, or_true] at hc113
  try simp only [Int32.lt_iff_toInt_lt, Int64.lt_iff_toInt_lt, ← Int32.toInt_inj, ← Int64.toInt_inj, Int32.reduceToInt, Int64.reduceToInt, not_true_eq_false, not_false_eq_true, false_and, and_false, true_and, and_true, false_or, or_false, true_or, or_true] at hc115
  try simp only [Int32.lt_iff_toInt_lt, Int64.lt_iff_toInt_lt, ← Int32.toInt_inj, ← Int64.toInt_inj, Int32.reduceToInt, Int64.reduceToInt, not_true_eq_false, not_false_eq_true, false_and, and_false, true_and, and_true, false_or, or_false, true_or, or_true] at hc117
  have := Int32.le_toInt p0; have := Int32.toInt_lt p0
  have := Int32.le_toInt p1; have := Int32.toInt_lt p1
  have := Int32.le_toInt p2; have := Int32.toInt_lt p2
  have := Int32.le_toInt p3; have := Int32.toInt_lt p3
  have := Int32.le_toInt v15; have := Int32.toInt_lt v15
  have := Int32.le_toInt v18; have := Int32.toInt_lt v18
  have := Int32.le_toInt v23; have := Int32.toInt_lt v23
  have := Int64.le_toInt v24; have := Int64.toInt_lt v24
  have := Int64.le_toInt v25; have := Int64.toInt_lt v25
  have := Int64.le_toInt v26; have := Int64.toInt_lt v26
  have := Int64.le_toInt v27; have := Int64.toInt_lt v27
  have bl1 := Int32.le_toInt ex1; have bu1 := Int32.toInt_lt ex1
  have fa1 := c_mask p1 (2147483647 : Int32) 31 (by decide) (by decide); rw [hex1] at fa1; try simp only [Int32.reduceToInt, Int64.reduceToInt] at fa1
  clear hex1
  have bl2 := Int32.le_toInt ex2; have bu2 := Int32.toInt_lt ex2
  have fa2 := c_mask p3 (1 : Int32) 1 (by decide) (by decide); rw [hex2] at fa2; try simp only [Int32.reduceToInt, Int64.reduceToInt] at fa2
  clear hex2
  have bl3 := Int32.le_toInt ex3; have bu3 := Int32.toInt_lt ex3
  have fa3 := c_mask p2 (7 : Int32) 3 (by decide) (by decide); rw [hex3] at fa3; try simp only [Int32.reduceToInt, Int64.reduceToInt] at fa3
  clear hex3
  have bl4 := Int32.le_toInt ex4; have bu4 := Int32.toInt_lt ex4
  have fa4 := c_mask p2 (2147483647 : Int32) 31 (by decide) (by decide); rw [hex4] at fa4; try simp only [Int32.reduceToInt, Int64.reduceToInt] at fa4
  clear hex4
  try simp only [Int32.lt_iff_toInt_lt, Int64.lt_iff_toInt_lt, ← Int32.toInt_inj, ← Int64.toInt_inj, Int32.reduceToInt, Int64.reduceToInt, not_true_eq_false, not_false_eq_true, false_and, and_false, true_and, and_true, false_or, or_false, true_or, or_true] at fc5
  try simp only [Int32.lt_iff_toInt_lt, Int64.lt_iff_toInt_lt, ← Int32.toInt_inj, ← Int64.toInt_inj, Int32.reduceToInt, Int64.reduceToInt, not_true_eq_false, not_false_eq_true, false_and, and_false, true_and, and_true, false_or, or_false, true_or, or_true] at fc6
  try simp only [Int32.lt_iff_toInt_lt, Int64.lt_iff_toInt_lt, ← Int32.toInt_inj, ← Int64.toInt_inj, Int32.reduceToInt, Int64.reduceToInt, not_true_eq_false, not_false_eq_true, false_and, and_false, true_and, and_true, false_or, or_false, true_or, or_true] at fc7
  have bl8 := Int32.le_toInt ex8; have bu8 := Int32.toInt_lt ex8
  have fa8 := c_isub v15 v18; rw [hex8] at fa8; try simp only [Int32.reduceToInt, Int64.reduceToInt] at fa8
  clear hex8
  have bl9 := Int64.le_toInt ex9; have bu9 := Int64.toInt_lt ex9
  have fa9 := c_i2l p0; rw [hex9] at fa9; try simp only [Int32.reduceToInt, Int64.reduceToInt] at fa9
  clear hex9
  have bl10 := Int64.le_toInt ex10; have bu10 := Int64.toInt_lt ex10
  have fa10 := c_i2l v15; rw [hex10] at fa10; try simp only [Int32.reduceToInt, Int64.reduceToInt] at fa10
  clear hex10
  have bl11 := Int64.le_toInt ex11; have bu11 := Int64.toInt_lt ex11
  have fa11 := c_i2l v18; rw [hex11] at fa11; try simp only [Int32.reduceToInt, Int64.reduceToInt] at fa11
  clear hex11
  have bl12 := Int64.le_toInt ex12; have bu12 := Int64.toInt_lt ex12
  have fa12 := c_i2l v23; rw [hex12] at fa12; try simp only [Int32.reduceToInt, Int64.reduceToInt] at fa12
  clear hex12
  have bl13 := Int64.le_toInt ex13; have bu13 := Int64.toInt_lt ex13
  have fa13 := c_ladd v24 v26; rw [hex13] at fa13; try simp only [Int32.reduceToInt, Int64.reduceToInt] at fa13
  clear hex13
  have bl14 := Int64.le_toInt ex14; have bu14 := Int64.toInt_lt ex14
  have fa14 := c_ladd v27 v26; rw [hex14] at fa14; try simp only [Int32.reduceToInt, Int64.reduceToInt] at fa14
  clear hex14
  have bl15 := Int64.le_toInt ex15; have bu15 := Int64.toInt_lt ex15
  have fa15 := c_lsub v27 (1 : Int64); rw [hex15] at fa15; try simp only [Int32.reduceToInt, Int64.reduceToInt] at fa15
  clear hex15
  all_goals omega
set_option maxRecDepth 65536 in
set_option maxHeartbeats 40000000 in
theorem own_leaf0_47 (p0 : Int32) (p1 : Int32) (p2 : Int32) (p3 : Int32) (v15 : Int32) (hv15 : v15 = (p1 &&& (2147483647 : Int32))) (v18 : Int32) (hv18 : v18 = (if (p3 &&& (1 : Int32)) = (0 : Int32) then (p2 &&& (2147483647 : Int32)) else (p2 &&& (7 : Int32)))) (v23 : Int32) (hv23 : v23 = (own_f1 p0 v15 v18)) (v24 : Int64) (hv24 : v24 = (p0.toInt64)) (v25 : Int64) (hv25 : v25 = (v15.toInt64)) (v26 : Int64) (hv26 : v26 = (v18.toInt64)) (v27 : Int64) (hv27 : v27 = (v23.toInt64)) (hc29 : ¬ (v18 = (0 : Int32))) (hc45 : ¬ (v25 < v26)) (hc71 : (0 : Int64) < v24) (hc73 : ¬ (v25 < (v24 + v26))) (hc99 : ¬ (v23 = (-1 : Int32))) (hc101 : ¬ (v27 < (0 : Int64))) (hc107 : ¬ (v27 < v24)) (hc113 : ¬ (v25 < (v27 + v26))) (hc119 : ¬ (v27 = (0 : Int64))) (hc121 : ¬ ((v27 - (1 : Int64)) < v24)) : False := by
  have dv18 : ((p3 &&& (1 : Int32)) = (0 : Int32) ∧ (v18 = (p2 &&& (2147483647 : Int32)))) ∨ (¬ ((p3 &&& (1 : Int32)) = (0 : Int32)) ∧ (v18 = (p2 &&& (7 : Int32)))) := (if cq0 : (p3 &&& (1 : Int32)) = (0 : Int32) then Or.inl ⟨cq0, (by rw [hv18, if_pos cq0])⟩ else Or.inr ⟨cq0, (by rw [hv18, if_neg cq0])⟩)
  clear hv18
  generalize hex1 : (p1 &&& (2147483647 : Int32)) = ex1 at *
  generalize hex2 : (p3 &&& (1 : Int32)) = ex2 at *
  generalize hex3 : (p2 &&& (7 : Int32)) = ex3 at *
  generalize hex4 : (p2 &&& (2147483647 : Int32)) = ex4 at *
  have fc5 := own_f1_cases p0 v15 v18
  generalize own_f1 p0 v15 v18 = ex5 at *
  have fc6 := own_f2_cases p0 (0 : Int32)
  generalize own_f2 p0 (0 : Int32) = ex6 at *
  have fc7 := own_f3_cases ex6 v15
  generalize own_f3 ex6 v15 = ex7 at *
  generalize hex8 : (v15 - v18) = ex8 at *
  generalize hex9 : (p0.toInt64) = ex9 at *
  generalize hex10 : (v15.toInt64) = ex10 at *
  generalize hex11 : (v18.toInt64) = ex11 at *
  generalize hex12 : (v23.toInt64) = ex12 at *
  generalize hex13 : (v24 + v26) = ex13 at *
  generalize hex14 : (v27 + v26) = ex14 at *
  generalize hex15 : (v27 - (1 : Int64)) = ex15 at *
  try simp only [Int32.lt_iff_toInt_lt, Int64.lt_iff_toInt_lt, ← Int32.toInt_inj, ← Int64.toInt_inj, Int32.reduceToInt, Int64.reduceToInt, not_true_eq_false, not_false_eq_true, false_and, and_false, true_and, and_true, false_or, or_false, true_or, or_true] at dv18
  try simp only [Int32.lt_iff_toInt_lt, Int64.lt_iff_toInt_lt, ← Int32.toInt_inj, ← Int64.toInt_inj, Int32.reduceToInt, Int64.reduceToInt, not_true_eq_false, not_false_eq_true, false_and, and_false, true_and, and_true, false_or, or_false, true_or, or_true] at hv15
  try simp only [Int32.lt_iff_toInt_lt, Int64.lt_iff_toInt_lt, ← Int32.toInt_inj, ← Int64.toInt_inj, Int32.reduceToInt, Int64.reduceToInt, not_true_eq_false, not_false_eq_true, false_and, and_false, true_and, and_true, false_or, or_false, true_or, or_true] at hv23
  try simp only [Int32.lt_iff_toInt_lt, Int64.lt_iff_toInt_lt, ← Int32.toInt_inj, ← Int64.toInt_inj, Int32.reduceToInt, Int64.reduceToInt, not_true_eq_false, not_false_eq_true, false_and, and_false, true_and, and_true, false_or, or_false, true_or, or_true] at hv24
  try simp only [Int32.lt_iff_toInt_lt, Int64.lt_iff_toInt_lt, ← Int32.toInt_inj, ← Int64.toInt_inj, Int32.reduceToInt, Int64.reduceToInt, not_true_eq_false, not_false_eq_true, false_and, and_false, true_and, and_true, false_or, or_false, true_or, or_true] at hv25
  try simp only [Int32.lt_iff_toInt_lt, Int64.lt_iff_toInt_lt, ← Int32.toInt_inj, ← Int64.toInt_inj, Int32.reduceToInt, Int64.reduceToInt, not_true_eq_false, not_false_eq_true, false_and, and_false, true_and, and_true, false_or, or_false, true_or, or_true] at hv26
  try simp only [Int32.lt_iff_toInt_lt, Int64.lt_iff_toInt_lt, ← Int32.toInt_inj, ← Int64.toInt_inj, Int32.reduceToInt, Int64.reduceToInt, not_true_eq_false, not_false_eq_true, false_and, and_false, true_and, and_true, false_or, or_false, true_or, or_true] at hv27
  try simp only [Int32.lt_iff_toInt_lt, Int64.lt_iff_toInt_lt, ← Int32.toInt_inj, ← Int64.toInt_inj, Int32.reduceToInt, Int64.reduceToInt, not_true_eq_false, not_false_eq_true, false_and, and_false, true_and, and_true, false_or, or_false, true_or, or_true] at hc29
  try simp only [Int32.lt_iff_toInt_lt, Int64.lt_iff_toInt_lt, ← Int32.toInt_inj, ← Int64.toInt_inj, Int32.reduceToInt, Int64.reduceToInt, not_true_eq_false, not_false_eq_true, false_and, and_false, true_and, and_true, false_or, or_false, true_or, or_true] at hc45
  try simp only [Int32.lt_iff_toInt_lt, Int64.lt_iff_toInt_lt, ← Int32.toInt_inj, ← Int64.toInt_inj, Int32.reduceToInt, Int64.reduceToInt, not_true_eq_false, not_false_eq_true, false_and, and_false, true_and, and_true, false_or, or_false, true_or, or_true] at hc71
  try simp only [Int32.lt_iff_toInt_lt, Int64.lt_iff_toInt_lt, ← Int32.toInt_inj, ← Int64.toInt_inj, Int32.reduceToInt, Int64.reduceToInt, not_true_eq_false, not_false_eq_true, false_and, and_false, true_and, and_true, false_or, or_false, true_or, or_true] at hc73
  try simp only [Int32.lt_iff_toInt_lt, Int64.lt_iff_toInt_lt, ← Int32.toInt_inj, ← Int64.toInt_inj, Int32.reduceToInt, Int64.reduceToInt, not_true_eq_false, not_false_eq_true, false_and, and_false, true_and, and_true, false_or, or_false, true_or, or_true] at hc99
  try simp only [Int32.lt_iff_toInt_lt, Int64.lt_iff_toInt_lt, ← Int32.toInt_inj, ← Int64.toInt_inj, Int32.reduceToInt, Int64.reduceToInt, not_true_eq_false, not_false_eq_true, false_and, and_false, true_and, and_true, false_or, or_false, true_or, or_true] at hc101
  try simp only [Int32.lt_iff_toInt_lt, Int64.lt_iff_toInt_lt, ← Int32.toInt_inj, ← Int64.toInt_inj, Int32.reduceToInt, Int64.reduceToInt, not_true_eq_false, not_false_eq_true, false_and, and_false, true_and, and_true, false_or, or_false, true_or, or_true] at hc107
  try simp only [Int32.lt_iff_toInt_lt, Int64.lt_iff_toInt_lt, ← Int32.toInt_inj, ← Int64.toInt_inj, Int32.reduceToInt, Int64.reduceToInt, not_true_eq_false, not_false_eq_true, false_and, and_false, true_and, and_true, false_or, or_false, true_or, or_true] at hc113
  try simp only [Int32.lt_iff_toInt_lt, Int64.lt_iff_toInt_lt, ← Int32.toInt_inj, ← Int64.toInt_inj, Int32.reduceToInt, Int64.reduceToInt, not_true_eq_false, not_false_eq_true, false_and, and_false, true_and, and_true, false_or, or_false, true_or, or_true] at hc119
  try simp only [Int32.lt_iff_toInt_lt, Int64.lt_iff_toInt_lt, ← Int32.toInt_inj, ← Int64.toInt_inj, Int32.reduceToInt, Int64.reduceToInt, not_true_eq_false, not_false_eq_true, false_and, and_false, true_and, and_true, false_or, or_false, true_or, or_true] at hc121
  have := Int32.le_toInt p0; have := Int32.toInt_lt p0
  have := Int32.le_toInt p1; have := Int32.toInt_lt p1
  have := Int32.le_toInt p2; have := Int32.toInt_lt p2
  have := Int32.le_toInt p3; have := Int32.toInt_lt p3
  have := Int32.le_toInt v15; have := Int32.toInt_lt v15
  have := Int32.le_toInt v18; have := Int32.toInt_lt v18
  have := Int32.le_toInt v23; have := Int32.toInt_lt v23
  have := Int64.le_toInt v24; have := Int64.toInt_lt v24
  have := Int64.le_toInt v25; have := Int64.toInt_lt v25
  have := Int64.le_toInt v26; have := Int64.toInt_lt v26
  have := Int64.le_toInt v27; have := Int64.toInt_lt v27
  have bl1 := Int32.le_toInt ex1; have bu1 := Int32.toInt_lt ex1
  have fa1 := c_mask p1 (2147483647 : Int32) 31 (by decide) (by decide); rw [hex1] at fa1; try simp only [Int32.reduceToInt, Int64.reduceToInt] at fa1
  clear hex1
  have bl2 := Int32.le_toInt ex2; have bu2 := Int32.toInt_lt ex2
  have fa2 := c_mask p3 (1 : Int32) 1 (by decide) (by decide); rw [hex2] at fa2; try simp only [Int32.reduceToInt, Int64.reduceToInt] at fa2
  clear hex2
  have bl3 := Int32.le_toInt ex3; have bu3 := Int32.toInt_lt ex3
  have fa3 := c_mask p2 (7 : Int32) 3 (by decide) (by decide); rw [hex3] at fa3; try simp only [Int32.reduceToInt, Int64.reduceToInt] at fa3
  clear hex3
  have bl4 := Int32.le_toInt ex4; have bu4 := Int32.toInt_lt ex4
  have fa4 := c_mask p2 (2147483647 : Int32) 31 (by decide) (by decide); rw [hex4] at fa4; try simp only [Int32.reduceToInt, Int64.reduceToInt] at fa4
  clear hex4
  try simp only [Int32.lt_iff_toInt_lt, Int64.lt_iff_toInt_lt, ← Int32.toInt_inj, ← Int64.toInt_inj, Int32.reduceToInt, Int64.reduceToInt, not_true_eq_false, not_false_eq_true, false_and, and_false, true_and, and_true, false_or, or_false, true_or, or_true] at fc5
  try simp only [Int32.lt_iff_toInt_lt, Int64.lt_iff_toInt_lt, ← Int32.toInt_inj, ← Int64.toInt_inj, Int32.reduceToInt, Int64.reduceToInt, not_true_eq_false, not_false_eq_true, false_and, and_false, true_and, and_true, false_or, or_false, true_or, or_true] at fc6
  try simp only [Int32.lt_iff_toInt_lt, Int64.lt_iff_toInt_lt, ← Int32.toInt_inj, ← Int64.toInt_inj, Int32.reduceToInt, Int64.reduceToInt, not_true_eq_false, not_false_eq_true, false_and, and_false, true_and, and_true, false_or, or_false, true_or, or_true] at fc7
  have bl8 := Int32.le_toInt ex8; have bu8 := Int32.toInt_lt ex8
  have fa8 := c_isub v15 v18; rw [hex8] at fa8; try simp only [Int32.reduceToInt, Int64.reduceToInt] at fa8
  clear hex8
  have bl9 := Int64.le_toInt ex9; have bu9 := Int64.toInt_lt ex9
  have fa9 := c_i2l p0; rw [hex9] at fa9; try simp only [Int32.reduceToInt, Int64.reduceToInt] at fa9
  clear hex9
  have bl10 := Int64.le_toInt ex10; have bu10 := Int64.toInt_lt ex10
  have fa10 := c_i2l v15; rw [hex10] at fa10; try simp only [Int32.reduceToInt, Int64.reduceToInt] at fa10
  clear hex10
  have bl11 := Int64.le_toInt ex11; have bu11 := Int64.toInt_lt ex11
  have fa11 := c_i2l v18; rw [hex11] at fa11; try simp only [Int32.reduceToInt, Int64.reduceToInt] at fa11
  clear hex11
  have bl12 := Int64.le_toInt ex12; have bu12 := Int64.toInt_lt ex12
  have fa12 := c_i2l v23; rw [hex12] at fa12; try simp only [Int32.reduceToInt, Int64.reduceToInt] at fa12
  clear hex12
  have bl13 := Int64.le_toInt ex13; have bu13 := Int64.toInt_lt ex13
  have fa13 := c_ladd v24 v26; rw [hex13] at fa13; try simp only [Int32.reduceToInt, Int64.reduceToInt] at fa13
  clear hex13
  have bl14 := Int64.le_toInt ex14; have bu14 := Int64.toInt_lt ex14
  have fa14 := c_ladd v27 v26; rw [hex14] at fa14; try simp only [Int32.reduceToInt, Int64.reduceToInt] at fa14
  clear hex14
  have bl15 := Int64.le_toInt ex15; have bu15 := Int64.toInt_lt ex15
  have fa15 := c_lsub v27 (1 : Int64); rw [hex15] at fa15; try simp only [Int32.reduceToInt, Int64.reduceToInt] at fa15
  clear hex15
  all_goals omega
set_option maxRecDepth 65536 in
set_option maxHeartbeats 40000000 in
theorem own_leaf0_48 (p0 : Int32) (p1 : Int32) (p2 : Int32) (p3 : Int32) (v15 : Int32) (hv15 : v15 = (p1 &&& (2147483647 : Int32))) (v18 : Int32) (hv18 : v18 = (if (p3 &&& (1 : Int32)) = (0 : Int32) then (p2 &&& (2147483647 : Int32)) else (p2 &&& (7 : Int32)))) (v23 : Int32) (hv23 : v23 = (own_f1 p0 v15 v18)) (v24 : Int64) (hv24 : v24 = (p0.toInt64)) (v25 : Int64) (hv25 : v25 = (v15.toInt64)) (v26 : Int64) (hv26 : v26 = (v18.toInt64)) (v27 : Int64) (hv27 : v27 = (v23.toInt64)) (hc29 : ¬ (v18 = (0 : Int32))) (hc45 : ¬ (v25 < v26)) (hc71 : ¬ ((0 : Int64) < v24)) (hc123 : v23 = (-1 : Int32)) : False := by
  have dv18 : ((p3 &&& (1 : Int32)) = (0 : Int32) ∧ (v18 = (p2 &&& (2147483647 : Int32)))) ∨ (¬ ((p3 &&& (1 : Int32)) = (0 : Int32)) ∧ (v18 = (p2 &&& (7 : Int32)))) := (if cq0 : (p3 &&& (1 : Int32)) = (0 : Int32) then Or.inl ⟨cq0, (by rw [hv18, if_pos cq0])⟩ else Or.inr ⟨cq0, (by rw [hv18, if_neg cq0])⟩)
  clear hv18
  generalize hex1 : (p1 &&& (2147483647 : Int32)) = ex1 at *
  generalize hex2 : (p3 &&& (1 : Int32)) = ex2 at *
  generalize hex3 : (p2 &&& (7 : Int32)) = ex3 at *
  generalize hex4 : (p2 &&& (2147483647 : Int32)) = ex4 at *
  have fc5 := own_f1_cases p0 v15 v18
  generalize own_f1 p0 v15 v18 = ex5 at *
  have fc6 := own_f2_cases p0 (0 : Int32)
  generalize own_f2 p0 (0 : Int32) = ex6 at *
  have fc7 := own_f3_cases ex6 v15
  generalize own_f3 ex6 v15 = ex7 at *
  generalize hex8 : (v15 - v18) = ex8 at *
  generalize hex9 : (p0.toInt64) = ex9 at *
  generalize hex10 : (v15.toInt64) = ex10 at *
  generalize hex11 : (v18.toInt64) = ex11 at *
  generalize hex12 : (v23.toInt64) = ex12 at *
  try simp only [Int32.lt_iff_toInt_lt, Int64.lt_iff_toInt_lt, ← Int32.toInt_inj, ← Int64.toInt_inj, Int32.reduceToInt, Int64.reduceToInt, not_true_eq_false, not_false_eq_true, false_and, and_false, true_and, and_true, false_or, or_false, true_or, or_true] at dv18
  try simp only [Int32.lt_iff_toInt_lt, Int64.lt_iff_toInt_lt, ← Int32.toInt_inj, ← Int64.toInt_inj, Int32.reduceToInt, Int64.reduceToInt, not_true_eq_false, not_false_eq_true, false_and, and_false, true_and, and_true, false_or, or_false, true_or, or_true] at hv15
  try simp only [Int32.lt_iff_toInt_lt, Int64.lt_iff_toInt_lt, ← Int32.toInt_inj, ← Int64.toInt_inj, Int32.reduceToInt, Int64.reduceToInt, not_true_eq_false, not_false_eq_true, false_and, and_false, true_and, and_true, false_or, or_false, true_or, or_true] at hv23
  try simp only [Int32.lt_iff_toInt_lt, Int64.lt_iff_toInt_lt, ← Int32.toInt_inj, ← Int64.toInt_inj, Int32.reduceToInt, Int64.reduceToInt, not_true_eq_false, not_false_eq_true, false_and, and_false, true_and, and_true, false_or, or_false, true_or, or_true] at hv24
  try simp only [Int32.lt_iff_toInt_lt, Int64.lt_iff_toInt_lt, ← Int32.toInt_inj, ← Int64.toInt_inj, Int32.reduceToInt, Int64.reduceToInt, not_true_eq_false, not_false_eq_true, false_and, and_false, true_and, and_true, false_or, or_false, true_or, or_true] at hv25
  try simp only [Int32.lt_iff_toInt_lt, Int64.lt_iff_toInt_lt, ← Int32.toInt_inj, ← Int64.toInt_inj, Int32.reduceToInt, Int64.reduceToInt, not_true_eq_false, not_false_eq_true, false_and, and_false, true_and, and_true, false_or, or_false, true_or, or_true] at hv26
  try simp only [Int32.lt_iff_toInt_lt, Int64.lt_iff_toInt_lt, ← Int32.toInt_inj, ← Int64.toInt_inj, Int32.reduceToInt, Int64.reduceToInt, not_true_eq_false, not_false_eq_true, false_and, and_false, true_and, and_true, false_or, or_false, true_or, or_true] at hv27
  try simp only [Int32.lt_iff_toInt_lt, Int64.lt_iff_toInt_lt, ← Int32.toInt_inj, ← Int64.toInt_inj, Int32.reduceToInt, Int64.reduceToInt, not_true_eq_false, not_false_eq_true, false_and, and_false, true_and, and_true, false_or, or_false, true_or, or_true] at hc29
  try simp only [Int32.lt_iff_toInt_lt, Int64.lt_iff_toInt_lt, ← Int32.toInt_inj, ← Int64.toInt_inj, Int32.reduceToInt, Int64.reduceToInt, not_true_eq_false, not_false_eq_true, false_and, and_false, true_and, and_true, false_or, or_false, true_or, or_true] at hc45
  try simp only [Int32.lt_iff_toInt_lt, Int64.lt_iff_toInt_lt, ← Int32.toInt_inj, ← Int64.toInt_inj, Int32.reduceToInt, Int64.reduceToInt, not_true_eq_false, not_false_eq_true, false_and, and_false, true_and, and_true, false_or, or_false, true_or, or_true] at hc71
  try simp only [Int32.lt_iff_toInt_lt, Int64.lt_iff_toInt_lt, ← Int32.toInt_inj, ← Int64.toInt_inj, Int32.reduceToInt, Int64.reduceToInt, not_true_eq_false, not_false_eq_true, false_and, and_false, true_and, and_true, false_or, or_false, true_or, or_true] at hc123
  have := Int32.le_toInt p0; have := Int32.toInt_lt p0
  have := Int32.le_toInt p1; have := Int32.toInt_lt p1
  have := Int32.le_toInt p2; have := Int32.toInt_lt p2
  have := Int32.le_toInt p3; have := Int32.toInt_lt p3
  have := Int32.le_toInt v15; have := Int32.toInt_lt v15
  have := Int32.le_toInt v18; have := Int32.toInt_lt v18
  have := Int32.le_toInt v23; have := Int32.toInt_lt v23
  have := Int64.le_toInt v24; have := Int64.toInt_lt v24
  have := Int64.le_toInt v25; have := Int64.toInt_lt v25
  have := Int64.le_toInt v26; have := Int64.toInt_lt v26
  have := Int64.le_toInt v27; have := Int64.toInt_lt v27
  have bl1 := Int32.le_toInt ex1; have bu1 := Int32.toInt_lt ex1
  have fa1 := c_mask p1 (2147483647 : Int32) 31 (by decide) (by decide); rw [hex1] at fa1; try simp only [Int32.reduceToInt, Int64.reduceToInt] at fa1
  clear hex1
  have bl2 := Int32.le_toInt ex2; have bu2 := Int32.toInt_lt ex2
  have fa2 := c_mask p3 (1 : Int32) 1 (by decide) (by decide); rw [hex2] at fa2; try simp only [Int32.reduceToInt, Int64.reduceToInt] at fa2
  clear hex2
  have bl3 := Int32.le_toInt ex3; have bu3 := Int32.toInt_lt ex3
  have fa3 := c_mask p2 (7 : Int32) 3 (by decide) (by decide); rw [hex3] at fa3; try simp only [Int32.reduceToInt, Int64.reduceToInt] at fa3
  clear hex3
  have bl4 := Int32.le_toInt ex4; have bu4 := Int32.toInt_lt ex4
  have fa4 := c_mask p2 (2147483647 : Int32) 31 (by decide) (by decide); rw [hex4] at fa4; try simp only [Int32.reduceToInt, Int64.reduceToInt] at fa4
  clear hex4
  try simp only [Int32.lt_iff_toInt_lt, Int64.lt_iff_toInt_lt, ← Int32.toInt_inj, ← Int64.toInt_inj, Int32.reduceToInt, Int64.reduceToInt, not_true_eq_false, not_false_eq_true, false_and, and_false, true_and, and_true, false_or, or_false, true_or, or_true] at fc5
  try simp only [Int32.lt_iff_toInt_lt, Int64.lt_iff_toInt_lt, ← Int32.toInt_inj, ← Int64.toInt_inj, Int32.reduceToInt, Int64.reduceToInt, not_true_eq_false, not_false_eq_true, false_and, and_false, true_and, and_true, false_or, or_false, true_or, or_true] at fc6
  try simp only [Int32.lt_iff_toInt_lt, Int64.lt_iff_toInt_lt, ← Int32.toInt_inj, ← Int64.toInt_inj, Int32.reduceToInt, Int64.reduceToInt, not_true_eq_false, not_false_eq_true, false_and, and_false, true_and, and_true, false_or, or_false, true_or, or_true] at fc7
  have bl8 := Int32.le_toInt ex8; have bu8 := Int32.toInt_lt ex8
  have fa8 := c_isub v15 v18; rw [hex8] at fa8; try simp only [Int32.reduceToInt, Int64.reduceToInt] at fa8
  clear hex8
  have bl9 := Int64.le_toInt ex9; have bu9 := Int64.toInt_lt ex9
  have fa9 := c_i2l p0; rw [hex9] at fa9; try simp only [Int32.reduceToInt, Int64.reduceToInt] at fa9
  clear hex9
  have bl10 := Int64.le_toInt ex10; have bu10 := Int64.toInt_lt ex10
  have fa10 := c_i2l v15; rw [hex10] at fa10; try simp only [Int32.reduceToInt, Int64.reduceToInt] at fa10
  clear hex10
  have bl11 := Int64.le_toInt ex11; have bu11 := Int64.toInt_lt ex11
  have fa11 := c_i2l v18; rw [hex11] at fa11; try simp only [Int32.reduceToInt, Int64.reduceToInt] at fa11
  clear hex11
  have bl12 := Int64.le_toInt ex12; have bu12 := Int64.toInt_lt ex12
  have fa12 := c_i2l v23; rw [hex12] at fa12; try simp only [Int32.reduceToInt, Int64.reduceToInt] at fa12
  clear hex12
  all_goals omega
set_option maxRecDepth 65536 in
set_option maxHeartbeats 40000000 in
theorem own_leaf0_49 (p0 : Int32) (p1 : Int32) (p2 : Int32) (p3 : Int32) (v15 : Int32) (hv15 : v15 = (p1 &&& (2147483647 : Int32))) (v18 : Int32) (hv18 : v18 = (if (p3 &&& (1 : Int32)) = (0 : Int32) then (p2 &&& (2147483647 : Int32)) else (p2 &&& (7 : Int32)))) (v23 : Int32) (hv23 : v23 = (own_f1 p0 v15 v18)) (v24 : Int64) (hv24 : v24 = (p0.toInt64)) (v25 : Int64) (hv25 : v25 = (v15.toInt64)) (v26 : Int64) (hv26 : v26 = (v18.toInt64)) (v27 : Int64) (hv27 : v27 = (v23.toInt64)) (hc29 : ¬ (v18 = (0 : Int32))) (hc45 : ¬ (v25 < v26)) (hc71 : ¬ ((0 : Int64) < v24)) (hc123 : ¬ (v23 = (-1 : Int32))) (hc125 : v27 < (0 : Int64)) (hc127 : v27 = (0 : Int64)) : False := by
  have dv18 : ((p3 &&& (1 : Int32)) = (0 : Int32) ∧ (v18 = (p2 &&& (2147483647 : Int32)))) ∨ (¬ ((p3 &&& (1 : Int32)) = (0 : Int32)) ∧ (v18 = (p2 &&& (7 : Int32)))) := (if cq0 : (p3 &&& (1 : Int32)) = (0 : Int32) then Or.inl ⟨cq0, (by rw [hv18, if_pos cq0])⟩ else Or.inr ⟨cq0, (by rw [hv18, if_neg cq0])⟩)
  clear hv18
  generalize hex1 : (p1 &&& (2147483647 : Int32)) = ex1 at *
  generalize hex2 : (p3 &&& (1 : Int32)) = ex2 at *
  generalize hex3 : (p2 &&& (7 : Int32)) = ex3 at *
  generalize hex4 : (p2 &&& (2147483647 : Int32)) = ex4 at *
  have fc5 := own_f1_cases p0 v15 v18
  generalize own_f1 p0 v15 v18 = ex5 at *
  have fc6 := own_f2_cases p0 (0 : Int32)
  generalize own_f2 p0 (0 : Int32) = ex6 at *
  have fc7 := own_f3_cases ex6 v15
  generalize own_f3 ex6 v15 = ex7 at *
  generalize hex8 : (v15 - v18) = ex8 at *
  generalize hex9 : (p0.toInt64) = ex9 at *
  generalize hex10 : (v15.toInt64) = ex10 at *
  generalize hex11 : (v18.toInt64) = ex11 at *
  generalize hex12 : (v23.toInt64) = ex12 at *
  try simp only [Int32.lt_iff_toInt_lt, Int64.lt_iff_toInt_lt, ← Int32.toInt_inj, ← Int64.toInt_inj, Int32.reduceToInt, Int64.reduceToInt, not_true_eq_false, not_false_eq_true, false_and, and_false, true_and, and_true, false_or, or_false, true_or, or_true] at dv18
  try simp only [Int32.lt_iff_toInt_lt, Int64.lt_iff_toInt_lt, ← Int32.toInt_inj, ← Int64.toInt_inj, Int32.reduceToInt, Int64.reduceToInt, not_true_eq_false, not_false_eq_true, false_and, and_false, true_and, and_true, false_or, or_false, true_or, or_true] at hv15
  try simp only [Int32.lt_iff_toInt_lt, Int64.lt_iff_toInt_lt, ← Int32.toInt_inj, ← Int64.toInt_inj, Int32.reduceToInt, Int64.reduceToInt, not_true_eq_false, not_false_eq_true, false_and, and_false, true_and, and_true, false_or, or_false, true_or, or_true] at hv23
  try simp only [Int32.lt_iff_toInt_lt, Int64.lt_iff_toInt_lt, ← Int32.toInt_inj, ← Int64.toInt_inj, Int32.reduceToInt, Int64.reduceToInt, not_true_eq_false, not_false_eq_true, false_and, and_false, true_and, and_true, false_or, or_false, true_or, or_true] at hv24
  try simp only [Int32.lt_iff_toInt_lt, Int64.lt_iff_toInt_lt, ← Int32.toInt_inj, ← Int64.toInt_inj, Int32.reduceToInt, Int64.reduceToInt, not_true_eq_false, not_false_eq_true, false_and, and_false, true_and, and_true, false_or, or_false, true_or, or_true] at hv25
  try simp only [Int32.lt_iff_toInt_lt, Int64.lt_iff_toInt_lt, ← Int32.toInt_inj, ← Int64.toInt_inj, Int32.reduceToInt, Int64.reduceToInt, not_true_eq_false, not_false_eq_true, false_and, and_false, true_and, and_true, false_or, or_false, true_or, or_true] at hv26
  try simp only [Int32.lt_iff_toInt_lt, Int64.lt_iff_toInt_lt, ← Int32.toInt_inj, ← Int64.toInt_inj, Int32.reduceToInt, Int64.reduceToInt, not_true_eq_false, not_false_eq_true, false_and, and_false, true_and, and_true, false_or, or_false, true_or, or_true] at hv27
  try simp only [Int32.lt_iff_toInt_lt, Int64.lt_iff_toInt_lt, ← Int32.toInt_inj, ← Int64.toInt_inj, Int32.reduceToInt, Int64.reduceToInt, not_true_eq_false, not_false_eq_true, false_and, and_false, true_and, and_true, false_or, or_false, true_or, or_true] at hc29
  try simp only [Int32.lt_iff_toInt_lt, Int64.lt_iff_toInt_lt, ← Int32.toInt_inj, ← Int64.toInt_inj, Int32.reduceToInt, Int64.reduceToInt, not_true_eq_false, not_false_eq_true, false_and, and_false, true_and, and_true, false_or, or_false, true_or, or_true] at hc45
  try simp only [Int32.lt_iff_toInt_lt, Int64.lt_iff_toInt_lt, ← Int32.toInt_inj, ← Int64.toInt_inj, Int32.reduceToInt, Int64.reduceToInt, not_true_eq_false, not_false_eq_true, false_and, and_false, true_and, and_true, false_or, or_false, true_or, or_true] at hc71
  try simp only [Int32.lt_iff_toInt_lt, Int64.lt_iff_toInt_lt, ← Int32.toInt_inj, ← Int64.toInt_inj, Int32.reduceToInt, Int64.reduceToInt, not_true_eq_false, not_false_eq_true, false_and, and_false, true_and, and_true, false_or, or_false, true_or, or_true] at hc123
  try simp only [Int32.lt_iff_toInt_lt, Int64.lt_iff_toInt_lt, ← Int32.toInt_inj, ← Int64.toInt_inj, Int32.reduceToInt, Int64.reduceToInt, not_true_eq_false, not_false_eq_true, false_and, and_false, true_and, and_true, false_or, or_false, true_or, or_true] at hc125
  try simp only [Int32.lt_iff_toInt_lt, Int64.lt_iff_toInt_lt, ← Int32.toInt_inj, ← Int64.toInt_inj, Int32.reduceToInt, Int64.reduceToInt, not_true_eq_false, not_false_eq_true, false_and, and_false, true_and, and_true, false_or, or_false, true_or, or_true] at hc127
  have := Int32.le_toInt p0; have := Int32.toInt_lt p0
  have := Int32.le_toInt p1; have := Int32.toInt_lt p1
  have := Int32.le_toInt p2; have := Int32.toInt_lt p2
  have := Int32.le_toInt p3; have := Int32.toInt_lt p3
  have := Int32.le_toInt v15; have := Int32.toInt_lt v15
  have := Int32.le_toInt v18; have := Int32.toInt_lt v18
  have := Int32.le_toInt v23; have := Int32.toInt_lt v23
  have := Int64.le_toInt v24; have := Int64.toInt_lt v24
  have := Int64.le_toInt v25; have := Int64.toInt_lt v25
  have := Int64.le_toInt v26; have := Int64.toInt_lt v26
  have := Int64.le_toInt v27; have := Int64.toInt_lt v27
  have bl1 := Int32.le_toInt ex1; have bu1 := Int32.toInt_lt ex1
  have fa1 := c_mask p1 (2147483647 : Int32) 31 (by decide) (by decide); rw [hex1] at fa1; try simp only [Int32.reduceToInt, Int64.reduceToInt] at fa1
  clear hex1
  have bl2 := Int32.le_toInt ex2; have bu2 := Int32.toInt_lt ex2
  have fa2 := c_mask p3 (1 : Int32) 1 (by decide) (by decide); rw [hex2] at fa2; try simp only [Int32.reduceToInt, Int64.reduceToInt] at fa2
  clear hex2
  have bl3 := Int32.le_toInt ex3; have bu3 := Int32.toInt_lt ex3
  have fa3 := c_mask p2 (7 : Int32) 3 (by decide) (by decide); rw [hex3] at fa3; try simp only [Int32.reduceToInt, Int64.reduceToInt] at fa3
  clear hex3
  have bl4 := Int32.le_toInt ex4; have bu4 := Int32.toInt_lt ex4
  have fa4 := c_mask p2 (2147483647 : Int32) 31 (by decide) (by decide); rw [hex4] at fa4; try simp only [Int32.reduceToInt, Int64.reduceToInt] at fa4
  clear hex4
  try simp only [Int32.lt_iff_toInt_lt, Int64.lt_iff_toInt_lt, ← Int32.toInt_inj, ← Int64.toInt_inj, Int32.reduceToInt, Int64.reduceToInt, not_true_eq_false, not_false_eq_true, false_and, and_false, true_and, and_true, false_or, or_false, true_or, or_true] at fc5
  try simp only [Int32.lt_iff_toInt_lt, Int64.lt_iff_toInt_lt, ← Int32.toInt_inj, ← Int64.toInt_inj, Int32.reduceToInt, Int64.reduceToInt, not_true_eq_false, not_false_eq_true, false_and, and_false, true_and, and_true, false_or, or_false, true_or, or_true] at fc6
  try simp only [Int32.lt_iff_toInt_lt, Int64.lt_iff_toInt_lt, ← Int32.toInt_inj, ← Int64.toInt_inj, Int32.reduceToInt, Int64.reduceToInt, not_true_eq_false, not_false_eq_true, false_and, and_false, true_and, and_true, false_or, or_false, true_or, or_true] at fc7
  have bl8 := Int32.le_toInt ex8; have bu8 := Int32.toInt_lt ex8
  have fa8 := c_isub v15 v18; rw [hex8] at fa8; try simp only [Int32.reduceToInt, Int64.reduceToInt] at fa8
  clear hex8
  have bl9 := Int64.le_toInt ex9; have bu9 := Int64.toInt_lt ex9
  have fa9 := c_i2l p0; rw [hex9] at fa9; try simp only [Int32.reduceToInt, Int64.reduceToInt] at fa9
  clear hex9
  have bl10 := Int64.le_toInt ex10; have bu10 := Int64.toInt_lt ex10
  have fa10 := c_i2l v15; rw [hex10] at fa10; try simp only [Int32.reduceToInt, Int64.reduceToInt] at fa10
  clear hex10
  have bl11 := Int64.le_toInt ex11; have bu11 := Int64.toInt_lt ex11
  have fa11 := c_i2l v18; rw [hex11] at fa11; try simp only [Int32.reduceToInt, Int64.reduceToInt] at fa11
  clear hex11
  have bl12 := Int64.le_toInt ex12; have bu12 := Int64.toInt_lt ex12
  have fa12 := c_i2l v23; rw [hex12] at fa12; try simp only [Int32.reduceToInt, Int64.reduceToInt] at fa12
  clear hex12
  all_goals omega
set_option maxRecDepth 65536 in
set_option maxHeartbeats 40000000 in
theorem own_leaf0_50 (p0 : Int32) (p1 : Int32) (p2 : Int32) (p3 : Int32) (v15 : Int32) (hv15 : v15 = (p1 &&& (2147483647 : Int32))) (v18 : Int32) (hv18 : v18 = (if (p3 &&& (1 : Int32)) = (0 : Int32) then (p2 &&& (2147483647 : Int32)) else (p2 &&& (7 : Int32)))) (v23 : Int32) (hv23 : v23 = (own_f1 p0 v15 v18)) (v24 : Int64) (hv24 : v24 = (p0.toInt64)) (v25 : Int64) (hv25 : v25 = (v15.toInt64)) (v26 : Int64) (hv26 : v26 = (v18.toInt64)) (v27 : Int64) (hv27 : v27 = (v23.toInt64)) (hc29 : ¬ (v18 = (0 : Int32))) (hc45 : ¬ (v25 < v26)) (hc71 : ¬ ((0 : Int64) < v24)) (hc123 : ¬ (v23 = (-1 : Int32))) (hc125 : v27 < (0 : Int64)) (hc127 : ¬ (v27 = (0 : Int64))) (hc129 : (v27 - (1 : Int64)) < v24) : False := by
  have dv18 : ((p3 &&& (1 : Int32)) = (0 : Int32) ∧ (v18 = (p2 &&& (2147483647 : Int32)))) ∨ (¬ ((p3 &&& (1 : Int32)) = (0 : Int32)) ∧ (v18 = (p2 &&& (7 : Int32)))) := (if cq0 : (p3 &&& (1 : Int32)) = (0 : Int32) then Or.inl ⟨cq0, (by rw [hv18, if_pos cq0])⟩ else Or.inr ⟨cq0, (by rw [hv18, if_neg cq0])⟩)
  clear hv18
  generalize hex1 : (p1 &&& (2147483647 : Int32)) = ex1 at *
  generalize hex2 : (p3 &&& (1 : Int32)) = ex2 at *
  generalize hex3 : (p2 &&& (7 : Int32)) = ex3 at *
  generalize hex4 : (p2 &&& (2147483647 : Int32)) = ex4 at *
  have fc5 := own_f1_cases p0 v15 v18
  generalize own_f1 p0 v15 v18 = ex5 at *
  have fc6 := own_f2_cases p0 (0 : Int32)
  generalize own_f2 p0 (0 : Int32) = ex6 at *
  have fc7 := own_f3_cases ex6 v15
  generalize own_f3 ex6 v15 = ex7 at *
  generalize hex8 : (v15 - v18) = ex8 at *
  generalize hex9 : (p0.toInt64) = ex9 at *
  generalize hex10 : (v15.toInt64) = ex10 at *
  generalize hex11 : (v18.toInt64) = ex11 at *
  generalize hex12 : (v23.toInt64) = ex12 at *
  generalize hex13 : (v27 - (1 : Int64)) = ex13 at *
  try simp only [Int32.lt_iff_toInt_lt, Int64.lt_iff_toInt_lt, ← Int32.toInt_inj, ← Int64.toInt_inj, Int32.reduceToInt, Int64.reduceToInt, not_true_eq_false, not_false_eq_true, false_and, and_false, true_and, and_true, false_or, or_false, true_or, or_true] at dv18
  try simp only [Int32.lt_iff_toInt_lt, Int64.lt_iff_toInt_lt, ← Int32.toInt_inj, ← Int64.toInt_inj, Int32.reduceToInt, Int64.reduceToInt, not_true_eq_false, not_false_eq_true, false_and, and_false, true_and, and_true, false_or, or_false, true_or, or_true] at hv15
  try simp only [Int32.lt_iff_toInt_lt, Int64.lt_iff_toInt_lt, ← Int32.toInt_inj, ← Int64.toInt_inj, Int32.reduceToInt, Int64.reduceToInt, not_true_eq_false, not_false_eq_true, false_and, and_false, true_and, and_true, false_or, or_false, true_or, or_true] at hv23
  try simp only [Int32.lt_iff_toInt_lt, Int64.lt_iff_toInt_lt, ← Int32.toInt_inj, ← Int64.toInt_inj, Int32.reduceToInt, Int64.reduceToInt, not_true_eq_false, not_false_eq_true, false_and, and_false, true_and, and_true, false_or, or_false, true_or, or_true] at hv24
  try simp only [Int32.lt_iff_toInt_lt, Int64.lt_iff_toInt_lt, ← Int32.toInt_inj, ← Int64.toInt_inj, Int32.reduceToInt, Int64.reduceToInt, not_true_eq_false, not_false_eq_true, false_and, and_false, true_and, and_true, false_or, or_false, true_or, or_true] at hv25
  try simp only [Int32.lt_iff_toInt_lt, Int64.lt_iff_toInt_lt, ← Int32.toInt_inj, ← Int64.toInt_inj, Int32.reduceToInt, Int64.reduceToInt, not_true_eq_false, not_false_eq_true, false_and, and_false, true_and, and_true, false_or, or_false, true_or, or_true] at hv26
  try simp only [Int32.lt_iff_toInt_lt, Int64.lt_iff_toInt_lt, ← Int32.toInt_inj, ← Int64.toInt_inj, Int32.reduceToInt, Int64.reduceToInt, not_true_eq_false, not_false_eq_true, false_and, and_false, true_and, and_true, false_or, or_false, true_or, or_true] at hv27
  try simp only [Int32.lt_iff_toInt_lt, Int64.lt_iff_toInt_lt, ← Int32.toInt_inj, ← Int64.toInt_inj, Int32.reduceToInt, Int64.reduceToInt, not_true_eq_false, not_false_eq_true, false_and, and_false, true_and, and_true, false_or, or_false, true_or, or_true] at hc29
  try simp only [Int32.lt_iff_toInt_lt, Int64.lt_iff_toInt_lt, ← Int32.toInt_inj, ← Int64.toInt_inj, Int32.reduceToInt, Int64.reduceToInt, not_true_eq_false, not_false_eq_true, false_and, and_false, true_and, and_true, false_or, or_false, true_or, or_true] at hc45
  try simp only [Int32.lt_iff_toInt_lt, Int64.lt_iff_toInt_lt, ← Int32.toInt_inj, ← Int64.toInt_inj, Int32.reduceToInt, Int64.reduceToInt, not_true_eq_false, not_false_eq_true, false_and, and_false, true_and, and_true, false_or, or_false, true_or, or_true] at hc71
  try simp only [Int32.lt_iff_toInt_lt, Int64.lt_iff_toInt_lt, ← Int32.toInt_inj, ← Int64.toInt_inj, Int32.reduceToInt, Int64.reduceToInt, not_true_eq_false, not_false_eq_true, false_and, and_false, true_and, and_true, false_or, or_false, true_or, or_true] at hc123
  try simp only [Int32.lt_iff_toInt_lt, Int64.lt_iff_toInt_lt, ← Int32.toInt_inj, ← Int64.toInt_inj, Int32.reduceToInt, Int64.reduceToInt, not_true_eq_false, not_false_eq_true, false_and, and_false, true_and, and_true, false_or, or_false, true_or, or_true] at hc125
  try simp only [Int32.lt_iff_toInt_lt, Int64.lt_iff_toInt_lt, ← Int32.toInt_inj, ← Int64.toInt_inj, Int32.reduceToInt, Int64.reduceToInt, not_true_eq_false, not_false_eq_true, false_and, and_false, true_and, and_true, false_or, or_false, true_or, or_true] at hc127
  try simp only [Int32.lt_iff_toInt_lt, Int64.lt_iff_toInt_lt, ← Int32.toInt_inj, ← Int64.toInt_inj, Int32.reduceToInt, Int64.reduceToInt, not_true_eq_false, not_false_eq_true, false_and, and_false, true_and, and_true, false_or, or_false, true_or, or_true] at hc129
  have := Int32.le_toInt p0; have := Int32.toInt_lt p0
  have := Int32.le_toInt p1; have := Int32.toInt_lt p1
  have := Int32.le_toInt p2; have := Int32.toInt_lt p2
  have := Int32.le_toInt p3; have := Int32.toInt_lt p3
  have := Int32.le_toInt v15; have := Int32.toInt_lt v15
  have := Int32.le_toInt v18; have := Int32.toInt_lt v18
  have := Int32.le_toInt v23; have := Int32.toInt_lt v23
  have := Int64.le_toInt v24; have := Int64.toInt_lt v24
  have := Int64.le_toInt v25; have := Int64.toInt_lt v25
  have := Int64.le_toInt v26; have := Int64.toInt_lt v26
  have := Int64.le_toInt v27; have := Int64.toInt_lt v27
  have bl1 := Int32.le_toInt ex1; have bu1 := Int32.toInt_lt ex1
  have fa1 := c_mask p1 (2147483647 : Int32) 31 (by decide) (by decide); rw [hex1] at fa1; try simp only [Int32.reduceToInt, Int64.reduceToInt] at fa1
  clear hex1
  have bl2 := Int32.le_toInt ex2; have bu2 := Int32.toInt_lt ex2
  have fa2 := c_mask p3 (1 : Int32) 1 (by decide) (by decide); rw [hex2] at fa2; try simp only [Int32.reduceToInt, Int64.reduceToInt] at fa2
  clear hex2
  have bl3 := Int32.le_toInt ex3; have bu3 := Int32.toInt_lt ex3
  have fa3 := c_mask p2 (7 : Int32) 3 (by decide) (by decide); rw [hex3] at fa3; try simp only [Int32.reduceToInt, Int64.reduceToInt] at fa3
  clear hex3
  have bl4 := Int32.le_toInt ex4; have bu4 := Int32.toInt_lt ex4
  have fa4 := c_mask p2 (2147483647 : Int32) 31 (by decide) (by decide); rw [hex4] at fa4; try simp only [Int32.reduceToInt, Int64.reduceToInt] at fa4
  clear hex4
  try simp only [Int32.lt_iff_toInt_lt, Int64.lt_iff_toInt_lt, ← Int32.toInt_inj, ← Int64.toInt_inj, Int32.reduceToInt, Int64.reduceToInt, not_true_eq_false, not_false_eq_true, false_and, and_false, true_and, and_true, false_or, or_false, true_or, or_true] at fc5
  try simp only [Int32.lt_iff_toInt_lt, Int64.lt_iff_toInt_lt, ← Int32.toInt_inj, ← Int64.toInt_inj, Int32.reduceToInt, Int64.reduceToInt, not_true_eq_false, not_false_eq_true, false_and, and_false, true_and, and_true, false_or, or_false, true_or, or_true] at fc6
  try simp only [Int32.lt_iff_toInt_lt, Int64.lt_iff_toInt_lt, ← Int32.toInt_inj, ← Int64.toInt_inj, Int32.reduceToInt, Int64.reduceToInt, not_true_eq_false, not_false_eq_true, false_and, and_false, true_and, and_true, false_or, or_false, true_or, or_true] at fc7
  have bl8 := Int32.le_toInt ex8; have bu8 := Int32.toInt_lt ex8
  have fa8 := c_isub v15 v18; rw [hex8] at fa8; try simp only [Int32.reduceToInt, Int64.reduceToInt] at fa8
  clear hex8
  have bl9 := Int64.le_toInt ex9; have bu9 := Int64.toInt_lt ex9
  have fa9 := c_i2l p0; rw [hex9] at fa9; try simp only [Int32.reduceToInt, Int64.reduceToInt] at fa9
  clear hex9
  have bl10 := Int64.le_toInt ex10; have bu10 := Int64.toInt_lt ex10
  have fa10 := c_i2l v15; rw [hex10] at fa10; try simp only [Int32.reduceToInt, Int64.reduceToInt] at fa10
  clear hex10
  have bl11 := Int64.le_toInt ex11; have bu11 := Int64.toInt_lt ex11
  have fa11 := c_i2l v18; rw [hex11] at fa11; try simp only [Int32.reduceToInt, Int64.reduceToInt] at fa11
  clear hex11
  have bl12 := Int64.le_toInt ex12; have bu12 := Int64.toInt_lt ex12
  have fa12 := c_i2l v23; rw [hex12] at fa12; try simp only [Int32.reduceToInt, Int64.reduceToInt] at fa12
  clear hex12
  have bl13 := Int64.le_toInt ex13; have bu13 := Int64.toInt_lt ex13
  have fa13 := c_lsub v27 (1 : Int64); rw [hex13] at fa13; try simp only [Int32.reduceToInt, Int64.reduceToInt] at fa13
  clear hex13
  all_goals omega
set_option maxRecDepth 65536 in
set_option maxHeartbeats 40000000 in
theorem own_leaf0_51 (p0 : Int32) (p1 : Int32) (p2 : Int32) (p3 : Int32) (v15 : Int32) (hv15 : v15 = (p1 &&& (2147483647 : Int32))) (v18 : Int32) (hv18 : v18 = (if (p3 &&& (1 : Int32)) = (0 : Int32) then (p2 &&& (2147483647 : Int32)) else (p2 &&& (7 : Int32)))) (v23 : Int32) (hv23 : v23 = (own_f1 p0 v15 v18)) (v24 : Int64) (hv24 : v24 = (p0.toInt64)) (v25 : Int64) (hv25 : v25 = (v15.toInt64)) (v26 : Int64) (hv26 : v26 = (v18.toInt64)) (v27 : Int64) (hv27 : v27 = (v23.toInt64)) (hc29 : ¬ (v18 = (0 : Int32))) (hc45 : ¬ (v25 < v26)) (hc71 : ¬ ((0 : Int64) < v24)) (hc123 : ¬ (v23 = (-1 : Int32))) (hc125 : v27 < (0 : Int64)) (hc127 : ¬ (v27 = (0 : Int64))) (hc129 : ¬ ((v27 - (1 : Int64)) < v24)) : False := by
  have dv18 : ((p3 &&& (1 : Int32)) = (0 : Int32) ∧ (v18 = (p2 &&& (2147483647 : Int32)))) ∨ (¬ ((p3 &&& (1 : Int32)) = (0 : Int32)) ∧ (v18 = (p2 &&& (7 : Int32)))) := (if cq0 : (p3 &&& (1 : Int32)) = (0 : Int32) then Or.inl ⟨cq0, (by rw [hv18, if_pos cq0])⟩ else Or.inr ⟨cq0, (by rw [hv18, if_neg cq0])⟩)
  clear hv18
  generalize hex1 : (p1 &&& (2147483647 : Int32)) = ex1 at *
  generalize hex2 : (p3 &&& (1 : Int32)) = ex2 at *
  generalize hex3 : (p2 &&& (7 : Int32)) = ex3 at *
  generalize hex4 : (p2 &&& (2147483647 : Int32)) = ex4 at *
  have fc5 := own_f1_cases p0 v15 v18
  generalize own_f1 p0 v15 v18 = ex5 at *
  have fc6 := own_f2_cases p0 (0 : Int32)
  generalize own_f2 p0 (0 : Int32) = ex6 at *
  have fc7 := own_f3_cases ex6 v15
  generalize own_f3 ex6 v15 = ex7 at *
  generalize hex8 : (v15 - v18) = ex8 at *
  generalize hex9 : (p0.toInt64) = ex9 at *
  generalize hex10 : (v15.toInt64) = ex10 at *
  generalize hex11 : (v18.toInt64) = ex11 at *
  generalize hex12 : (v23.toInt64) = ex12 at *
  generalize hex13 : (v27 - (1 : Int64)) = ex13 at *
  try simp only [Int32.lt_iff_toInt_lt, Int64.lt_iff_toInt_lt, ← Int32.toInt_inj, ← Int64.toInt_inj, Int32.reduceToInt, Int64.reduceToInt, not_true_eq_false, not_false_eq_true, false_and, and_false, true_and, and_true, false_or, or_false, true_or, or_true] at dv18
  try simp only [Int32.lt_iff_toInt_lt, Int64.lt_iff_toInt_lt, ← Int32.toInt_inj, ← Int64.toInt_inj, Int32.reduceToInt, Int64.reduceToInt, not_true_eq_false, not_false_eq_true, false_and, and_false, true_and, and_true, false_or, or_false, true_or, or_true] at hv15
  try simp only [Int32.lt_iff_toInt_lt, Int64.lt_iff_toInt_lt, ← Int32.toInt_inj, ← Int64.toInt_inj, Int32.reduceToInt, Int64.reduceToInt, not_true_eq_false, not_false_eq_true, false_and, and_false, true_and, and_true, false_or, or_false, true_or, or_true] at hv23
  try simp only [Int32.lt_iff_toInt_lt, Int64.lt_iff_toInt_lt, ← Int32.toInt_inj, ← Int64.toInt_inj, Int32.reduceToInt, Int64.reduceToInt, not_true_eq_false, not_false_eq_true, false_and, and_false, true_and, and_true, false_or, or_false, true_or, or_true] at hv24
  try simp only [Int32.lt_iff_toInt_lt, Int64.lt_iff_toInt_lt, ← Int32.toInt_inj, ← Int64.toInt_inj, Int32.reduceToInt, Int64.reduceToInt, not_true_eq_false, not_false_eq_true, false_and, and_false, true_and, and_true, false_or, or_false, true_or, or_true] at hv25
  try simp only [Int32.lt_iff_toInt_lt, Int64.lt_iff_toInt_lt, ← Int32.toInt_inj, ← Int64.toInt_inj, Int32.reduceToInt, Int64.reduceToInt, not_true_eq_false, not_false_eq_true, false_and, and_false, true_and, and_true, false_or, or_false, true_or, or_true] at hv26
  try simp only [Int32.lt_iff_toInt_lt, Int64.lt_iff_toInt_lt, ← Int32.toInt_inj, ← Int64.toInt_inj, Int32.reduceToInt, Int64.reduceToInt, not_true_eq_false, not_false_eq_true, false_and, and_false, true_and, and_true, false_or, or_false, true_or, or_true] at hv27
  try simp only [Int32.lt_iff_toInt_lt, Int64.lt_iff_toInt_lt, ← Int32.toInt_inj, ← Int64.toInt_inj, Int32.reduceToInt, Int64.reduceToInt, not_true_eq_false, not_false_eq_true, false_and, and_false, true_and, and_true, false_or, or_false, true_or, or_true] at hc29
  try simp only [Int32.lt_iff_toInt_lt, Int64.lt_iff_toInt_lt, ← Int32.toInt_inj, ← Int64.toInt_inj, Int32.reduceToInt, Int64.reduceToInt, not_true_eq_false, not_false_eq_true, false_and, and_false, true_and, and_true, false_or, or_false, true_or, or_true] at hc45
  try simp only [Int32.lt_iff_toInt_lt, Int64.lt_iff_toInt_lt, ← Int32.toInt_inj, ← Int64.toInt_inj, Int32.reduceToInt, Int64.reduceToInt, not_true_eq_false, not_false_eq_true, false_and, and_false, true_and, and_true, false_or, or_false, true_or, or_true] at hc71
  try simp only [Int32.lt_iff_toInt_lt, Int64.lt_iff_toInt_lt, ← Int32.toInt_inj, ← Int64.toInt_inj, Int32.reduceToInt, Int64.reduceToInt, not_true_eq_false, not_false_eq_true, false_and, and_false, true_and, and_true, false_or, or_false, true_or, or_true] at hc123
  try simp only [Int32.lt_iff_toInt_lt, Int64.lt_iff_toInt_lt, ← Int32.toInt_inj, ← Int64.toInt_inj, Int32.reduceToInt, Int64.reduceToInt, not_true_eq_false, not_false_eq_true, false_and, and_false, true_and, and_true, false_or, or_false, true_or, or_true] at hc125
  try simp only [Int32.lt_iff_toInt_lt, Int64.lt_iff_toInt_lt, ← Int32.toInt_inj, ← Int64.toInt_inj, Int32.reduceToInt, Int64.reduceToInt, not_true_eq_false, not_false_eq_true, false_and, and_false, true_and, and_true, false_or, or_false, true_or, or_true] at hc127
  try simp only [Int32.lt_iff_toInt_lt, Int64.lt_iff_toInt_lt, ← Int32.toInt_inj, ← Int64.toInt_inj, Int32.reduceToInt, Int64.reduceToInt, not_true_eq_false, not_false_eq_true, false_and, and_false, true_and, and_true, false_or, or_false, true_or, or_true] at hc129
  have := Int32.le_toInt p0; have := Int32.toInt_lt p0
  have := Int32.le_toInt p1; have := Int32.toInt_lt p1
  have := Int32.le_toInt p2; have := Int32.toInt_lt p2
  have := Int32.le_toInt p3; have := Int32.toInt_lt p3
  have := Int32.le_toInt v15; have := Int32.toInt_lt v15
  have := Int32.le_toInt v18; have := Int32.toInt_lt v18
  have := Int32.le_toInt v23; have := Int32.toInt_lt v23
  have := Int64.le_toInt v24; have := Int64.toInt_lt v24
  have := Int64.le_toInt v25; have := Int64.toInt_lt v25
  have := Int64.le_toInt v26; have := Int64.toInt_lt v26
  have := Int64.le_toInt v27; have := Int64.toInt_lt v27
  have bl1 := Int32.le_toInt ex1; have bu1 := Int32.toInt_lt ex1
  have fa1 := c_mask p1 (2147483647 : Int32) 31 (by decide) (by decide); rw [hex1] at fa1; try simp only [Int32.reduceToInt, Int64.reduceToInt] at fa1
  clear hex1
  have bl2 := Int32.le_toInt ex2; have bu2 := Int32.toInt_lt ex2
  have fa2 := c_mask p3 (1 : Int32) 1 (by decide) (by decide); rw [hex2] at fa2; try simp only [Int32.reduceToInt, Int64.reduceToInt] at fa2
  clear hex2
  have bl3 := Int32.le_toInt ex3; have bu3 := Int32.toInt_lt ex3
  have fa3 := c_mask p2 (7 : Int32) 3 (by decide) (by decide); rw [hex3] at fa3; try simp only [Int32.reduceToInt, Int64.reduceToInt] at fa3
  clear hex3
  have bl4 := Int32.le_toInt ex4; have bu4 := Int32.toInt_lt ex4
  have fa4 := c_mask p2 (2147483647 : Int32) 31 (by decide) (by decide); rw [hex4] at fa4; try simp only [Int32.reduceToInt, Int64.reduceToInt] at fa4
  clear hex4
  try simp only [Int32.lt_iff_toInt_lt, Int64.lt_iff_toInt_lt, ← Int32.toInt_inj, ← Int64.toInt_inj, Int32.reduceToInt, Int64.reduceToInt, not_true_eq_false, not_false_eq_true, false_and, and_false, true_and, and_true, false_or, or_false, true_or, or_true] at fc5
  try simp only [Int32.lt_iff_toInt_lt, Int64.lt_iff_toInt_lt, ← Int32.toInt_inj, ← Int64.toInt_inj, Int32.reduceToInt, Int64.reduceToInt, not_true_eq_false, not_false_eq_true, false_and, and_false, true_and, and_true, false_or, or_false, true_or, or_true] at fc6
  try simp only [Int32.lt_iff_toInt_lt, Int64.lt_iff_toInt_lt, ← Int32.toInt_inj, ← Int64.toInt_inj, Int32.reduceToInt, Int64.reduceToInt, not_true_eq_false, not_false_eq_true, false_and, and_false, true_and, and_true, false_or, or_false, true_or, or_true] at fc7
  have bl8 := Int32.le_toInt ex8; have bu8 := Int32.toInt_lt ex8
  have fa8 := c_isub v15 v18; rw [hex8] at fa8; try simp only [Int32.reduceToInt, Int64.reduceToInt] at fa8
  clear hex8
  have bl9 := Int64.le_toInt ex9; have bu9 := Int64.toInt_lt ex9
  have fa9 := c_i2l p0; rw [hex9] at fa9; try simp only [Int32.reduceToInt, Int64.reduceToInt] at fa9
  clear hex9
  have bl10 := Int64.le_toInt ex10; have bu10 := Int64.toInt_lt ex10
  have fa10 := c_i2l v15; rw [hex10] at fa10; try simp only [Int32.reduceToInt, Int64.reduceToInt] at fa10
  clear hex10
  have bl11 := Int64.le_toInt ex11; have bu11 := Int64.toInt_lt ex11
  have fa11 := c_i2l v18; rw [hex11] at fa11; try simp only [Int32.reduceToInt, Int64.reduceToInt] at fa11
  clear hex11
  have bl12 := Int64.le_toInt ex12; have bu12 := Int64.toInt_lt ex12
  have fa12 := c_i2l v23; rw [hex12] at fa12; try simp only [Int32.reduceToInt, Int64.reduceToInt] at fa12
  clear hex12
  have bl13 := Int64.le_toInt ex13; have bu13 := Int64.toInt_lt ex13
  have fa13 := c_lsub v27 (1 : Int64); rw [hex13] at fa13; try simp only [Int32.reduceToInt, Int64.reduceToInt] at fa13
  clear hex13
  all_goals omega
set_option maxRecDepth 65536 in
set_option maxHeartbeats 40000000 in
theorem own_leaf0_52 (p0 : Int32) (p1 : Int32) (p2 : Int32) (p3 : Int32) (v15 : Int32) (hv15 : v15 = (p1 &&& (2147483647 : Int32))) (v18 : Int32) (hv18 : v18 = (if (p3 &&& (1 : Int32)) = (0 : Int32) then (p2 &&& (2147483647 : Int32)) else (p2 &&& (7 : Int32)))) (v23 : Int32) (hv23 : v23 = (own_f1 p0 v15 v18)) (v24 : Int64) (hv24 : v24 = (p0.toInt64)) (v25 : Int64) (hv25 : v25 = (v15.toInt64)) (v26 : Int64) (hv26 : v26 = (v18.toInt64)) (v27 : Int64) (hv27 : v27 = (v23.toInt64)) (hc29 : ¬ (v18 = (0 : Int32))) (hc45 : ¬ (v25 < v26)) (hc71 : ¬ ((0 : Int64) < v24)) (hc123 : ¬ (v23 = (-1 : Int32))) (hc125 : ¬ (v27 < (0 : Int64))) (hc131 : v27 < v24) (hc133 : v27 = (0 : Int64)) : False := by
  have dv18 : ((p3 &&& (1 : Int32)) = (0 : Int32) ∧ (v18 = (p2 &&& (2147483647 : Int32)))) ∨ (¬ ((p3 &&& (1 : Int32)) = (0 : Int32)) ∧ (v18 = (p2 &&& (7 : Int32)))) := (if cq0 : (p3 &&& (1 : Int32)) = (0 : Int32) then Or.inl ⟨cq0, (by rw [hv18, if_pos cq0])⟩ else Or.inr ⟨cq0, (by rw [hv18, if_neg cq0])⟩)
  clear hv18
  generalize hex1 : (p1 &&& (2147483647 : Int32)) = ex1 at *
  generalize hex2 : (p3 &&& (1 : Int32)) = ex2 at *
  generalize hex3 : (p2 &&& (7 : Int32)) = ex3 at *
  generalize hex4 : (p2 &&& (2147483647 : Int32)) = ex4 at *
  have fc5 := own_f1_cases p0 v15 v18
  generalize own_f1 p0 v15 v18 = ex5 at *
  have fc6 := own_f2_cases p0 (0 : Int32)
  generalize own_f2 p0 (0 : Int32) = ex6 at *
  have fc7 := own_f3_cases ex6 v15
  generalize own_f3 ex6 v15 = ex7 at *
  generalize hex8 : (v15 - v18) = ex8 at *
  generalize hex9 : (p0.toInt64) = ex9 at *
  generalize hex10 : (v15.toInt64) = ex10 at *
  generalize hex11 : (v18.toInt64) = ex11 at *
  generalize hex12 : (v23.toInt64) = ex12 at *
  try simp only [Int32.lt_iff_toInt_lt, Int64.lt_iff_toInt_lt, ← Int32.toInt_inj, ← Int64.toInt_inj, Int32.reduceToInt, Int64.reduceToInt, not_true_eq_false, not_false_eq_true, false_and, and_false, true_and, and_true, false_or, or_false, true_or, or_true] at dv18
  try simp only [Int32.lt_iff_toInt_lt, Int64.lt_iff_toInt_lt, ← Int32.toInt_inj, ← Int64.toInt_inj, Int32.reduceToInt, Int64.reduceToInt, not_true_eq_false, not_false_eq_true, false_and, and_false, true_and, and_true, false_or, or_false, true_or, or_true] at hv15
  try simp only [Int32.lt_iff_toInt_lt, Int64.lt_iff_toInt_lt, ← Int32.toInt_inj, ← Int64.toInt_inj, Int32.reduceToInt, Int64.reduceToInt, not_true_eq_false, not_false_eq_true, false_and, and_false, true_and, and_true, false_or, or_false, true_or, or_true] at hv23
  try simp only [Int32.lt_iff_toInt_lt, Int64.lt_iff_toInt_lt, ← Int32.toInt_inj, ← Int64.toInt_inj, Int32.reduceToInt, Int64.reduceToInt, not_true_eq_false, not_false_eq_true, false_and, and_false, true_and, and_true, false_or, or_false, true_or, or_true] at hv24
  try simp only [Int32.lt_iff_toInt_lt, Int64.lt_iff_toInt_lt, ← Int32.toInt_inj, ← Int64.toInt_inj, Int32.reduceToInt, Int64.reduceToInt, not_true_eq_false, not_false_eq_true, false_and, and_false, true_and, and_true, false_or, or_false, true_or, or_true] at hv25
  try simp only [Int32.lt_iff_toInt_lt, Int64.lt_iff_toInt_lt, ← Int32.toInt_inj, ← Int64.toInt_inj, Int32.reduceToInt, Int64.reduceToInt, not_true_eq_false, not_false_eq_true, false_and, and_false, true_and, and_true, false_or, or_false, true_or, or_true] at hv26
  try simp only [Int32.lt_iff_toInt_lt, Int64.lt_iff_toInt_lt, ← Int32.toInt_inj, ← Int64.toInt_inj, Int32.reduceToInt, Int64.reduceToInt, not_true_eq_false, not_false_eq_true, false_and, and_false, true_and, and_true, false_or, or_false, true_or, or_true] at hv27
  try simp only [Int32.lt_iff_toInt_lt, Int64.lt_iff_toInt_lt, ← Int32.toInt_inj, ← Int64.toInt_inj, Int32.reduceToInt, Int64.reduceToInt, not_true_eq_false, not_false_eq_true, false_and, and_false, true_and, and_true, false_or, or_false, true_or, or_true] at hc29
  try simp only [Int32.lt_iff_toInt_lt, Int64.lt_iff_toInt_lt, ← Int32.toInt_inj, ← Int64.toInt_inj, Int32.reduceToInt, Int64.reduceToInt, not_true_eq_false, not_false_eq_true, false_and, and_false, true_and, and_true, false_or, or_false, true_or, or_true] at hc45
  try simp only [Int32.lt_iff_toInt_lt, Int64.lt_iff_toInt_lt, ← Int32.toInt_inj, ← Int64.toInt_inj, Int32.reduceToInt, Int64.reduceToInt, not_true_eq_false, not_false_eq_true, false_and, and_false, true_and, and_true, false_or, or_false, true_or, or_true] at hc71
  try simp only [Int32.lt_iff_toInt_lt, Int64.lt_iff_toInt_lt, ← Int32.toInt_inj, ← Int64.toInt_inj, Int32.reduceToInt, Int64.reduceToInt, not_true_eq_false, not_false_eq_true, false_and, and_false, true_and, and_true, false_or, or_false, true_or, or_true] at hc123
  try simp only [Int32.lt_iff_toInt_lt, Int64.lt_iff_toInt_lt, ← Int32.toInt_inj, ← Int64.toInt_inj, Int32.reduceToInt, Int64.reduceToInt, not_true_eq_false, not_false_eq_true, false_and, and_false, true_and, and_true, false_or, or_false, true_or, or_true] at hc125
  try simp only [Int32.lt_iff_toInt_lt, Int64.lt_iff_toInt_lt, ← Int32.toInt_inj, ← Int64.toInt_inj, Int32.reduceToInt, Int64.reduceToInt, not_true_eq_false, not_false_eq_true, false_and, and_false, true_and, and_true, false_or, or_false, true_or, or_true] at hc131
  try simp only [Int32.lt_iff_toInt_lt, Int64.lt_iff_toInt_lt, ← Int32.toInt_inj, ← Int64.toInt_inj, Int32.reduceToInt, Int64.reduceToInt, not_true_eq_false, not_false_eq_true, false_and, and_false, true_and, and_true, false_or, or_false, true_or, or_true] at hc133
  have := Int32.le_toInt p0; have := Int32.toInt_lt p0
  have := Int32.le_toInt p1; have := Int32.toInt_lt p1
  have := Int32.le_toInt p2; have := Int32.toInt_lt p2
  have := Int32.le_toInt p3; have := Int32.toInt_lt p3
  have := Int32.le_toInt v15; have := Int32.toInt_lt v15
  have := Int32.le_toInt v18; have := Int32.toInt_lt v18
  have := Int32.le_toInt v23; have := Int32.toInt_lt v23
  have := Int64.le_toInt v24; have := Int64.toInt_lt v24
  have := Int64.le_toInt v25; have := Int64.toInt_lt v25
  have := Int64.le_toInt v26; have := Int64.toInt_lt v26
  have := Int64.le_toInt v27; have := Int64.toInt_lt v27
  have bl1 := Int32.le_toInt ex1; have bu1 := Int32.toInt_lt ex1
  have fa1 := c_mask p1 (2147483647 : Int32) 31 (by decide) (by decide); rw [hex1] at fa1; try simp only [Int32.reduceToInt, Int64.reduceToInt] at fa1
  clear hex1
  have bl2 := Int32.le_toInt ex2; have bu2 := Int32.toInt_lt ex2
  have fa2 := c_mask p3 (1 : Int32) 1 (by decide) (by decide); rw [hex2] at fa2; try simp only [Int32.reduceToInt, Int64.reduceToInt] at fa2
  clear hex2
  have bl3 := Int32.le_toInt ex3; have bu3 := Int32.toInt_lt ex3
  have fa3 := c_mask p2 (7 : Int32) 3 (by decide) (by decide); rw [hex3] at fa3; try simp only [Int32.reduceToInt, Int64.reduceToInt] at fa3
  clear hex3
  have bl4 := Int32.le_toInt ex4; have bu4 := Int32.toInt_lt ex4
  have fa4 := c_mask p2 (2147483647 : Int32) 31 (by decide) (by decide); rw [hex4] at fa4; try simp only [Int32.reduceToInt, Int64.reduceToInt] at fa4
  clear hex4
  try simp only [Int32.lt_iff_toInt_lt, Int64.lt_iff_toInt_lt, ← Int32.toInt_inj, ← Int64.toInt_inj, Int32.reduceToInt, Int64.reduceToInt, not_true_eq_false, not_false_eq_true, false_and, and_false, true_and, and_true, false_or, or_false, true_or, or_true] at fc5
  try simp only [Int32.lt_iff_toInt_lt, Int64.lt_iff_toInt_lt, ← Int32.toInt_inj, ← Int64.toInt_inj, Int32.reduceToInt, Int64.reduceToInt, not_true_eq_false, not_false_eq_true, false_and, and_false, true_and, and_true, false_or, or_false, true_or, or_true] at fc6
  try simp only [Int32.lt_iff_toInt_lt, Int64.lt_iff_toInt_lt, ← Int32.toInt_inj, ← Int64.toInt_inj, Int32.reduceToInt, Int64.reduceToInt, not_true_eq_false, not_false_eq_true, false_and, and_false, true_and, and_true, false_or, or_false, true_or, or_true] at fc7
  have bl8 := Int32.le_toInt ex8; have bu8 := Int32.toInt_lt ex8
  have fa8 := c_isub v15 v18; rw [hex8] at fa8; try simp only [Int32.reduceToInt, Int64.reduceToInt] at fa8
  clear hex8
  have bl9 := Int64.le_toInt ex9; have bu9 := Int64.toInt_lt ex9
  have fa9 := c_i2l p0; rw [hex9] at fa9; try simp only [Int32.reduceToInt, Int64.reduceToInt] at fa9
  clear hex9
  have bl10 := Int64.le_toInt ex10; have bu10 := Int64.toInt_lt ex10
  have fa10 := c_i2l v15; rw [hex10] at fa10; try simp only [Int32.reduceToInt, Int64.reduceToInt] at fa10
  clear hex10
  have bl11 := Int64.le_toInt ex11; have bu11 := Int64.toInt_lt ex11
  have fa11 := c_i2l v18; rw [hex11] at fa11; try simp only [Int32.reduceToInt, Int64.reduceToInt] at fa11
  clear hex11
  have bl12 := Int64.le_toInt ex12; have bu12 := Int64.toInt_lt ex12
  have fa12 := c_i2l v23; rw [hex12] at fa12; try simp only [Int32.reduceToInt, Int64.reduceToInt] at fa12
  clear hex12
  all_goals omega
set_option maxRecDepth 65536 in
set_option maxHeartbeats 40000000 in
theorem own_leaf0_53 (p0 : Int32) (p1 : Int32) (p2 : Int32) (p3 : Int32) (v15 : Int32) (hv15 : v15 = (p1 &&& (2147483647 : Int32))) (v18 : Int32) (hv18 : v18 = (if (p3 &&& (1 : Int32)) = (0 : Int32) then (p2 &&& (2147483647 : Int32)) else (p2 &&& (7 : Int32)))) (v23 : Int32) (hv23 : v23 = (own_f1 p0 v15 v18)) (v24 : Int64) (hv24 : v24 = (p0.toInt64)) (v25 : Int64) (hv25 : v25 = (v15.toInt64)) (v26 : Int64) (hv26 : v26 = (v18.toInt64)) (v27 : Int64) (hv27 : v27 = (v23.toInt64)) (hc29 : ¬ (v18 = (0 : Int32))) (hc45 : ¬ (v25 < v26)) (hc71 : ¬ ((0 : Int64) < v24)) (hc123 : ¬ (v23 = (-1 : Int32))) (hc125 : ¬ (v27 < (0 : Int64))) (hc131 : v27 < v24) (hc133 : ¬ (v27 = (0 : Int64))) (hc135 : (v27 - (1 : Int64)) < v24) : False := by
  have dv18 : ((p3 &&& (1 : Int32)) = (0 : Int32) ∧ (v18 = (p2 &&& (2147483647 : Int32)))) ∨ (¬ ((p3 &&& (1 : Int32)) = (0 : Int32)) ∧ (v18 = (p2 &&& (7 : Int32)))) := (if cq0 : (p3 &&& (1 : Int32)) = (0 : Int32) then Or.inl ⟨cq0, (by rw [hv18, if_pos cq0])⟩ else Or.inr ⟨cq0, (by rw [hv18, if_neg cq0])⟩)
  clear hv18
  generalize hex1 : (p1 &&& (2147483647 : Int32)) = ex1 at *
  generalize hex2 : (p3 &&& (1 : Int32)) = ex2 at *
  generalize hex3 : (p2 &&& (7 : Int32)) = ex3 at *
  generalize hex4 : (p2 &&& (2147483647 : Int32)) = ex4 at *
  have fc5 := own_f1_cases p0 v15 v18
  generalize own_f1 p0 v15 v18 = ex5 at *
  have fc6 := own_f2_cases p0 (0 : Int32)
  generalize own_f2 p0 (0 : Int32) = ex6 at *
  have fc7 := own_f3_cases ex6 v15
  generalize own_f3 ex6 v15 = ex7 at *
  generalize hex8 : (v15 - v18) = ex8 at *
  generalize hex9 : (p0.toInt64) = ex9 at *
  generalize hex10 : (v15.toInt64) = ex10 at *
  generalize hex11 : (v18.toInt64) = ex11 at *
  generalize hex12 : (v23.toInt64) = ex12 at *
  generalize hex13 : (v27 - (1 : Int64)) = ex13 at *
  try simp only [Int32.lt_iff_toInt_lt, Int64.lt_iff_toInt_lt, ← Int32.toInt_inj, ← Int64.toInt_inj, Int32.reduceToInt, Int64.reduceToInt, not_true_eq_false, not_false_eq_true, false_and, and_false, true_and, and_true, false_or, or_false, true_or, or_true] at dv18
  try simp only [Int32.lt_iff_toInt_lt, Int64.lt_iff_toInt_lt, ← Int32.toInt_inj, ← Int64.toInt_inj, Int32.reduceToInt, Int64.reduceToInt, not_true_eq_false, not_false_eq_true, false_and, and_false, true_and, and_true, false_or, or_false, true_or, or_true] at hv15
  try simp only [Int32.lt_iff_toInt_lt, Int64.lt_iff_toInt_lt, ← Int32.toInt_inj, ← Int64.toInt_inj, Int32.reduceToInt, Int64.reduceToInt, not_true_eq_false, not_false_eq_true, false_and, and_false, true_and, and_true, false_or, or_false, true_or, or_true] at hv23
  try simp only [Int32.lt_iff_toInt_lt, Int64.lt_iff_toInt_lt, ← Int32.toInt_inj, ← Int64.toInt_inj, Int32.reduceToInt, Int64.reduceToInt, not_true_eq_false, not_false_eq_true, false_and, and_false, true_and, and_true, false_or, or_false, true_or, or_true] at hv24
  try simp only [Int32.lt_iff_toInt_lt, Int64.lt_iff_toInt_lt, ← Int32.toInt_inj, ← Int64.toInt_inj, Int32.reduceToInt, Int64.reduceToInt, not_true_eq_false, not_false_eq_true, false_and, and_false, true_and, and_true, false_or, or_false, true_or, or_true] at hv25
  try simp only [Int32.lt_iff_toInt_lt, Int64.lt_iff_toInt_lt, ← Int32.toInt_inj, ← Int64.toInt_inj, Int32.reduceToInt, Int64.reduceToInt, not_true_eq_false, not_false_eq_true, false_and, and_false, true_and, and_true, false_or, or_false, true_or, or_true] at hv26
  try simp only [Int32.lt_iff_toInt_lt, Int64.lt_iff_toInt_lt, ← Int32.toInt_inj, ← Int64.toInt_inj, Int32.reduceToInt, Int64.reduceToInt, not_true_eq_false, not_false_eq_true, false_and, and_false, true_and, and_true, false_or, or_false, true_or, or_true] at hv27
  try simp only [Int32.lt_iff_toInt_lt, Int64.lt_iff_toInt_lt, ← Int32.toInt_inj, ← Int64.toInt_inj, Int32.reduceToInt, Int64.reduceToInt, not_true_eq_false, not_false_eq_true, false_and, and_false, true_and, and_true, false_or, or_false, true_or, or_true] at hc29
  try simp only [Int32.lt_iff_toInt_lt, Int64.lt_iff_toInt_lt, ← Int32.toInt_inj, ← Int64.toInt_inj, Int32.reduceToInt, Int64.reduceToInt, not_true_eq_false, not_false_eq_true, false_and, and_false, true_and, and_true, false_or, or_false, true_or, or_true] at hc45
  try simp only [Int32.lt_iff_toInt_lt, Int64.lt_iff_toInt_lt, ← Int32.toInt_inj, ← Int64.toInt_inj, Int32.reduceToInt, Int64.reduceToInt, not_true_eq_false, not_false_eq_true, false_and, and_false, true_and, and_true, false_or, or_false, true_or, or_true] at hc71
  try simp only [Int32.lt_iff_toInt_lt, Int64.lt_iff_toInt_lt, ← Int32.toInt_inj, ← Int64.toInt_inj, Int32.reduceToInt, Int64.reduceToInt, not_true_eq_false, not_false_eq_true, false_and, and_false, true_and, and_true, false_or, or_false, true_or, or_true] at hc123
  try simp only [Int32.lt_iff_toInt_lt, Int64.lt_iff_toInt_lt, ← Int32.toInt_inj, ← Int64.toInt_inj, Int32.reduceToInt, Int64.reduceToInt, not_true_eq_false, not_false_eq_true, false_and, and_false, true_and, and_true, false_or, or_false, true_or, or_true] at hc125
  try simp only [Int32.lt_iff_toInt_lt, Int64.lt_iff_toInt_lt, ← Int32.toInt_inj, ← Int64.toInt_inj, Int32.reduceToInt, Int64.reduceToInt, not_true_eq_false, not_false_eq_true, false_and, and_false, true_and, and_true, false_or, or_false, true_or, or_true] at hc131
  try simp only [Int32.lt_iff_toInt_lt, Int64.lt_iff_toInt_lt, ← Int32.toInt_inj, ← Int64.toInt_inj, Int32.reduceToInt, Int64.reduceToInt, not_true_eq_false, not_false_eq_true, false_and, and_false, true_and, and_true, false_or, or_false, true_or, or_true] at hc133
  try simp only [Int32.lt_iff_toInt_lt, Int64.lt_iff_toInt_lt, ← Int32.toInt_inj, ← Int64.toInt_inj, Int32.reduceToInt, Int64.reduceToInt, not_true_eq_false, not_false_eq_true, false_and, and_false, true_and, and_true, false_or, or_false, true_or, or_true] at hc135
  have := Int32.le_toInt p0; have := Int32.toInt_lt p0
  have := Int32.le_toInt p1; have := Int32.toInt_lt p1
  have := Int32.le_toInt p2; have := Int32.toInt_lt p2
  have := Int32.le_toInt p3; have := Int32.toInt_lt p3
  have := Int32.le_toInt v15; have := Int32.toInt_lt v15
  have := Int32.le_toInt v18; have := Int32.toInt_lt v18
  have := Int32.le_toInt v23; have := Int32.toInt_lt v23
  have := Int64.le_toInt v24; have := Int64.toInt_lt v24
  have := Int64.le_toInt v25; have := Int64.toInt_lt v25
  have := Int64.le_toInt v26; have := Int64.toInt_lt v26
  have := Int64.le_toInt v27; have := Int64.toInt_lt v27
  have bl1 := Int32.le_toInt ex1; have bu1 := Int32.toInt_lt ex1
  have fa1 := c_mask p1 (2147483647 : Int32) 31 (by decide) (by decide); rw [hex1] at fa1; try simp only [Int32.reduceToInt, Int64.reduceToInt] at fa1
  clear hex1
  have bl2 := Int32.le_toInt ex2; have bu2 := Int32.toInt_lt ex2
  have fa2 := c_mask p3 (1 : Int32) 1 (by decide) (by decide); rw [hex2] at fa2; try simp only [Int32.reduceToInt, Int64.reduceToInt] at fa2
  clear hex2
  have bl3 := Int32.le_toInt ex3; have bu3 := Int32.toInt_lt ex3
  have fa3 := c_mask p2 (7 : Int32) 3 (by decide) (by decide); rw [hex3] at fa3; try simp only [Int32.reduceToInt, Int64.reduceToInt] at fa3
  clear hex3
  have bl4 := Int32.le_toInt ex4; have bu4 := Int32.toInt_lt ex4
  have fa4 := c_mask p2 (2147483647 : Int32) 31 (by decide) (by decide); rw [hex4] at fa4; try simp only [Int32.reduceToInt, Int64.reduceToInt] at fa4
  clear hex4
  try simp only [Int32.lt_iff_toInt_lt, Int64.lt_iff_toInt_lt, ← Int32.toInt_inj, ← Int64.toInt_inj, Int32.reduceToInt, Int64.reduceToInt, not_true_eq_false, not_false_eq_true, false_and, and_false, true_and, and_true, false_or, or_false, true_or, or_true] at fc5
  try simp only [Int32.lt_iff_toInt_lt, Int64.lt_iff_toInt_lt, ← Int32.toInt_inj, ← Int64.toInt_inj, Int32.reduceToInt, Int64.reduceToInt, not_true_eq_false, not_false_eq_true, false_and, and_false, true_and, and_true, false_or, or_false, true_or, or_true] at fc6
  try simp only [Int32.lt_iff_toInt_lt, Int64.lt_iff_toInt_lt, ← Int32.toInt_inj, ← Int64.toInt_inj, Int32.reduceToInt, Int64.reduceToInt, not_true_eq_false, not_false_eq_true, false_and, and_false, true_and, and_true, false_or, or_false, true_or, or_true] at fc7
  have bl8 := Int32.le_toInt ex8; have bu8 := Int32.toInt_lt ex8
  have fa8 := c_isub v15 v18; rw [hex8] at fa8; try simp only [Int32.reduceToInt, Int64.reduceToInt] at fa8
  clear hex8
  have bl9 := Int64.le_toInt ex9; have bu9 := Int64.toInt_lt ex9
  have fa9 := c_i2l p0; rw [hex9] at fa9; try simp only [Int32.reduceToInt, Int64.reduceToInt] at fa9
  clear hex9
  have bl10 := Int64.le_toInt ex10; have bu10 := Int64.toInt_lt ex10
  have fa10 := c_i2l v15; rw [hex10] at fa10; try simp only [Int32.reduceToInt, Int64.reduceToInt] at fa10
  clear hex10
  have bl11 := Int64.le_toInt ex11; have bu11 := Int64.toInt_lt ex11
  have fa11 := c_i2l v18; rw [hex11] at fa11; try simp only [Int32.reduceToInt, Int64.reduceToInt] at fa11
  clear hex11
  have bl12 := Int64.le_toInt ex12; have bu12 := Int64.toInt_lt ex12
  have fa12 := c_i2l v23; rw [hex12] at fa12; try simp only [Int32.reduceToInt, Int64.reduceToInt] at fa12
  clear hex12
  have bl13 := Int64.le_toInt ex13; have bu13 := Int64.toInt_lt ex13
  have fa13 := c_lsub v27 (1 : Int64); rw [hex13] at fa13; try simp only [Int32.reduceToInt, Int64.reduceToInt] at fa13
  clear hex13
  all_goals omega
set_option maxRecDepth 65536 in
set_option maxHeartbeats 40000000 in
theorem own_leaf0_54 (p0 : Int32) (p1 : Int32) (p2 : Int32) (p3 : Int32) (v15 : Int32) (hv15 : v15 = (p1 &&& (2147483647 : Int32))) (v18 : Int32) (hv18 : v18 = (if (p3 &&& (1 : Int32)) = (0 : Int32) then (p2 &&& (2147483647 : Int32)) else (p2 &&& (7 : Int32)))) (v23 : Int32) (hv23 : v23 = (own_f1 p0 v15 v18)) (v24 : Int64) (hv24 : v24 = (p0.toInt64)) (v25 : Int64) (hv25 : v25 = (v15.toInt64)) (v26 : Int64) (hv26 : v26 = (v18.toInt64)) (v27 : Int64) (hv27 : v27 = (v23.toInt64)) (hc29 : ¬ (v18 = (0 : Int32))) (hc45 : ¬ (v25 < v26)) (hc71 : ¬ ((0 : Int64) < v24)) (hc123 : ¬ (v23 = (-1 : Int32))) (hc125 : ¬ (v27 < (0 : Int64))) (hc131 : v27 < v24) (hc133 : ¬ (v27 = (0 : Int64))) (hc135 : ¬ ((v27 - (1 : Int64)) < v24)) : False := by
  have dv18 : ((p3 &&& (1 : Int32)) = (0 : Int32) ∧ (v18 = (p2 &&& (2147483647 : Int32)))) ∨ (¬ ((p3 &&& (1 : Int32)) = (0 : Int32)) ∧ (v18 = (p2 &&& (7 : Int32)))) := (if cq0 : (p3 &&& (1 : Int32)) = (0 : Int32) then Or.inl ⟨cq0, (by rw [hv18, if_pos cq0])⟩ else Or.inr ⟨cq0, (by rw [hv18, if_neg cq0])⟩)
  clear hv18
  generalize hex1 : (p1 &&& (2147483647 : Int32)) = ex1 at *
  generalize hex2 : (p3 &&& (1 : Int32)) = ex2 at *
  generalize hex3 : (p2 &&& (7 : Int32)) = ex3 at *
  generalize hex4 : (p2 &&& (2147483647 : Int32)) = ex4 at *
  have fc5 := own_f1_cases p0 v15 v18
  generalize own_f1 p0 v15 v18 = ex5 at *
  have fc6 := own_f2_cases p0 (0 : Int32)
  generalize own_f2 p0 (0 : Int32) = ex6 at *
  have fc7 := own_f3_cases ex6 v15
  generalize own_f3 ex6 v15 = ex7 at *
  generalize hex8 : (v15 - v18) = ex8 at *
  generalize hex9 : (p0.toInt64) = ex9 at *
  generalize hex10 : (v15.toInt64) = ex10 at *
  generalize hex11 : (v18.toInt64) = ex11 at *
  generalize hex12 : (v23.toInt64) = ex12 at *
  generalize hex13 : (v27 - (1 : Int64)) = ex13 at *
  try simp only [Int32.lt_iff_toInt_lt, Int64.lt_iff_toInt_lt, ← Int32.toInt_inj, ← Int64.toInt_inj, Int32.reduceToInt, Int64.reduceToInt, not_true_eq_false, not_false_eq_true, false_and, and_false, true_and, and_true, false_or, or_false, true_or, or_true] at dv18
  try simp only [Int32.lt_iff_toInt_lt, Int64.lt_iff_toInt_lt, ← Int32.toInt_inj, ← Int64.toInt_inj, Int32.reduceToInt, Int64.reduceToInt, not_true_eq_false, not_false_eq_true, false_and, and_false, true_and, and_true, false_or, or_false, true_or, or_true] at hv15
  try simp only [Int32.lt_iff_toInt_lt, Int64.lt_iff_toInt_lt, ← Int32.toInt_inj, ← Int64.toInt_inj, Int32.reduceToInt, Int64.reduceToInt, not_true_eq_false, not_false_eq_true, false_and, and_false, true_and, and_true, false_or, or_false, true_or, or_true] at hv23
  try simp only [Int32.lt_iff_toInt_lt, Int64.lt_iff_toInt_lt, ← Int32.toInt_inj, ← Int64.toInt_inj, Int32.reduceToInt, Int64.reduceToInt, not_true_eq_false, not_false_eq_true, false_and, and_false, true_and, and_true, false_or, or_false, true_or, or_true] at hv24
  try simp only [Int32.lt_iff_toInt_lt, Int64.lt_iff_toInt_lt, ← Int32.toInt_inj, ← Int64.toInt_inj, Int32.reduceToInt, Int64.reduceToInt, not_true_eq_false, not_false_eq_true, false_and, and_false, true_and, and_true, false_or, or_false, true_or, or_true] at hv25
  try simp only [Int32.lt_iff_toInt_lt, Int64.lt_iff_toInt_lt, ← Int32.toInt_inj, ← Int64.toInt_inj, Int32.reduceToInt, Int64.reduceToInt, not_true_eq_false, not_false_eq_true, false_and, and_false, true_and, and_true, false_or, or_false, true_or, or_true] at hv26
  try simp only [Int32.lt_iff_toInt_lt, Int64.lt_iff_toInt_lt, ← Int32.toInt_inj, ← Int64.toInt_inj, Int32.reduceToInt, Int64.reduceToInt, not_true_eq_false, not_false_eq_true, false_and, and_false, true_and, and_true, false_or, or_false, true_or, or_true] at hv27
  try simp only [Int32.lt_iff_toInt_lt, Int64.lt_iff_toInt_lt, ← Int32.toInt_inj, ← Int64.toInt_inj, Int32.reduceToInt, Int64.reduceToInt, not_true_eq_false, not_false_eq_true, false_and, and_false, true_and, and_true, false_or, or_false, true_or, or_true] at hc29
  try simp only [Int32.lt_iff_toInt_lt, Int64.lt_iff_toInt_lt, ← Int32.toInt_inj, ← Int64.toInt_inj, Int32.reduceToInt, Int64.reduceToInt, not_true_eq_false, not_false_eq_true, false_and, and_false, true_and, and_true, false_or, or_false, true_or, or_true] at hc45
  try simp only [Int32.lt_iff_toInt_lt, Int64.lt_iff_toInt_lt, ← Int32.toInt_inj, ← Int64.toInt_inj, Int32.reduceToInt, Int64.reduceToInt, not_true_eq_false, not_false_eq_true, false_and, and_false, true_and, and_true, false_or, or_false, true_or, or_true] at hc71
  try simp only [Int32.lt_iff_toInt_lt, Int64.lt_iff_toInt_lt, ← Int32.toInt_inj, ← Int64.toInt_inj, Int32.reduceToInt, Int64.reduceToInt, not_true_eq_false, not_false_eq_true, false_and, and_false, true_and, and_true, false_or, or_false, true_or, or_true] at hc123
  try simp only [Int32.lt_iff_toInt_lt, Int64.lt_iff_toInt_lt, ← Int32.toInt_inj, ← Int64.toInt_inj, Int32.reduceToInt, Int64.reduceToInt, not_true_eq_false, not_false_eq_true, false_and, and_false, true_and, and_true, false_or, or_false, true_or, or_true] at hc125
  try simp only [Int32.lt_iff_toInt_lt, Int64.lt_iff_toInt_lt, ← Int32.toInt_inj, ← Int64.toInt_inj, Int32.reduceToInt, Int64.reduceToInt, not_true_eq_false, not_false_eq_true, false_and, and_false, true_and, and_true, false_or, or_false, true_or, or_true] at hc131
  try simp only [Int32.lt_iff_toInt_lt, Int64.lt_iff_toInt_lt, ← Int32.toInt_inj, ← Int64.toInt_inj, Int32.reduceToInt, Int64.reduceToInt, not_true_eq_false, not_false_eq_true, false_and, and_false, true_and, and_true, false_or, or_false, true_or, or_true] at hc133
  try simp only [Int32.lt_iff_toInt_lt, Int64.lt_iff_toInt_lt, ← Int32.toInt_inj, ← Int64.toInt_inj, Int32.reduceToInt, Int64.reduceToInt, not_true_eq_false, not_false_eq_true, false_and, and_false, true_and, and_true, false_or, or_false, true_or, or_true] at hc135
  have := Int32.le_toInt p0; have := Int32.toInt_lt p0
  have := Int32.le_toInt p1; have := Int32.toInt_lt p1
  have := Int32.le_toInt p2; have := Int32.toInt_lt p2
  have := Int32.le_toInt p3; have := Int32.toInt_lt p3
  have := Int32.le_toInt v15; have := Int32.toInt_lt v15
  have := Int32.le_toInt v18; have := Int32.toInt_lt v18
  have := Int32.le_toInt v23; have := Int32.toInt_lt v23
  have := Int64.le_toInt v24; have := Int64.toInt_lt v24
  have := Int64.le_toInt v25; have := Int64.toInt_lt v25
  have := Int64.le_toInt v26; have := Int64.toInt_lt v26
  have := Int64.le_toInt v27; have := Int64.toInt_lt v27
  have bl1 := Int32.le_toInt ex1; have bu1 := Int32.toInt_lt ex1
  have fa1 := c_mask p1 (2147483647 : Int32) 31 (by decide) (by decide); rw [hex1] at fa1; try simp only [Int32.reduceToInt, Int64.reduceToInt] at fa1
  clear hex1
  have bl2 := Int32.le_toInt ex2; have bu2 := Int32.toInt_lt ex2
  have fa2 := c_mask p3 (1 : Int32) 1 (by decide) (by decide); rw [hex2] at fa2; try simp only [Int32.reduceToInt, Int64.reduceToInt] at fa2
  clear hex2
  have bl3 := Int32.le_toInt ex3; have bu3 := Int32.toInt_lt ex3
  have fa3 := c_mask p2 (7 : Int32) 3 (by decide) (by decide); rw [hex3] at fa3; try simp only [Int32.reduceToInt, Int64.reduceToInt] at fa3
  clear hex3
  have bl4 := Int32.le_toInt ex4; have bu4 := Int32.toInt_lt ex4
  have fa4 := c_mask p2 (2147483647 : Int32) 31 (by decide) (by decide); rw [hex4] at fa4; try simp only [Int32.reduceToInt, Int64.reduceToInt] at fa4
  clear hex4
  try simp only [Int32.lt_iff_toInt_lt, Int64.lt_iff_toInt_lt, ← Int32.toInt_inj, ← Int64.toInt_inj, Int32.reduceToInt, Int64.reduceToInt, not_true_eq_false, not_false_eq_true, false_and, and_false, true_and, and_true, false_or, or_false, true_or, or_true] at fc5
  try simp only [Int32.lt_iff_toInt_lt, Int64.lt_iff_toInt_lt, ← Int32.toInt_inj, ← Int64.toInt_inj, Int32.reduceToInt, Int64.reduceToInt, not_true_eq_false, not_false_eq_true, false_and, and_false, true_and, and_true, false_or, or_false, true_or, or_true] at fc6
  try simp only [Int32.lt_iff_toInt_lt, Int64.lt_iff_toInt_lt, ← Int32.toInt_inj, ← Int64.toInt_inj, Int32.reduceToInt, Int64.reduceToInt, not_true_eq_false, not_false_eq_true, false_and, and_false, true_and, and_true, false_or, or_false, true_or, or_true] at fc7
  have bl8 := Int32.le_toInt ex8; have bu8 := Int32.toInt_lt ex8
  have fa8 := c_isub v15 v18; rw [hex8] at fa8; try simp only [Int32.reduceToInt, Int64.reduceToInt] at fa8
  clear hex8
  have bl9 := Int64.le_toInt ex9; have bu9 := Int64.toInt_lt ex9
  have fa9 := c_i2l p0; rw [hex9] at fa9; try simp only [Int32.reduceToInt, Int64.reduceToInt] at fa9
  clear hex9
  have bl10 := Int64.le_toInt ex10; have bu10 := Int64.toInt_lt ex10
  have fa10 := c_i2l v15; rw [hex10] at fa10; try simp only [Int32.reduceToInt, Int64.reduceToInt] at fa10
  clear hex10
  have bl11 := Int64.le_toInt ex11; have bu11 := Int64.toInt_lt ex11
  have fa11 := c_i2l v18; rw [hex11] at fa11; try simp only [Int32.reduceToInt, Int64.reduceToInt] at fa11
  clear hex11
  have bl12 := Int64.le_toInt ex12; have bu12 := Int64.toInt_lt ex12
  have fa12 := c_i2l v23; rw [hex12] at fa12; try simp only [Int32.reduceToInt, Int64.reduceToInt] at fa12
  clear hex12
  have bl13 := Int64.le_toInt ex13; have bu13 := Int64.toInt_lt ex13
  have fa13 := c_lsub v27 (1 : Int64); rw [hex13] at fa13; try simp only [Int32.reduceToInt, Int64.reduceToInt] at fa13
  clear hex13
  all_goals omega
set_option maxRecDepth 65536 in
set_option maxHeartbeats 40000000 in
theorem own_leaf0_55 (p0 : Int32) (p1 : Int32) (p2 : Int32) (p3 : Int32) (v15 : Int32) (hv15 : v15 = (p1 &&& (2147483647 : Int32))) (v18 : Int32) (hv18 : v18 = (if (p3 &&& (1 : Int32)) = (0 : Int32) then (p2 &&& (2147483647 : Int32)) else (p2 &&& (7 : Int32)))) (v23 : Int32) (hv23 : v23 = (own_f1 p0 v15 v18)) (v24 : Int64) (hv24 : v24 = (p0.toInt64)) (v25 : Int64) (hv25 : v25 = (v15.toInt64)) (v26 : Int64) (hv26 : v26 = (v18.toInt64)) (v27 : Int64) (hv27 : v27 = (v23.toInt64)) (hc29 : ¬ (v18 = (0 : Int32))) (hc45 : ¬ (v25 < v26)) (hc71 : ¬ ((0 : Int64) < v24)) (hc123 : ¬ (v23 = (-1 : Int32))) (hc125 : ¬ (v27 < (0 : Int64))) (hc131 : ¬ (v27 < v24)) (hc137 : v25 < (v27 + v26)) (hc139 : v27 = (0 : Int64)) : False := by
  have dv18 : ((p3 &&& (1 : Int32)) = (0 : Int32) ∧ (v18 = (p2 &&& (2147483647 : Int32)))) ∨ (¬ ((p3 &&& (1 : Int32)) = (0 : Int32)) ∧ (v18 = (p2 &&& (7 : Int32)))) := (if cq0 : (p3 &&& (1 : Int32)) = (0 : Int32) then Or.inl ⟨cq0, (by rw [hv18, if_pos cq0])⟩ else Or.inr ⟨cq0, (by rw [hv18, if_neg cq0])⟩)
  clear hv18
  generalize hex1 : (p1 &&& (2147483647 : Int32)) = ex1 at *
  generalize hex2 : (p3 &&& (1 : Int32)) = ex2 at *
  generalize hex3 : (p2 &&& (7 : Int32)) = ex3 at *
  generalize hex4 : (p2 &&& (2147483647 : Int32)) = ex4 at *
  have fc5 := own_f1_cases p0 v15 v18
  generalize own_f1 p0 v15 v18 = ex5 at *
  have fc6 := own_f2_cases p0 (0 : Int32)
  generalize own_f2 p0 (0 : Int32) = ex6 at *
  have fc7 := own_f3_cases ex6 v15
  generalize own_f3 ex6 v15 = ex7 at *
  generalize hex8 : (v15 - v18) = ex8 at *
  generalize hex9 : (p0.toInt64) = ex9 at *
  generalize hex10 : (v15.toInt64) = ex10 at *
  generalize hex11 : (v18.toInt64) = ex11 at *
  generalize hex12 : (v23.toInt64) = ex12 at *
  generalize hex13 : (v27 + v26) = ex13 at *
  try simp only [Int32.lt_iff_toInt_lt, Int64.lt_iff_toInt_lt, ← Int32.toInt_inj, ← Int64.toInt_inj, Int32.reduceToInt, Int64.reduceToInt, not_true_eq_false, not_false_eq_true, false_and, and_false, true_and, and_true, false_or, or_false, true_or, or_true] at dv18
  try simp only [Int32.lt_iff_toInt_lt, Int64.lt_iff_toInt_lt, ← Int32.toInt_inj, ← Int64.toInt_inj, Int32.reduceToInt, Int64.reduceToInt, not_true_eq_false, not_false_eq_true, false_and, and_false, true_and, and_true, false_or, or_false, true_or, or_true] at hv15
  try simp only [Int32.lt_iff_toInt_lt, Int64.lt_iff_toInt_lt, ← Int32.toInt_inj, ← Int64.toInt_inj, Int32.reduceToInt, Int64.reduceToInt, not_true_eq_false, not_false_eq_true, false_and, and_false, true_and, and_true, false_or, or_false, true_or, or_true] at hv23
  try simp only [Int32.lt_iff_toInt_lt, Int64.lt_iff_toInt_lt, ← Int32.toInt_inj, ← Int64.toInt_inj, Int32.reduceToInt, Int64.reduceToInt, not_true_eq_false, not_false_eq_true, false_and, and_false, true_and, and_true, false_or, or_false, true_or, or_true] at hv24
  try simp only [Int32.lt_iff_toInt_lt, Int64.lt_iff_toInt_lt, ← Int32.toInt_inj, ← Int64.toInt_inj, Int32.reduceToInt, Int64.reduceToInt, not_true_eq_false, not_false_eq_true, false_and, and_false, true_and, and_true, false_or, or_false, true_or, or_true] at hv25
  try simp only [Int32.lt_iff_toInt_lt, Int64.lt_iff_toInt_lt, ← Int32.toInt_inj, ← Int64.toInt_inj, Int32.reduceToInt, Int64.reduceToInt, not_true_eq_false, not_false_eq_true, false_and, and_false, true_and, and_true, false_or, or_false, true_or, or_true] at hv26
  try simp only [Int32.lt_iff_toInt_lt, Int64.lt_iff_toInt_lt, ← Int32.toInt_inj, ← Int64.toInt_inj, Int32.reduceToInt, Int64.reduceToInt, not_true_eq_false, not_false_eq_true, false_and, and_false, true_and, and_true, false_or, or_false, true_or, or_true] at hv27
  try simp only [Int32.lt_iff_toInt_lt, Int64.lt_iff_toInt_lt, ← Int32.toInt_inj, ← Int64.toInt_inj, Int32.reduceToInt, Int64.reduceToInt, not_true_eq_false, not_false_eq_true, false_and, and_false, true_and, and_true, false_or, or_false, true_or, or_true] at hc29
  try simp only [Int32.lt_iff_toInt_lt, Int64.lt_iff_toInt_lt, ← Int32.toInt_inj, ← Int64.toInt_inj, Int32.reduceToInt, Int64.reduceToInt, not_true_eq_false, not_false_eq_true, false_and, and_false, true_and, and_true, false_or, or_false, true_or, or_true] at hc45
  try simp only [Int32.lt_iff_toInt_lt, Int64.lt_iff_toInt_lt, ← Int32.toInt_inj, ← Int64.toInt_inj, Int32.reduceToInt, Int64.reduceToInt, not_true_eq_false, not_false_eq_true, false_and, and_false, true_and, and_true, false_or, or_false, true_or, or_true] at hc71
  try simp only [Int32.lt_iff_toInt_lt, Int64.lt_iff_toInt_lt, ← Int32.toInt_inj, ← Int64.toInt_inj, Int32.reduceToInt, Int64.reduceToInt, not_true_eq_false, not_false_eq_true, false_and, and_false, true_and, and_true, false_or, or_false, true_or, or_true] at hc123
  try simp only [Int32.lt_iff_toInt_lt, Int64.lt_iff_toInt_lt, ← Int32.toInt_inj, ← Int64.toInt_inj, Int32.reduceToInt, Int64.reduceToInt, not_true_eq_false, not_false_eq_true, false_and, and_false, true_and, and_true, false_or, or_false, true_or, or_true] at hc125
  try simp only [Int32.lt_iff_toInt_lt, Int64.lt_iff_toInt_lt, ← Int32.toInt_inj, ← Int64.toInt_inj, Int32.reduceToInt, Int64.reduceToInt, not_true_eq_false, not_false_eq_true, false_and, and_false, true_and, and_true, false_or, or_false, true_or, or_true] at hc131
  try simp only [Int32.lt_iff_toInt_lt, Int64.lt_iff_toInt_lt, ← Int32.toInt_inj, ← Int64.toInt_inj, Int32.reduceToInt, Int64.reduceToInt, not_true_eq_false, not_false_eq_true, false_and, and_false, true_and, and_true, false_or, or_false, true_or, or_true] at hc137
  try simp only [Int32.lt_iff_toInt_lt, Int64.lt_iff_toInt_lt, ← Int32.toInt_inj, ← Int64.toInt_inj, Int32.reduceToInt, Int64.reduceToInt, not_true_eq_false, not_false_eq_true, false_and, and_false, true_and, and_true, false_or, or_false, true_or, or_true] at hc139
  have := Int32.le_toInt p0; have := Int32.toInt_lt p0
  have := Int32.le_toInt p1; have := Int32.toInt_lt p1
  have := Int32.le_toInt p2; have := Int32.toInt_lt p2
  have := Int32.le_toInt p3; have := Int32.toInt_lt p3
  have := Int32.le_toInt v15; have := Int32.toInt_lt v15
  have := Int32.le_toInt v18; have := Int32.toInt_lt v18
  have := Int32.le_toInt v23; have := Int32.toInt_lt v23
  have := Int64.le_toInt v24; have := Int64.toInt_lt v24
  have := Int64.le_toInt v25; have := Int64.toInt_lt v25
  have := Int64.le_toInt v26; have := Int64.toInt_lt v26
  have := Int64.le_toInt v27; have := Int64.toInt_lt v27
  have bl1 := Int32.le_toInt ex1; have bu1 := Int32.toInt_lt ex1
  have fa1 := c_mask p1 (2147483647 : Int32) 31 (by decide) (by decide); rw [hex1] at fa1; try simp only [Int32.reduceToInt, Int64.reduceToInt] at fa1
  clear hex1
  have bl2 := Int32.le_toInt ex2; have bu2 := Int32.toInt_lt ex2
  have fa2 := c_mask p3 (1 : Int32) 1 (by decide) (by decide); rw [hex2] at fa2; try simp only [Int32.reduceToInt, Int64.reduceToInt] at fa2
  clear hex2
  have bl3 := Int32.le_toInt ex3; have bu3 := Int32.toInt_lt ex3
  have fa3 := c_mask p2 (7 : Int32) 3 (by decide) (by decide); rw [hex3] at fa3; try simp only [Int32.reduceToInt, Int64.reduceToInt] at fa3
  clear hex3
  have bl4 := Int32.le_toInt ex4; have bu4 := Int32.toInt_lt ex4
  have fa4 := c_mask p2 (2147483647 : Int32) 31 (by decide) (by decide); rw [hex4] at fa4; try simp only [Int32.reduceToInt, Int64.reduceToInt] at fa4
  clear hex4
  try simp only [Int32.lt_iff_toInt_lt, Int64.lt_iff_toInt_lt, ← Int32.toInt_inj, ← Int64.toInt_inj, Int32.reduceToInt, Int64.reduceToInt, not_true_eq_false, not_false_eq_true, false_and, and_false, true_and, and_true, false_or, or_false, true_or, or_true] at fc5
  try simp only [Int32.lt_iff_toInt_lt, Int64.lt_iff_toInt_lt, ← Int32.toInt_inj, ← Int64.toInt_inj, Int32.reduceToInt, Int64.reduceToInt, not_true_eq_false, not_false_eq_true, false_and, and_false, true_and, and_true, false_or, or_false, true_or, or_true] at fc6
  try simp only [Int32.lt_iff_toInt_lt, Int64.lt_iff_toInt_lt, ← Int32.toInt_inj, ← Int64.toInt_inj, Int32.reduceToInt, Int64.reduceToInt, not_true_eq_false, not_false_eq_true, false_and, and_false, true_and, and_true, false_or, or_false, true_or, or_true] at fc7
  have bl8 := Int32.le_toInt ex8; have bu8 := Int32.toInt_lt ex8
  have fa8 := c_isub v15 v18; rw [hex8] at fa8; try simp only [Int32.reduceToInt, Int64.reduceToInt] at fa8
  clear hex8
  have bl9 := Int64.le_toInt ex9; have bu9 := Int64.toInt_lt ex9
  have fa9 := c_i2l p0; rw [hex9] at fa9; try simp only [Int32.reduceToInt, Int64.reduceToInt] at fa9
  clear hex9
  have bl10 := Int64.le_toInt ex10; have bu10 := Int64.toInt_lt ex10
  have fa10 := c_i2l v15; rw [hex10] at fa10; try simp only [Int32.reduceToInt, Int64.reduceToInt] at fa10
  clear hex10
  have bl11 := Int64.le_toInt ex11; have bu11 := Int64.toInt_lt ex11
  have fa11 := c_i2l v18; rw [hex11] at fa11; try simp only [Int32.reduceToInt, Int64.reduceToInt] at fa11
  clear hex11
  have bl12 := Int64.le_toInt ex12; have bu12 := Int64.toInt_lt ex12
  have fa12 := c_i2l v23; rw [hex12] at fa12; try simp only [Int32.reduceToInt, Int64.reduceToInt] at fa12
  clear hex12
  have bl13 := Int64.le_toInt ex13; have bu13 := Int64.toInt_lt ex13
  have fa13 := c_ladd v27 v26; rw [hex13] at fa13; try simp only [Int32.reduceToInt, Int64.reduceToInt] at fa13
  clear hex13
  all_goals omega
set_option maxRecDepth 65536 in
set_option maxHeartbeats 40000000 in
theorem own_leaf0_56 (p0 : Int32) (p1 : Int32) (p2 : Int32) (p3 : Int32) (v15 : Int32) (hv15 : v15 = (p1 &&& (2147483647 : Int32))) (v18 : Int32) (hv18 : v18 = (if (p3 &&& (1 : Int32)) = (0 : Int32) then (p2 &&& (2147483647 : Int32)) else (p2 &&& (7 : Int32)))) (v23 : Int32) (hv23 : v23 = (own_f1 p0 v15 v18)) (v24 : Int64) (hv24 : v24 = (p0.toInt64)) (v25 : Int64) (hv25 : v25 = (v15.toInt64)) (v26 : Int64) (hv26 : v26 = (v18.toInt64)) (v27 : Int64) (hv27 : v27 = (v23.toInt64)) (hc29 : ¬ (v18 = (0 : Int32))) (hc45 : ¬ (v25 < v26)) (hc71 : ¬ ((0 : Int64) < v24)) (hc123 : ¬ (v23 = (-1 : Int32))) (hc125 : ¬ (v27 < (0 : Int64))) (hc131 : ¬ (v27 < v24)) (hc137 : v25 < (v27 + v26)) (hc139 : ¬ (v27 = (0 : Int64))) (hc141 : (v27 - (1 : Int64)) < v24) : False := by
  have dv18 : ((p3 &&& (1 : Int32)) = (0 : Int32) ∧ (v18 = (p2 &&& (2147483647 : Int32)))) ∨ (¬ ((p3 &&& (1 : Int32)) = (0 : Int32)) ∧ (v18 = (p2 &&& (7 : Int32)))) := (if cq0 : (p3 &&& (1 : Int32)) = (0 : Int32) then Or.inl ⟨cq0, (by rw [hv18, if_pos cq0])⟩ else Or.inr ⟨cq0, (by rw [hv18, if_neg cq0])⟩)
  clear hv18
  generalize hex1 : (p1 &&& (2147483647 : Int32)) = ex1 at *
  generalize hex2 : (p3 &&& (1 : Int32)) = ex2 at *
  generalize hex3 : (p2 &&& (7 : Int32)) = ex3 at *
  generalize hex4 : (p2 &&& (2147483647 : Int32)) = ex4 at *
  have fc5 := own_f1_cases p0 v15 v18
  generalize own_f1 p0 v15 v18 = ex5 at *
  have fc6 := own_f2_cases p0 (0 : Int32)
  generalize own_f2 p0 (0 : Int32) = ex6 at *
  have fc7 := own_f3_cases ex6 v15
  generalize own_f3 ex6 v15 = ex7 at *
  generalize hex8 : (v15 - v18) = ex8 at *
  generalize hex9 : (p0.toInt64) = ex9 at *
  generalize hex10 : (v15.toInt64) = ex10 at *
  generalize hex11 : (v18.toInt64) = ex11 at *
  generalize hex12 : (v23.toInt64) = ex12 at *
  generalize hex13 : (v27 + v26) = ex13 at *
  generalize hex14 : (v27 - (1 : Int64)) = ex14 at *
  try simp only [Int32.lt_iff_toInt_lt, Int64.lt_iff_toInt_lt, ← Int32.toInt_inj, ← Int64.toInt_inj, Int32.reduceToInt, Int64.reduceToInt, not_true_eq_false, not_false_eq_true, false_and, and_false, true_and, and_true, false_or, or_false, true_or, or_true] at dv18
  try simp only [Int32.lt_iff_toInt_lt, Int64.lt_iff_toInt_lt, ← Int32.toInt_inj, ← Int64.toInt_inj, Int32.reduceToInt, Int64.reduceToInt, not_true_eq_false, not_false_eq_true, false_and, and_false, true_and, and_true, false_or, or_false, true_or, or_true] at hv15
  try simp only [Int32.lt_iff_toInt_lt, Int64.lt_iff_toInt_lt, ← Int32.toInt_inj, ← Int64.toInt_inj, Int32.reduceToInt, Int64.reduceToInt, not_true_eq_false, not_false_eq_true, false_and, and_false, true_and, and_true, false_or, or_false, true_or, or_true] at hv23
  try simp only [Int32.lt_iff_toInt_lt, Int64.lt_iff_toInt_lt, ← Int32.toInt_inj, ← Int64.toInt_inj, Int32.reduceToInt, Int64.reduceToInt, not_true_eq_false, not_false_eq_true, false_and, and_false, true_and, and_true, false_or, or_false, true_or, or_true] at hv24
  try simp only [Int32.lt_iff_toInt_lt, Int64.lt_iff_toInt_lt, ← Int32.toInt_inj, ← Int64.toInt_inj, Int32.reduceToInt, Int64.reduceToInt, not_true_eq_false, not_false_eq_true, false_and, and_false, true_and, and_true, false_or, or_false, true_or, or_true] at hv25
  try simp only [Int32.lt_iff_toInt_lt, Int64.lt_iff_toInt_lt, ← Int32.toInt_inj, ← Int64.toInt_inj, Int32.reduceToInt, Int64.reduceToInt, not_true_eq_false, not_false_eq_true, false_and, and_false, true_and, and_true, false_or, or_false, true_or, or_true] at hv26
  try simp only [Int32.lt_iff_toInt_lt, Int64.lt_iff_toInt_lt, ← Int32.toInt_inj, ← Int64.toInt_inj, Int32.reduceToInt, Int64.reduceToInt, not_true_eq_false, not_false_eq_true, false_and, and_false, true_and, and_true, false_or, or_false, true_or, or_true] at hv27
  try simp only [Int32.lt_iff_toInt_lt, Int64.lt_iff_toInt_lt, ← Int32.toInt_inj, ← Int64.toInt_inj, Int32.reduceToInt, Int64.reduceToInt, not_true_eq_false, not_false_eq_true, false_and, and_false, true_and, and_true, false_or, or_false, true_or, or_true] at hc29
  try simp only [Int32.lt_iff_toInt_lt, Int64.lt_iff_toInt_lt, ← Int32.toInt_inj, ← Int64.toInt_inj, Int32.reduceToInt, Int64.reduceToInt, not_true_eq_false, not_false_eq_true, false_and, and_false, true_and, and_true, false_or, or_false, true_or, or_true] at hc45
  try simp only [Int32.lt_iff_toInt_lt, Int64.lt_iff_toInt_lt, ← Int32.toInt_inj, ← Int64.toInt_inj, Int32.reduceToInt, Int64.reduceToInt, not_true_eq_false, not_false_eq_true, false_and, and_false, true_and, and_true, false_or, or_false, true_or, or_true] at hc71
  try simp only [Int32.lt_iff_toInt_lt, Int64.lt_iff_toInt_lt, ← Int32.toInt_inj, ← Int64.toInt_inj, Int32.reduceToInt, Int64.reduceToInt, not_true_eq_false, not_false_eq_true, false_and, and_false, true_and, and_true, false_or, or_false, true_or, or_true] at hc123
  try simp only [Int32.lt_iff_toInt_lt, Int64.lt_iff_toInt_lt, ← Int32.toInt_inj, ← Int64.toInt_inj, Int32.reduceToInt, Int64.reduceToInt, not_true_eq_false, not_false_eq_true, false_and, and_false, true_and, and_true, false_or, or_false, true_or, or_true] at hc125
  try simp only [Int32.lt_iff_toInt_lt, Int64.lt_iff_toInt_lt, ← Int32.toInt_inj, ← Int64.toInt_inj, Int32.reduceToInt, Int64.reduceToInt, not_true_eq_false, not_false_eq_true, false_and, and_false, true_and, and_true, false_or, or_false, true_or, or_true] at hc131
  try simp only [Int32.lt_iff_toInt_lt, Int64.lt_iff_toInt_lt, ← Int32.toInt_inj, ← Int64.toInt_inj, Int32.reduceToInt, Int64.reduceToInt, not_true_eq_false, not_false_eq_true, false_and, and_false, true_and, and_true, false_or, or_false, true_or, or_true] at hc137
  try simp only [Int32.lt_iff_toInt_lt, Int64.lt_iff_toInt_lt, ← Int32.toInt_inj, ← Int64.toInt_inj, Int32.reduceToInt, Int64.reduceToInt, not_true_eq_false, not_false_eq_true, false_and, and_false, true_and, and_true, false_or, or_false, true_or, or_true] at hc139
  try simp only [Int32.lt_iff_toInt_lt, Int64.lt_iff_toInt_lt, ← Int32.toInt_inj, ← Int64.toInt_inj, Int32.reduceToInt, Int64.reduceToInt, not_true_eq_false, not_false_eq_true, false_and, and_false, true_and, and_true, false_or, or_false, true_or, or_true] at hc141
  have := Int32.le_toInt p0; have := Int32.toInt_lt p0
  have := Int32.le_toInt p1; have := Int32.toInt_lt p1
  have := Int32.le_toInt p2; have := Int32.toInt_lt p2
  have := Int32.le_toInt p3; have := Int32.toInt_lt p3
  have := Int32.le_toInt v15; have := Int32.toInt_lt v15
  have := Int32.le_toInt v18; have := Int32.toInt_lt v18
  have := Int32.le_toInt v23; have := Int32.toInt_lt v23
  have := Int64.le_toInt v24; have := Int64.toInt_lt v24
  have := Int64.le_toInt v25; have := Int64.toInt_lt v25
  have := Int64.le_toInt v26; have := Int64.toInt_lt v26
  have := Int64.le_toInt v27; have := Int64.toInt_lt v27
  have bl1 := Int32.le_toInt ex1; have bu1 := Int32.toInt_lt ex1
  have fa1 := c_mask p1 (2147483647 : Int32) 31 (by decide) (by decide); rw [hex1] at fa1; try simp only [Int32.reduceToInt, Int64.reduceToInt] at fa1
  clear hex1
  have bl2 := Int32.le_toInt ex2; have bu2 := Int32.toInt_lt ex2
  have fa2 := c_mask p3 (1 : Int32) 1 (by decide) (by decide); rw [hex2] at fa2; try simp only [Int32.reduceToInt, Int64.reduceToInt] at fa2
  clear hex2
  have bl3 := Int32.le_toInt ex3; have bu3 := Int32.toInt_lt ex3
  have fa3 := c_mask p2 (7 : Int32) 3 (by decide) (by decide); rw [hex3] at fa3; try simp only [Int32.reduceToInt, Int64.reduceToInt] at fa3
  clear hex3
  have bl4 := Int32.le_toInt ex4; have bu4 := Int32.toInt_lt ex4
  have fa4 := c_mask p2 (2147483647 : Int32) 31 (by decide) (by decide); rw [hex4] at fa4; try simp only [Int32.reduceToInt, Int64.reduceToInt] at fa4
  clear hex4
  try simp only [Int32.lt_iff_toInt_lt, Int64.lt_iff_toInt_lt, ← Int32.toInt_inj, ← Int64.toInt_inj, Int32.reduceToInt, Int64.reduceToInt, not_true_eq_false, not_false_eq_true, false_and, and_false, true_and, and_true, false_or, or_false, true_or, or_true] at fc5
  try simp only [Int32.lt_iff_toInt_lt, Int64.lt_iff_toInt_lt, ← Int32.toInt_inj, ← Int64.toInt_inj, Int32.reduceToInt, Int64.reduceToInt, not_true_eq_false, not_false_eq_true, false_and, and_false, true_and, and_true, false_or, or_false, true_or, or_true] at fc6
  try simp only [Int32.lt_iff_toInt_lt, Int64.lt_iff_toInt_lt, ← Int32.toInt_inj, ← Int64.toInt_inj, Int32.reduceToInt, Int64.reduceToInt, not_true_eq_false, not_false_eq_true, false_and, and_false, true_and, and_true, false_or, or_false, true_or, or_true] at fc7
  have bl8 := Int32.le_toInt ex8; have bu8 := Int32.toInt_lt ex8
  have fa8 := c_isub v15 v18; rw [hex8] at fa8; try simp only [Int32.reduceToInt, Int64.reduceToInt] at fa8
  clear hex8
  have bl9 := Int64.le_toInt ex9; have bu9 := Int64.toInt_lt ex9
  have fa9 := c_i2l p0; rw [hex9] at fa9; try simp only [Int32.reduceToInt, Int64.reduceToInt] at fa9
  clear hex9
  have bl10 := Int64.le_toInt ex10; have bu10 := Int64.toInt_lt ex10
  have fa10 := c_i2l v15; rw [hex10] at fa10; try simp only [Int32.reduceToInt, Int64.reduceToInt] at fa10
  clear hex10
  have bl11 := Int64.le_toInt ex11; have bu11 := Int64.toInt_lt ex11
  have fa11 := c_i2l v18; rw [hex11] at fa11; try simp only [Int32.reduceToInt, Int64.reduceToInt] at fa11
  clear hex11
  have bl12 := Int64.le_toInt ex12; have bu12 := Int64.toInt_lt ex12
  have fa12 := c_i2l v23; rw [hex12] at fa12; try simp only [Int32.reduceToInt, Int64.reduceToInt] at fa12
  clear hex12
  have bl13 := Int64.le_toInt ex13; have bu13 := Int64.toInt_lt ex13
  have fa13 := c_ladd v27 v26; rw [hex13] at fa13; try simp only [Int32.reduceToInt, Int64.reduceToInt] at fa13
  clear hex13
  have bl14 := Int64.le_toInt ex14; have bu14 := Int64.toInt_lt ex14
  have fa14 := c_lsub v27 (1 : Int64); rw [hex14] at fa14; try simp only [Int32.reduceToInt, Int64.reduceToInt] at fa14
  clear hex14
  all_goals omega
set_option maxRecDepth 65536 in
set_option maxHeartbeats 40000000 in
theorem own_leaf0_57 (p0 : Int32) (p1 : Int32) (p2 : Int32) (p3 : Int32) (v15 : Int32) (hv15 : v15 = (p1 &&& (2147483647 : Int32))) (v18 : Int32) (hv18 : v18 = (if (p3 &&& (1 : Int32)) = (0 : Int32) then (p2 &&& (2147483647 : Int32)) else (p2 &&& (7 : Int32)))) (v23 : Int32) (hv23 : v23 = (own_f1 p0 v15 v18)) (v24 : Int64) (hv24 : v24 = (p0.toInt64)) (v25 : Int64) (hv25 : v25 = (v15.toInt64)) (v26 : Int64) (hv26 : v26 = (v18.toInt64)) (v27 : Int64) (hv27 : v27 = (v23.toInt64)) (hc29 : ¬ (v18 = (0 : Int32))) (hc45 : ¬ (v25 < v26)) (hc71 : ¬ ((0 : Int64) < v24)) (hc123 : ¬ (v23 = (-1 : Int32))) (hc125 : ¬ (v27 < (0 : Int64))) (hc131 : ¬ (v27 < v24)) (hc137 : v25 < (v27 + v26)) (hc139 : ¬ (v27 = (0 : Int64))) (hc141 : ¬ ((v27 - (1 : Int64)) < v24)) : False := by
  have dv18 : ((p3 &&& (1 : Int32)) = (0 : Int32) ∧ (v18 = (p2 &&& (2147483647 : Int32)))) ∨ (¬ ((p3 &&& (1 : Int32)) = (0 : Int32)) ∧ (v18 = (p2 &&& (7 : Int32)))) := (if cq0 : (p3 &&& (1 : Int32)) = (0 : Int32) then Or.inl ⟨cq0, (by rw [hv18, if_pos cq0])⟩ else Or.inr ⟨cq0, (by rw [hv18, if_neg cq0])⟩)
  clear hv18
  generalize hex1 : (p1 &&& (2147483647 : Int32)) = ex1 at *
  generalize hex2 : (p3 &&& (1 : Int32)) = ex2 at *
  generalize hex3 : (p2 &&& (7 : Int32)) = ex3 at *
  generalize hex4 : (p2 &&& (2147483647 : Int32)) = ex4 at *
  have fc5 := own_f1_cases p0 v15 v18
  generalize own_f1 p0 v15 v18 = ex5 at *
  have fc6 := own_f2_cases p0 (0 : Int32)
  generalize own_f2 p0 (0 : Int32) = ex6 at *
  have fc7 := own_f3_cases ex6 v15
  generalize own_f3 ex6 v15 = ex7 at *
  generalize hex8 : (v15 - v18) = ex8 at *
  generalize hex9 : (p0.toInt64) = ex9 at *
  generalize hex10 : (v15.toInt64) = ex10 at *
  generalize hex11 : (v18.toInt64) = ex11 at *
  generalize hex12 : (v23.toInt64) = ex12 at *
  generalize hex13 : (v27 + v26) = ex13 at *
  generalize hex14 : (v27 - (1 : Int64)) = ex14 at *
  try simp only [Int32.lt_iff_toInt_lt, Int64.lt_iff_toInt_lt, ← Int32.toInt_inj, ← Int64.toInt_inj, Int32.reduceToInt, Int64.reduceToInt, not_true_eq_false, not_false_eq_true, false_and, and_false, true_and, and_true, false_or, or_false, true_or, or_true] at dv18
  try simp only [Int32.lt_iff_toInt_lt, Int64.lt_iff_toInt_lt, ← Int32.toInt_inj, ← Int64.toInt_inj, Int32.reduceToInt, Int64.reduceToInt, not_true_eq_false, not_false_eq_true, false_and, and_false, true_and, and_true, false_or, or_false, true_or, or_true] at hv15
  try simp only [Int32.lt_iff_toInt_lt, Int64.lt_iff_toInt_lt, ← Int32.toInt_inj, ← Int64.toInt_inj, Int32.reduceToInt, Int64.reduceToInt, not_true_eq_false, not_false_eq_true, false_and, and_false, true_and, and_true, false_or, or_false, true_or, or_true] at hv23
  try simp only [Int32.lt_iff_toInt_lt, Int64.lt_iff_toInt_lt, ← Int32.toInt_inj, ← Int64.toInt_inj, Int32.reduceToInt, Int64.reduceToInt, not_true_eq_false, not_false_eq_true, false_and, and_false, true_and, and_true, false_or, or_false, true_or, or_true] at hv24
  try simp only [Int32.lt_iff_toInt_lt, Int64.lt_iff_toInt_lt, ← Int32.toInt_inj, ← Int64.toInt_inj, Int32.reduceToInt, Int64.reduceToInt, not_true_eq_false, not_false_eq_true, false_and, and_false, true_and, and_true, false_or, or_false, true_or, or_true] at hv25
  try simp only [Int32.lt_iff_toInt_lt, Int64.lt_iff_toInt_lt, ← Int32.toInt_inj, ← Int64.toInt_inj, Int32.reduceToInt, Int64.reduceToInt, not_true_eq_false, not_false_eq_true, false_and, and_false, true_and, and_true, false_or, or_false, true_or, or_true] at hv26
  try simp only [Int32.lt_iff_toInt_lt, Int64.lt_iff_toInt_lt, ← Int32.toInt_inj, ← Int64.toInt_inj, Int32.reduceToInt, Int64.reduceToInt, not_true_eq_false, not_false_eq_true, false_and, and_false, true_and, and_true, false_or, or_false, true_or, or_true] at hv27
  try simp only [Int32.lt_iff_toInt_lt, Int64.lt_iff_toInt_lt, ← Int32.toInt_inj, ← Int64.toInt_inj, Int32.reduceToInt, Int64.reduceToInt, not_true_eq_false, not_false_eq_true, false_and, and_false, true_and, and_true, false_or, or_false, true_or, or_true] at hc29
  try simp only [Int32.lt_iff_toInt_lt, Int64.lt_iff_toInt_lt, ← Int32.toInt_inj, ← Int64.toInt_inj, Int32.reduceToInt, Int64.reduceToInt, not_true_eq_false, not_false_eq_true, false_and, and_false, true_and, and_true, false_or, or_false, true_or, or_true] at hc45
  try simp only [Int32.lt_iff_toInt_lt, Int64.lt_iff_toInt_lt, ← Int32.toInt_inj, ← Int64.toInt_inj, Int32.reduceToInt, Int64.reduceToInt, not_true_eq_false, not_false_eq_true, false_and, and_false, true_and, and_true, false_or, or_false, true_or, or_true] at hc71
  try simp only [Int32.lt_iff_toInt_lt, Int64.lt_iff_toInt_lt, ← Int32.toInt_inj, ← Int64.toInt_inj, Int32.reduceToInt, Int64.reduceToInt, not_true_eq_false, not_false_eq_true, false_and, and_false, true_and, and_true, false_or, or_false, true_or, or_true] at hc123
  try simp only [Int32.lt_iff_toInt_lt, Int64.lt_iff_toInt_lt, ← Int32.toInt_inj, ← Int64.toInt_inj, Int32.reduceToInt, Int64.reduceToInt, not_true_eq_false, not_false_eq_true, false_and, and_false, true_and, and_true, false_or, or_false, true_or, or_true] at hc125
  try simp only [Int32.lt_iff_toInt_lt, Int64.lt_iff_toInt_lt, ← Int32.toInt_inj, ← Int64.toInt_inj, Int32.reduceToInt, Int64.reduceToInt, not_true_eq_false, not_false_eq_true, false_and, and_false, true_and, and_true, false_or, or_false, true_or, or_true] at hc131
  try simp only [Int32.lt_iff_toInt_lt, Int64.lt_iff_toInt_lt, ← Int32.toInt_inj, ← Int64.toInt_inj, Int32.reduceToInt, Int64.reduceToInt, not_true_eq_false, not_false_eq_true, false_and, and_false, true_and, and_true, false_or, or_false, true_or, or_true] at hc137
  try simp only [Int32.lt_iff_toInt_lt, Int64.lt_iff_toInt_lt, ← Int32.toInt_inj, ← Int64.toInt_inj, Int32.reduceToInt, Int64.reduceToInt, not_true_eq_false, not_false_eq_true, false_and, and_false, true_and, and_true, false_or, or_false, true_or, or_true] at hc139
  try simp only [Int32.lt_iff_toInt_lt, Int64.lt_iff_toInt_lt, ← Int32.toInt_inj, ← Int64.toInt_inj, Int32.reduceToInt, Int64.reduceToInt, not_true_eq_false, not_false_eq_true, false_and, and_false, true_and, and_true, false_or, or_false, true_or, or_true] at hc141
  have := Int32.le_toInt p0; have := Int32.toInt_lt p0
  have := Int32.le_toInt p1; have := Int32.toInt_lt p1
  have := Int32.le_toInt p2; have := Int32.toInt_lt p2
  have := Int32.le_toInt p3; have := Int32.toInt_lt p3
  have := Int32.le_toInt v15; have := Int32.toInt_lt v15
  have := Int32.le_toInt v18; have := Int32.toInt_lt v18
  have := Int32.le_toInt v23; have := Int32.toInt_lt v23
  have := Int64.le_toInt v24; have := Int64.toInt_lt v24
  have := Int64.le_toInt v25; have := Int64.toInt_lt v25
  have := Int64.le_toInt v26; have := Int64.toInt_lt v26
  have := Int64.le_toInt v27; have := Int64.toInt_lt v27
  have bl1 := Int32.le_toInt ex1; have bu1 := Int32.toInt_lt ex1
  have fa1 := c_mask p1 (2147483647 : Int32) 31 (by decide) (by decide); rw [hex1] at fa1; try simp only [Int32.reduceToInt, Int64.reduceToInt] at fa1
  clear hex1
  have bl2 := Int32.le_toInt ex2; have bu2 := Int32.toInt_lt ex2
  have fa2 := c_mask p3 (1 : Int32) 1 (by decide) (by decide); rw [hex2] at fa2; try simp only [Int32.reduceToInt, Int64.reduceToInt] at fa2
  clear hex2
  have bl3 := Int32.le_toInt ex3; have bu3 := Int32.toInt_lt ex3
  have fa3 := c_mask p2 (7 : Int32) 3 (by decide) (by decide); rw [hex3] at fa3; try simp only [Int32.reduceToInt, Int64.reduceToInt] at fa3
  clear hex3
  have bl4 := Int32.le_toInt ex4; have bu4 := Int32.toInt_lt ex4
  have fa4 := c_mask p2 (2147483647 : Int32) 31 (by decide) (by decide); rw [hex4] at fa4; try simp only [Int32.reduceToInt, Int64.reduceToInt] at fa4
  clear hex4
  try simp only [Int32.lt_iff_toInt_lt, Int64.lt_iff_toInt_lt, ← Int32.toInt_inj, ← Int64.toInt_inj, Int32.reduceToInt, Int64.reduceToInt, not_true_eq_false, not_false_eq_true, false_and, and_false, true_and, and_true, false_or, or_false, true_or, or_true] at fc5
  try simp only [Int32.lt_iff_toInt_lt, Int64.lt_iff_toInt_lt, ← Int32.toInt_inj, ← Int64.toInt_inj, Int32.reduceToInt, Int64.reduceToInt, not_true_eq_false, not_false_eq_true, false_and, and_false, true_and, and_true, false_or, or_false, true_or, or_true] at fc6
  try simp only [Int32.lt_iff_toInt_lt, Int64.lt_iff_toInt_lt, ← Int32.toInt_inj, ← Int64.toInt_inj, Int32.reduceToInt, Int64.reduceToInt, not_true_eq_false, not_false_eq_true, false_and, and_false, true_and, and_true, false_or, or_false, true_or, or_true] at fc7
  have bl8 := Int32.le_toInt ex8; have bu8 := Int32.toInt_lt ex8
  have fa8 := c_isub v15 v18; rw [hex8] at fa8; try simp only [Int32.reduceToInt, Int64.reduceToInt] at fa8
  clear hex8
  have bl9 := Int64.le_toInt ex9; have bu9 := Int64.toInt_lt ex9
  have fa9 := c_i2l p0; rw [hex9] at fa9; try simp only [Int32.reduceToInt, Int64.reduceToInt] at fa9
  clear hex9
  have bl10 := Int64.le_toInt ex10; have bu10 := Int64.toInt_lt ex10
  have fa10 := c_i2l v15; rw [hex10] at fa10; try simp only [Int32.reduceToInt, Int64.reduceToInt] at fa10
  clear hex10
  have bl11 := Int64.le_toInt ex11; have bu11 := Int64.toInt_lt ex11
  have fa11 := c_i2l v18; rw [hex11] at fa11; try simp only [Int32.reduceToInt, Int64.reduceToInt] at fa11
  clear hex11
  have bl12 := Int64.le_toInt ex12; have bu12 := Int64.toInt_lt ex12
  have fa12 := c_i2l v23; rw [hex12] at fa12; try simp only [Int32.reduceToInt, Int64.reduceToInt] at fa12
  clear hex12
  have bl13 := Int64.le_toInt ex13; have bu13 := Int64.toInt_lt ex13
  have fa13 := c_ladd v27 v26; rw [hex13] at fa13; try simp only [Int32.reduceToInt, Int64.reduceToInt] at fa13
  clear hex13
  have bl14 := Int64.le_toInt ex14; have bu14 := Int64.toInt_lt ex14
  have fa14 := c_lsub v27 (1 : Int64); rw [hex14] at fa14; try simp only [Int32.reduceToInt, Int64.reduceToInt] at fa14
  clear hex14
  all_goals omega
set_option maxRecDepth 65536 in
set_option maxHeartbeats 40000000 in
theorem own_leaf0_60 (p0 : Int32) (p1 : Int32) (p2 : Int32) (p3 : Int32) (v15 : Int32) (hv15 : v15 = (p1 &&& (2147483647 : Int32))) (v18 : Int32) (hv18 : v18 = (if (p3 &&& (1 : Int32)) = (0 : Int32) then (p2 &&& (2147483647 : Int32)) else (p2 &&& (7 : Int32)))) (v23 : Int32) (hv23 : v23 = (own_f1 p0 v15 v18)) (v24 : Int64) (hv24 : v24 = (p0.toInt64)) (v25 : Int64) (hv25 : v25 = (v15.toInt64)) (v26 : Int64) (hv26 : v26 = (v18.toInt64)) (v27 : Int64) (hv27 : v27 = (v23.toInt64)) (hc29 : ¬ (v18 = (0 : Int32))) (hc45 : ¬ (v25 < v26)) (hc71 : ¬ ((0 : Int64) < v24)) (hc123 : ¬ (v23 = (-1 : Int32))) (hc125 : ¬ (v27 < (0 : Int64))) (hc131 : ¬ (v27 < v24)) (hc137 : ¬ (v25 < (v27 + v26))) (hc143 : ¬ (v27 = (0 : Int64))) (hc145 : ¬ ((v27 - (1 : Int64)) < v24)) : False := by
  have dv18 : ((p3 &&& (1 : Int32)) = (0 : Int32) ∧ (v18 = (p2 &&& (2147483647 : Int32)))) ∨ (¬ ((p3 &&& (1 : Int32)) = (0 : Int32)) ∧ (v18 = (p2 &&& (7 : Int32)))) := (if cq0 : (p3 &&& (1 : Int32)) = (0 : Int32) then Or.inl ⟨cq0, (by rw [hv18, if_pos cq0])⟩ else Or.inr ⟨cq0, (by rw [hv18, if_neg cq0])⟩)
  clear hv18
  generalize hex1 : (p1 &&& (2147483647 : Int32)) = ex1 at *
  generalize hex2 : (p3 &&& (1 : Int32)) = ex2 at *
  generalize hex3 : (p2 &&& (7 : Int32)) = ex3 at *
  generalize hex4 : (p2 &&& (2147483647 : Int32)) = ex4 at *
  have fc5 := own_f1_cases p0 v15 v18
  generalize own_f1 p0 v15 v18 = ex5 at *
  have fc6 := own_f2_cases p0 (0 : Int32)
  generalize own_f2 p0 (0 : Int32) = ex6 at *
  have fc7 := own_f3_cases ex6 v15
  generalize own_f3 ex6 v15 = ex7 at *
  generalize hex8 : (v15 - v18) = ex8 at *
  generalize hex9 : (p0.toInt64) = ex9 at *
  generalize hex10 : (v15.toInt64) = ex10 at *
  generalize hex11 : (v18.toInt64) = ex11 at *
  generalize hex12 : (v23.toInt64) = ex12 at *
  generalize hex13 : (v27 + v26) = ex13 at *
  generalize hex14 : (v27 - (1 : Int64)) = ex14 at *
  try simp only [Int32.lt_iff_toInt_lt, Int64.lt_iff_toInt_lt, ← Int32.toInt_inj, ← Int64.toInt_inj, Int32.reduceToInt, Int64.reduceToInt, not_true_eq_false, not_false_eq_true, false_and, and_false, true_and, and_true, false_or, or_false, true_or, or_true] at dv18
  try simp only [Int32.lt_iff_toInt_lt, Int64.lt_iff_toInt_lt, ← Int32.toInt_inj, ← Int64.toInt_inj, Int32.reduceToInt, Int64.reduceToInt, not_true_eq_false, not_false_eq_true, false_and, and_false, true_and, and_true, false_or, or_false, true_or, or_true] at hv15
  try simp only [Int32.lt_iff_toInt_lt, Int64.lt_iff_toInt_lt, ← Int32.toInt_inj, ← Int64.toInt_inj, Int32.reduceToInt, Int64.reduceToInt, not_true_eq_false, not_false_eq_true, false_and, and_false, true_and, and_true, false_or, or_false, true_or, or_true] at hv23
  try simp only [Int32.lt_iff_toInt_lt, Int64.lt_iff_toInt_lt, ← Int32.toInt_inj, ← Int64.toInt_inj, Int32.reduceToInt, Int64.reduceToInt, not_true_eq_false, not_false_eq_true, false_and, and_false, true_and, and_true, false_or, or_false, true_or, or_true] at hv24
  try simp only [Int32.lt_iff_toInt_lt, Int64.lt_iff_toInt_lt, ← Int32.toInt_inj, ← Int64.toInt_inj, Int32.reduceToInt, Int64.reduceToInt, not_true_eq_false, not_false_eq_true, false_and, and_false, true_and, and_true, false_or, or_false, true_or, or_true] at hv25
  try simp only [Int32.lt_iff_toInt_lt, Int64.lt_iff_toInt_lt, ← Int32.toInt_inj, ← Int64.toInt_inj, Int32.reduceToInt, Int64.reduceToInt, not_true_eq_false, not_false_eq_true, false_and, and_false, true_and, and_true, false_or, or_false, true_or, or_true] at hv26
  try simp only [Int32.lt_iff_toInt_lt, Int64.lt_iff_toInt_lt, ← Int32.toInt_inj, ← Int64.toInt_inj, Int32.reduceToInt, Int64.reduceToInt, not_true_eq_false, not_false_eq_true, false_and, and_false, true_and, and_true, false_or, or_false, true_or, or_true] at hv27
  try simp only [Int32.lt_iff_toInt_lt, Int64.lt_iff_toInt_lt, ← Int32.toInt_inj, ← Int64.toInt_inj, Int32.reduceToInt, Int64.reduceToInt, not_true_eq_false, not_false_eq_true, false_and, and_false, true_and, and_true, false_or, or_false, true_or, or_true] at hc29
  try simp only [Int32.lt_iff_toInt_lt, Int64.lt_iff_toInt_lt, ← Int32.toInt_inj, ← Int64.toInt_inj, Int32.reduceToInt, Int64.reduceToInt, not_true_eq_false, not_false_eq_true, false_and, and_false, true_and, and_true, false_or, or_false, true_or, or_true] at hc45
  try simp only [Int32.lt_iff_toInt_lt, Int64.lt_iff_toInt_lt, ← Int32.toInt_inj, ← Int64.toInt_inj, Int32.reduceToInt, Int64.reduceToInt, not_true_eq_false, not_false_eq_true, false_and, and_false, true_and, and_true, false_or, or_false, true_or, or_true] at hc71
  try simp only [Int32.lt_iff_toInt_lt, Int64.lt_iff_toInt_lt, ← Int32.toInt_inj, ← Int64.toInt_inj, Int32.reduceToInt, Int64.reduceToInt, not_true_eq_false, not_false_eq_true, false_and, and_false, true_and, and_true, false_or, or_false, true_or, or_true] at hc123
  try simp only [Int32.lt_iff_toInt_lt, Int64.lt_iff_toInt_lt, ← Int32.toInt_inj, ← Int64.toInt_inj, Int32.reduceToInt, Int64.reduceToInt, not_true_eq_false, not_false_eq_true, false_and, and_false, true_and, and_true, false_or, or_false, true_or, or_true] at hc125
  try simp only [Int32.lt_iff_toInt_lt, Int64.lt_iff_toInt_lt, ← Int32.toInt_inj, ← Int64.toInt_inj, Int32.reduceToInt, Int64.reduceToInt, not_true_eq_false, not_false_eq_true, false_and, and_false, true_and, and_true, false_or, or_false, true_or, or_true] at hc131
  try simp only [Int32.lt_iff_toInt_lt, Int64.lt_iff_toInt_lt, ← Int32.toInt_inj, ← Int64.toInt_inj, Int32.reduceToInt, Int64.reduceToInt, not_true_eq_false, not_false_eq_true, false_and, and_false, true_and, and_true, false_or, or_false, true_or, or_true] at hc137
  try simp only [Int32.lt_iff_toInt_lt, Int64.lt_iff_toInt_lt, ← Int32.toInt_inj, ← Int64.toInt_inj, Int32.reduceToInt, Int64.reduceToInt, not_true_eq_false, not_false_eq_true, false_and, and_false, true_and, and_true, false_or, or_false, true_or, or_true] at hc143
  try simp only [Int32.lt_iff_toInt_lt, Int64.lt_iff_toInt_lt, ← Int32.toInt_inj, ← Int64.toInt_inj, Int32.reduceToInt, Int64.reduceToInt, not_true_eq_false, not_false_eq_true, false_and, and_false, true_and, and_true, false_or, or_false, true_or, or_true] at hc145
  have := Int32.le_toInt p0; have := Int32.toInt_lt p0
  have := Int32.le_toInt p1; have := Int32.toInt_lt p1
  have := Int32.le_toInt p2; have := Int32.toInt_lt p2
  have := Int32.le_toInt p3; have := Int32.toInt_lt p3
  have := Int32.le_toInt v15; have := Int32.toInt_lt v15
  have := Int32.le_toInt v18; have := Int32.toInt_lt v18
  have := Int32.le_toInt v23; have := Int32.toInt_lt v23
  have := Int64.le_toInt v24; have := Int64.toInt_lt v24
  have := Int64.le_toInt v25; have := Int64.toInt_lt v25
  have := Int64.le_toInt v26; have := Int64.toInt_lt v26
  have := Int64.le_toInt v27; have := Int64.toInt_lt v27
  have bl1 := Int32.le_toInt ex1; have bu1 := Int32.toInt_lt ex1
  have fa1 := c_mask p1 (2147483647 : Int32) 31 (by decide) (by decide); rw [hex1] at fa1; try simp only [Int32.reduceToInt, Int64.reduceToInt] at fa1
  clear hex1
  have bl2 := Int32.le_toInt ex2; have bu2 := Int32.toInt_lt ex2
  have fa2 := c_mask p3 (1 : Int32) 1 (by decide) (by decide); rw [hex2] at fa2; try simp only [Int32.reduceToInt, Int64.reduceToInt] at fa2
  clear hex2
  have bl3 := Int32.le_toInt ex3; have bu3 := Int32.toInt_lt ex3
  have fa3 := c_mask p2 (7 : Int32) 3 (by decide) (by decide); rw [hex3] at fa3; try simp only [Int32.reduceToInt, Int64.reduceToInt] at fa3
  clear hex3
  have bl4 := Int32.le_toInt ex4; have bu4 := Int32.toInt_lt ex4
  have fa4 := c_mask p2 (2147483647 : Int32) 31 (by decide) (by decide); rw [hex4] at fa4; try simp only [Int32.reduceToInt, Int64.reduceToInt] at fa4
  clear hex4
  try simp only [Int32.lt_iff_toInt_lt, Int64.lt_iff_toInt_lt, ← Int32.toInt_inj, ← Int64.toInt_inj, Int32.reduceToInt, Int64.reduceToInt, not_true_eq_false, not_false_eq_true, false_and, and_false, true_and, and_true, false_or, or_false, true_or, or_true] at fc5
  try simp only [Int32.lt_iff_toInt_lt, Int64.lt_iff_toInt_lt, ← Int32.toInt_inj, ← Int64.toInt_inj, Int32.reduceToInt, Int64.reduceToInt, not_true_eq_false, not_false_eq_true, false_and, and_false, true_and, and_true, false_or, or_false, true_or, or_true] at fc6
  try simp only [Int32.lt_iff_toInt_lt, Int64.lt_iff_toInt_lt, ← Int32.toInt_inj, ← Int64.toInt_inj, Int32.reduceToInt, Int64.reduceToInt, not_true_eq_false, not_false_eq_true, false_and, and_false, true_and, and_true, false_or, or_false, true_or, or_true] at fc7
  have bl8 := Int32.le_toInt ex8; have bu8 := Int32.toInt_lt ex8
  have fa8 := c_isub v15 v18; rw [hex8] at fa8; try simp only [Int32.reduceToInt, Int64.reduceToInt] at fa8
  clear hex8
  have bl9 := Int64.le_toInt ex9; have bu9 := Int64.toInt_lt ex9
  have fa9 := c_i2l p0; rw [hex9] at fa9; try simp only [Int32.reduceToInt, Int64.reduceToInt] at fa9
  clear hex9
  have bl10 := Int64.le_toInt ex10; have bu10 := Int64.toInt_lt ex10
  have fa10 := c_i2l v15; rw [hex10] at fa10; try simp only [Int32.reduceToInt, Int64.reduceToInt] at fa10
  clear hex10
  have bl11 := Int64.le_toInt ex11; have bu11 := Int64.toInt_lt ex11
  have fa11 := c_i2l v18; rw [hex11] at fa11; try simp only [Int32.reduceToInt, Int64.reduceToInt] at fa11
  clear hex11
  have bl12 := Int64.le_toInt ex12; have bu12 := Int64.toInt_lt ex12
  have fa12 := c_i2l v23; rw [hex12] at fa12; try simp only [Int32.reduceToInt, Int64.reduceToInt] at fa12
  clear hex12
  have bl13 := Int64.le_toInt ex13; have bu13 := Int64.toInt_lt ex13
  have fa13 := c_ladd v27 v26; rw [hex13] at fa13; try simp only [Int32.reduceToInt, Int64.reduceToInt] at fa13
  clear hex13
  have bl14 := Int64.le_toInt ex14; have bu14 := Int64.toInt_lt ex14
  have fa14 := c_lsub v27 (1 : Int64); rw [hex14] at fa14; try simp only [Int32.reduceToInt, Int64.reduceToInt] at fa14
  clear hex14
  all_goals omega
theorem own_pn34 : plainName "com/example/needlework/needlework/internal/SearchRangeFirstStartPinLaw" = true := by first | (simp [plainName, overriddenIn]; done) | decide +kernel
theorem own_ef0 (m : MethodId) (p0 : Int32) (p1 : Int32) (p2 : Int32) (p3 : Int32) : entryFrame m #[(.int p0), (.int p1), (.int p2), (.int p3)] maxLocals = mkF m 0 #[.val (.int p0), .val (.int p1), .val (.int p2), .val (.int p3), .unset, .unset, .unset, .unset, .unset, .unset, .unset, .unset, .unset, .unset, .unset, .unset, .unset, .unset, .unset] [] := by first | (simp [entryFrame, mkF, argsToLocals, Value.category, maxLocals]; done) | rfl
def own_Q0 (Z : State) (p0 : Int32) (p1 : Int32) (p2 : Int32) (p3 : Int32) (h0 : Heap) (n0 : Nat) (v : Option Value) (h : Heap) (L : List Loc) : Prop := v = some (.int 1) ∧ Fr n0 L
set_option maxRecDepth 65536 in
set_option maxHeartbeats 40000000 in
theorem own_rm0 (l : Launch) (Z : State) (av : Array Value) (hw : ∀ d ∈ tables_1, d.before av Z = true) (ws : List Jvm.Cond) (p0 : Int32) (p1 : Int32) (p2 : Int32) (p3 : Int32) (h0 : Heap) (n0 : Nat) (Z0 : n0 ≤ h0.size) :
    MetFree l x (head1 (Jvm.Cond.code x code maxLocals ret :: ws) room_1) (fun a U => a = #[(.int p0), (.int p1), (.int p2), (.int p3)] ∧ Z.Warmed39 U.vm ∧ U.heap = h0) (fun _ _ _ _ _ => True) (fun _ U o U' => ∃ v L, o = .returned v ∧ own_Q0 Z p0 p1 p2 p3 h0 n0 v U'.heap L ∧ FrameEnd U o U' L room_1.cells room_1.slots) := by
  refine MetFree.of_bodySF (plainFor_of_name own_pn34) hisR ?_
  intro p e s m args below meth c s₁ Bd hml0 hP hK
  obtain ⟨rfl, hZ, hh⟩ := hP
  have hx := Bd.exec
  have hby := Bd.bytes
  have hml : c.maxLocals = 19 := hml0
  have hown : s.vm.findClass "com/example/needlework/needlework/internal/SearchRangeFirstStartPinLaw" = some m.cls := findClass_of_methodNamed Bd.named
  have hnm := (name_of_methodNamed Bd.named Bd.method).1
  have X0 : Stand p l e room_1 s m #[(.int p0), (.int p1), (.int p2), (.int p3)] below meth c s₁ [] 0 0 := Stand.of_body Bd
  have e0 : s₁.heap = h0 := by rw [← hh, Bd.state]; rfl
  have N0 := Fr.nil n0
  have pre0 : ∀ t, Steps p.tables e below (s₁.setTop (mkF m 0 #[.val (.int p0), .val (.int p1), .val (.int p2), .val (.int p3), .unset, .unset, .unset, .unset, .unset, .unset, .unset, .unset, .unset, .unset, .unset, .unset, .unset, .unset, .unset] [])) t → Steps p.tables e below (s₁.setTop (entryFrame m #[(.int p0), (.int p1), (.int p2), (.int p3)] maxLocals)) t := fun t k => castTop (own_ef0 m p0 p1 p2 p3) k
  obtain ⟨v15, hv15⟩ : ∃ z : Int32, z = (p1 &&& (2147483647 : Int32)) := ⟨_, rfl⟩
  have pre16 : ∀ t, Steps p.tables e below (s₁.setTop (mkF m 12 #[.val (.int p0), .val (.int p1), .val (.int p2), .val (.int p3), .val (.int p0), .val (.int v15), .unset, .unset, .unset, .unset, .unset, .unset, .unset, .unset, .unset, .unset, .unset, .unset, .unset] [(.int (p3 &&& (1 : Int32)))])) t → Steps p.tables e below (s₁.setTop (entryFrame m #[(.int p0), (.int p1), (.int p2), (.int p3)] maxLocals)) t := fun t kk => pre0 t (by
    show Steps p.tables e below (s₁.setTop (mkF m 0 #[.val (.int p0), .val (.int p1), .val (.int p2), .val (.int p3), .unset, .unset, .unset, .unset, .unset, .unset, .unset, .unset, .unset, .unset, .unset, .unset, .unset, .unset, .unset] [])) _
    refine XS.iloadN X0.here hx rfl (hb hby at_0) rfl ?_
    show Steps p.tables e below (s₁.setTop (mkF m 1 #[.val (.int p0), .val (.int p1), .val (.int p2), .val (.int p3), .unset, .unset, .unset, .unset, .unset, .unset, .unset, .unset, .unset, .unset, .unset, .unset, .unset, .unset, .unset] [(.int p0)])) _
    refine XS.istore X0.here hx rfl (hb hby at_1) rfl (l' := #[.val (.int p0), .val (.int p1), .val (.int p2), .val (.int p3), .val (.int p0), .unset, .unset, .unset, .unset, .unset, .unset, .unset, .unset, .unset, .unset, .unset, .unset, .unset, .unset]) rfl ?_
    show Steps p.tables e below (s₁.setTop (mkF m 3 #[.val (.int p0), .val (.int p1), .val (.int p2), .val (.int p3), .val (.int p0), .unset, .unset, .unset, .unset, .unset, .unset, .unset, .unset, .unset, .unset, .unset, .unset, .unset, .unset] [])) _
    refine XS.iloadN X0.here hx rfl (hb hby at_3) rfl ?_
    show Steps p.tables e below (s₁.setTop (mkF m 4 #[.val (.int p0), .val (.int p1), .val (.int p2), .val (.int p3), .val (.int p0), .unset, .unset, .unset, .unset, .unset, .unset, .unset, .unset, .unset, .unset, .unset, .unset, .unset, .unset] [(.int p1)])) _
    refine X0.ldcInt hx hown (mvT hZ (hw _ (List.mem_of_getElem? (i := 0) rfl))) (g := (mkF m 4 #[.val (.int p0), .val (.int p1), .val (.int p2), .val (.int p3), .val (.int p0), .unset, .unset, .unset, .unset, .unset, .unset, .unset, .unset, .unset, .unset, .unset, .unset, .unset, .unset] [(.int p1)])) rfl (hb hby at_4) _ ?_
    show Steps p.tables e below (s₁.setTop (mkF m 6 #[.val (.int p0), .val (.int p1), .val (.int p2), .val (.int p3), .val (.int p0), .unset, .unset, .unset, .unset, .unset, .unset, .unset, .unset, .unset, .unset, .unset, .unset, .unset, .unset] [(.int (2147483647 : Int32)), (.int p1)])) _
    refine XS.iand X0.here hx rfl (hb hby at_6) rfl ?_
    show Steps p.tables e below (s₁.setTop (mkF m 7 #[.val (.int p0), .val (.int p1), .val (.int p2), .val (.int p3), .val (.int p0), .unset, .unset, .unset, .unset, .unset, .unset, .unset, .unset, .unset, .unset, .unset, .unset, .unset, .unset] [(.int (p1 &&& (2147483647 : Int32)))])) _
    refine castTop (congrArg (fun z : Int32 => mkF m 7 #[.val (.int p0), .val (.int p1), .val (.int p2), .val (.int p3), .val (.int p0), .unset, .unset, .unset, .unset, .unset, .unset, .unset, .unset, .unset, .unset, .unset, .unset, .unset, .unset] [(.int z)]) hv15.symm) ?_
    show Steps p.tables e below (s₁.setTop (mkF m 7 #[.val (.int p0), .val (.int p1), .val (.int p2), .val (.int p3), .val (.int p0), .unset, .unset, .unset, .unset, .unset, .unset, .unset, .unset, .unset, .unset, .unset, .unset, .unset, .unset] [(.int v15)])) _
    refine XS.istore X0.here hx rfl (hb hby at_7) rfl (l' := #[.val (.int p0), .val (.int p1), .val (.int p2), .val (.int p3), .val (.int p0), .val (.int v15), .unset, .unset, .unset, .unset, .unset, .unset, .unset, .unset, .unset, .unset, .unset, .unset, .unset]) rfl ?_
    show Steps p.tables e below (s₁.setTop (mkF m 9 #[.val (.int p0), .val (.int p1), .val (.int p2), .val (.int p3), .val (.int p0), .val (.int v15), .unset, .unset, .unset, .unset, .unset, .unset, .unset, .unset, .unset, .unset, .unset, .unset, .unset] [])) _
    refine XS.iloadN X0.here hx rfl (hb hby at_9) rfl ?_
    show Steps p.tables e below (s₁.setTop (mkF m 10 #[.val (.int p0), .val (.int p1), .val (.int p2), .val (.int p3), .val (.int p0), .val (.int v15), .unset, .unset, .unset, .unset, .unset, .unset, .unset, .unset, .unset, .unset, .unset, .unset, .unset] [(.int p3)])) _
    refine XS.iconst X0.here hx rfl (hb hby at_10) ?_
    show Steps p.tables e below (s₁.setTop (mkF m 11 #[.val (.int p0), .val (.int p1), .val (.int p2), .val (.int p3), .val (.int p0), .val (.int v15), .unset, .unset, .unset, .unset, .unset, .unset, .unset, .unset, .unset, .unset, .unset, .unset, .unset] [(.int (1 : Int32)), (.int p3)])) _
    refine XS.iand X0.here hx rfl (hb hby at_11) rfl ?_
    show Steps p.tables e below (s₁.setTop (mkF m 12 #[.val (.int p0), .val (.int p1), .val (.int p2), .val (.int p3), .val (.int p0), .val (.int v15), .unset, .unset, .unset, .unset, .unset, .unset, .unset, .unset, .unset, .unset, .unset, .unset, .unset] [(.int (p3 &&& (1 : Int32)))])) _
    exact kk)
  obtain ⟨v18, hv18⟩ : ∃ z : Int32, z = (if (p3 &&& (1 : Int32)) = (0 : Int32) then (p2 &&& (2147483647 : Int32)) else (p2 &&& (7 : Int32))) := ⟨_, rfl⟩
  have pre19 : ∀ t, Steps p.tables e below (s₁.setTop (mkF m 26 #[.val (.int p0), .val (.int p1), .val (.int p2), .val (.int p3), .val (.int p0), .val (.int v15), .unset, .unset, .unset, .unset, .unset, .unset, .unset, .unset, .unset, .unset, .unset, .unset, .unset] [(.int v18)])) t → Steps p.tables e below (s₁.setTop (entryFrame m #[(.int p0), (.int p1), (.int p2), (.int p3)] maxLocals)) t := fun t kk => pre16 t (by
    show Steps p.tables e below (s₁.setTop (mkF m 12 #[.val (.int p0), .val (.int p1), .val (.int p2), .val (.int p3), .val (.int p0), .val (.int v15), .unset, .unset, .unset, .unset, .unset, .unset, .unset, .unset, .unset, .unset, .unset, .unset, .unset] [(.int (p3 &&& (1 : Int32)))])) _
    by_cases hc17 : (p3 &&& (1 : Int32)) = (0 : Int32)
    · refine XS.ifYes X0.here hx rfl (pc0 := 12) (pc' := 22) rfl (hb hby at_12) rfl ((if0 _ _).trans (teq hc17).1) (by decide) (by decide) ?_
      show Steps p.tables e below (s₁.setTop (mkF m 22 #[.val (.int p0), .val (.int p1), .val (.int p2), .val (.int p3), .val (.int p0), .val (.int v15), .unset, .unset, .unset, .unset, .unset, .unset, .unset, .unset, .unset, .unset, .unset, .unset, .unset] [])) _
      refine XS.iloadN X0.here hx rfl (hb hby at_22) rfl ?_
      show Steps p.tables e below (s₁.setTop (mkF m 23 #[.val (.int p0), .val (.int p1), .val (.int p2), .val (.int p3), .val (.int p0), .val (.int v15), .unset, .unset, .unset, .unset, .unset, .unset, .unset, .unset, .unset, .unset, .unset, .unset, .unset] [(.int p2)])) _
      refine X0.ldcInt hx hown (mvT hZ (hw _ (List.mem_of_getElem? (i := 0) rfl))) (g := (mkF m 23 #[.val (.int p0), .val (.int p1), .val (.int p2), .val (.int p3), .val (.int p0), .val (.int v15), .unset, .unset, .unset, .unset, .unset, .unset, .unset, .unset, .unset, .unset, .unset, .unset, .unset] [(.int p2)])) rfl (hb hby at_23) _ ?_
      show Steps p.tables e below (s₁.setTop (mkF m 25 #[.val (.int p0), .val (.int p1), .val (.int p2), .val (.int p3), .val (.int p0), .val (.int v15), .unset, .unset, .unset, .unset, .unset, .unset, .unset, .unset, .unset, .unset, .unset, .unset, .unset] [(.int (2147483647 : Int32)), (.int p2)])) _
      refine XS.iand X0.here hx rfl (hb hby at_25) rfl ?_
      rw [show v18 = (p2 &&& (2147483647 : Int32)) by rw [hv18, if_pos hc17]] at kk
      exact kk
    · refine XS.ifNo X0.here hx rfl (hb hby at_12) rfl ((if0 _ _).trans (feq hc17).1) ?_
      show Steps p.tables e below (s₁.setTop (mkF m 15 #[.val (.int p0), .val (.int p1), .val (.int p2), .val (.int p3), .val (.int p0), .val (.int v15), .unset, .unset, .unset, .unset, .unset, .unset, .unset, .unset, .unset, .unset, .unset, .unset, .unset] [])) _
      refine XS.iloadN X0.here hx rfl (hb hby at_15) rfl ?_
      show Steps p.tables e below (s₁.setTop (mkF m 16 #[.val (.int p0), .val (.int p1), .val (.int p2), .val (.int p3), .val (.int p0), .val (.int v15), .unset, .unset, .unset, .unset, .unset, .unset, .unset, .unset, .unset, .unset, .unset, .unset, .unset] [(.int p2)])) _
      refine XS.bipush X0.here hx rfl (hb hby at_16) ?_
      show Steps p.tables e below (s₁.setTop (mkF m 18 #[.val (.int p0), .val (.int p1), .val (.int p2), .val (.int p3), .val (.int p0), .val (.int v15), .unset, .unset, .unset, .unset, .unset, .unset, .unset, .unset, .unset, .unset, .unset, .unset, .unset] [(.int (7 : Int32)), (.int p2)])) _
      refine XS.iand X0.here hx rfl (hb hby at_18) rfl ?_
      show Steps p.tables e below (s₁.setTop (mkF m 19 #[.val (.int p0), .val (.int p1), .val (.int p2), .val (.int p3), .val (.int p0), .val (.int v15), .unset, .unset, .unset, .unset, .unset, .unset, .unset, .unset, .unset, .unset, .unset, .unset, .unset] [(.int (p2 &&& (7 : Int32)))])) _
      refine XS.goto X0.here hx rfl (pc0 := 19) (pc' := 26) rfl (hb hby at_19) (by decide) (by decide) ?_
      rw [show v18 = (p2 &&& (7 : Int32)) by rw [hv18, if_neg hc17]] at kk
      exact kk)
  obtain ⟨_, _, ⟨T20, L20, k20, n20⟩, -, X20, ⟨Lc20, hQ20, l20, y20, z20⟩, st20⟩ := Jvm.LawKit.callS X0 hx (y := (⟨"com/example/needlework/needlework/internal/SearchRange", "firstStart", "(III)I"⟩ : MethodName)) hown (mvT hZ (hw _ (List.mem_of_getElem? (i := 1) rfl))) (mvT hZ (hw _ (List.mem_of_getElem? (i := 2) rfl))) (mvT hZ (hw _ (List.mem_of_getElem? (i := 3) rfl))) (mvT hZ (hw _ (List.mem_of_getElem? (i := 4) rfl))) (by decide) (backOf (W := 0) (own_rm1 l Z av hw [] p0 v15 v18 h0 n0 Z0 ) hZ (hw _ (List.mem_of_getElem? (i := 4) rfl)) (hw _ (List.mem_of_getElem? (i := 3) rfl)) (by decide) (by decide)) (g := (mkF m 34 #[.val (.int p0), .val (.int p1), .val (.int p2), .val (.int p3), .val (.int p0), .val (.int v15), .val (.int v18), .unset, .unset, .unset, .unset, .unset, .unset, .unset, .unset, .unset, .unset, .unset, .unset] [(.int v18), (.int v15), (.int p0)])) rfl (by rw [hml]; rfl) (argsL := [(.int p0), (.int v15), (.int v18)]) (rest := []) (lenOf own_pd1 rfl) rfl (by show 2 * 0 + _ ≤ _; exact Nat.le_of_eq rfl) (hb hby at_34) (fun _ _ => ⟨rfl, e0, (by decide : 0 + 0 ≤ _), (by decide : 0 + 0 ≤ _)⟩)
  dsimp only [Pt.U, Pt.locs, Pt.cells, Pt.slots] at X20 l20 y20 z20 st20 hQ20
  subst l20 y20 z20
  obtain ⟨rfl, N20q, e22⟩ := hQ20
  have N21 := Fr.app N0 N20q
  obtain ⟨v23, hv23⟩ : ∃ z : Int32, z = (own_f1 p0 v15 v18) := ⟨_, rfl⟩
  obtain ⟨v24, hv24⟩ : ∃ z : Int64, z = (p0.toInt64) := ⟨_, rfl⟩
  obtain ⟨v25, hv25⟩ : ∃ z : Int64, z = (v15.toInt64) := ⟨_, rfl⟩
  obtain ⟨v26, hv26⟩ : ∃ z : Int64, z = (v18.toInt64) := ⟨_, rfl⟩
  obtain ⟨v27, hv27⟩ : ∃ z : Int64, z = (v23.toInt64) := ⟨_, rfl⟩
  have pre28 : ∀ t, Steps p.tables e below (T20.setTop (mkF m 61 #[.val (.int p0), .val (.int p1), .val (.int p2), .val (.int p3), .val (.int p0), .val (.int v15), .val (.int v18), .val (.int v23), .val (.long v24), .second, .val (.long v25), .second, .val (.long v26), .second, .val (.long v27), .second, .unset, .unset, .unset] [(.int v18)])) t → Steps p.tables e below (s₁.setTop (entryFrame m #[(.int p0), (.int p1), (.int p2), (.int p3)] maxLocals)) t := fun t kk => pre19 t (by
    show Steps p.tables e below (s₁.setTop (mkF m 26 #[.val (.int p0), .val (.int p1), .val (.int p2), .val (.int p3), .val (.int p0), .val (.int v15), .unset, .unset, .unset, .unset, .unset, .unset, .unset, .unset, .unset, .unset, .unset, .unset, .unset] [(.int v18)])) _
    refine XS.istore X0.here hx rfl (hb hby at_26) rfl (l' := #[.val (.int p0), .val (.int p1), .val (.int p2), .val (.int p3), .val (.int p0), .val (.int v15), .val (.int v18), .unset, .unset, .unset, .unset, .unset, .unset, .unset, .unset, .unset, .unset, .unset, .unset]) rfl ?_
    show Steps p.tables e below (s₁.setTop (mkF m 28 #[.val (.int p0), .val (.int p1), .val (.int p2), .val (.int p3), .val (.int p0), .val (.int v15), .val (.int v18), .unset, .unset, .unset, .unset, .unset, .unset, .unset, .unset, .unset, .unset, .unset, .unset] [])) _
    refine XS.iload X0.here hx rfl (hb hby at_28) rfl ?_
    show Steps p.tables e below (s₁.setTop (mkF m 30 #[.val (.int p0), .val (.int p1), .val (.int p2), .val (.int p3), .val (.int p0), .val (.int v15), .val (.int v18), .unset, .unset, .unset, .unset, .unset, .unset, .unset, .unset, .unset, .unset, .unset, .unset] [(.int p0)])) _
    refine XS.iload X0.here hx rfl (hb hby at_30) rfl ?_
    show Steps p.tables e below (s₁.setTop (mkF m 32 #[.val (.int p0), .val (.int p1), .val (.int p2), .val (.int p3), .val (.int p0), .val (.int v15), .val (.int v18), .unset, .unset, .unset, .unset, .unset, .unset, .unset, .unset, .unset, .unset, .unset, .unset] [(.int v15), (.int p0)])) _
    refine XS.iload X0.here hx rfl (hb hby at_32) rfl ?_
    show Steps p.tables e below (s₁.setTop (mkF m 34 #[.val (.int p0), .val (.int p1), .val (.int p2), .val (.int p3), .val (.int p0), .val (.int v15), .val (.int v18), .unset, .unset, .unset, .unset, .unset, .unset, .unset, .unset, .unset, .unset, .unset, .unset] [(.int v18), (.int v15), (.int p0)])) _
    refine st20 _ ?_
    show Steps p.tables e below (T20.setTop (mkF m 37 #[.val (.int p0), .val (.int p1), .val (.int p2), .val (.int p3), .val (.int p0), .val (.int v15), .val (.int v18), .unset, .unset, .unset, .unset, .unset, .unset, .unset, .unset, .unset, .unset, .unset, .unset] [(.int (own_f1 p0 v15 v18))])) _
    refine castTop (congrArg (fun z : Int32 => mkF m 37 #[.val (.int p0), .val (.int p1), .val (.int p2), .val (.int p3), .val (.int p0), .val (.int v15), .val (.int v18), .unset, .unset, .unset, .unset, .unset, .unset, .unset, .unset, .unset, .unset, .unset, .unset] [(.int z)]) hv23.symm) ?_
    show Steps p.tables e below (T20.setTop (mkF m 37 #[.val (.int p0), .val (.int p1), .val (.int p2), .val (.int p3), .val (.int p0), .val (.int v15), .val (.int v18), .unset, .unset, .unset, .unset, .unset, .unset, .unset, .unset, .unset, .unset, .unset, .unset] [(.int v23)])) _
    refine XS.istore X20.here hx rfl (hb hby at_37) rfl (l' := #[.val (.int p0), .val (.int p1), .val (.int p2), .val (.int p3), .val (.int p0), .val (.int v15), .val (.int v18), .val (.int v23), .unset, .unset, .unset, .unset, .unset, .unset, .unset, .unset, .unset, .unset, .unset]) rfl ?_
    show Steps p.tables e below (T20.setTop (mkF m 39 #[.val (.int p0), .val (.int p1), .val (.int p2), .val (.int p3), .val (.int p0), .val (.int v15), .val (.int v18), .val (.int v23), .unset, .unset, .unset, .unset, .unset, .unset, .unset, .unset, .unset, .unset, .unset] [])) _
    refine XS.iload X20.here hx rfl (hb hby at_39) rfl ?_
    show Steps p.tables e below (T20.setTop (mkF m 41 #[.val (.int p0), .val (.int p1), .val (.int p2), .val (.int p3), .val (.int p0), .val (.int v15), .val (.int v18), .val (.int v23), .unset, .unset, .unset, .unset, .unset, .unset, .unset, .unset, .unset, .unset, .unset] [(.int p0)])) _
    refine XS.i2l X20.here hx rfl (hb hby at_41) rfl ?_
    show Steps p.tables e below (T20.setTop (mkF m 42 #[.val (.int p0), .val (.int p1), .val (.int p2), .val (.int p3), .val (.int p0), .val (.int v15), .val (.int v18), .val (.int v23), .unset, .unset, .unset, .unset, .unset, .unset, .unset, .unset, .unset, .unset, .unset] [(.long (p0.toInt64))])) _
    refine castTop (congrArg (fun z : Int64 => mkF m 42 #[.val (.int p0), .val (.int p1), .val (.int p2), .val (.int p3), .val (.int p0), .val (.int v15), .val (.int v18), .val (.int v23), .unset, .unset, .unset, .unset, .unset, .unset, .unset, .unset, .unset, .unset, .unset] [(.long z)]) hv24.symm) ?_
    show Steps p.tables e below (T20.setTop (mkF m 42 #[.val (.int p0), .val (.int p1), .val (.int p2), .val (.int p3), .val (.int p0), .val (.int v15), .val (.int v18), .val (.int v23), .unset, .unset, .unset, .unset, .unset, .unset, .unset, .unset, .unset, .unset, .unset] [(.long v24)])) _
    refine XS.lstore X20.here hx rfl (hb hby at_42) rfl (l' := #[.val (.int p0), .val (.int p1), .val (.int p2), .val (.int p3), .val (.int p0), .val (.int v15), .val (.int v18), .val (.int v23), .val (.long v24), .second, .unset, .unset, .unset, .unset, .unset, .unset, .unset, .unset, .unset]) rfl ?_
    show Steps p.tables e below (T20.setTop (mkF m 44 #[.val (.int p0), .val (.int p1), .val (.int p2), .val (.int p3), .val (.int p0), .val (.int v15), .val (.int v18), .val (.int v23), .val (.long v24), .second, .unset, .unset, .unset, .unset, .unset, .unset, .unset, .unset, .unset] [])) _
    refine XS.iload X20.here hx rfl (hb hby at_44) rfl ?_
    show Steps p.tables e below (T20.setTop (mkF m 46 #[.val (.int p0), .val (.int p1), .val (.int p2), .val (.int p3), .val (.int p0), .val (.int v15), .val (.int v18), .val (.int v23), .val (.long v24), .second, .unset, .unset, .unset, .unset, .unset, .unset, .unset, .unset, .unset] [(.int v15)])) _
    refine XS.i2l X20.here hx rfl (hb hby at_46) rfl ?_
    show Steps p.tables e below (T20.setTop (mkF m 47 #[.val (.int p0), .val (.int p1), .val (.int p2), .val (.int p3), .val (.int p0), .val (.int v15), .val (.int v18), .val (.int v23), .val (.long v24), .second, .unset, .unset, .unset, .unset, .unset, .unset, .unset, .unset, .unset] [(.long (v15.toInt64))])) _
    refine castTop (congrArg (fun z : Int64 => mkF m 47 #[.val (.int p0), .val (.int p1), .val (.int p2), .val (.int p3), .val (.int p0), .val (.int v15), .val (.int v18), .val (.int v23), .val (.long v24), .second, .unset, .unset, .unset, .unset, .unset, .unset, .unset, .unset, .unset] [(.long z)]) hv25.symm) ?_
    show Steps p.tables e below (T20.setTop (mkF m 47 #[.val (.int p0), .val (.int p1), .val (.int p2), .val (.int p3), .val (.int p0), .val (.int v15), .val (.int v18), .val (.int v23), .val (.long v24), .second, .unset, .unset, .unset, .unset, .unset, .unset, .unset, .unset, .unset] [(.long v25)])) _
    refine XS.lstore X20.here hx rfl (hb hby at_47) rfl (l' := #[.val (.int p0), .val (.int p1), .val (.int p2), .val (.int p3), .val (.int p0), .val (.int v15), .val (.int v18), .val (.int v23), .val (.long v24), .second, .val (.long v25), .second, .unset, .unset, .unset, .unset, .unset, .unset, .unset]) rfl ?_
    show Steps p.tables e below (T20.setTop (mkF m 49 #[.val (.int p0), .val (.int p1), .val (.int p2), .val (.int p3), .val (.int p0), .val (.int v15), .val (.int v18), .val (.int v23), .val (.long v24), .second, .val (.long v25), .second, .unset, .unset, .unset, .unset, .unset, .unset, .unset] [])) _
    refine XS.iload X20.here hx rfl (hb hby at_49) rfl ?_
    show Steps p.tables e below (T20.setTop (mkF m 51 #[.val (.int p0), .val (.int p1), .val (.int p2), .val (.int p3), .val (.int p0), .val (.int v15), .val (.int v18), .val (.int v23), .val (.long v24), .second, .val (.long v25), .second, .unset, .unset, .unset, .unset, .unset, .unset, .unset] [(.int v18)])) _
    refine XS.i2l X20.here hx rfl (hb hby at_51) rfl ?_
    show Steps p.tables e below (T20.setTop (mkF m 52 #[.val (.int p0), .val (.int p1), .val (.int p2), .val (.int p3), .val (.int p0), .val (.int v15), .val (.int v18), .val (.int v23), .val (.long v24), .second, .val (.long v25), .second, .unset, .unset, .unset, .unset, .unset, .unset, .unset] [(.long (v18.toInt64))])) _
    refine castTop (congrArg (fun z : Int64 => mkF m 52 #[.val (.int p0), .val (.int p1), .val (.int p2), .val (.int p3), .val (.int p0), .val (.int v15), .val (.int v18), .val (.int v23), .val (.long v24), .second, .val (.long v25), .second, .unset, .unset, .unset, .unset, .unset, .unset, .unset] [(.long z)]) hv26.symm) ?_
    show Steps p.tables e below (T20.setTop (mkF m 52 #[.val (.int p0), .val (.int p1), .val (.int p2), .val (.int p3), .val (.int p0), .val (.int v15), .val (.int v18), .val (.int v23), .val (.long v24), .second, .val (.long v25), .second, .unset, .unset, .unset, .unset, .unset, .unset, .unset] [(.long v26)])) _
    refine XS.lstore X20.here hx rfl (hb hby at_52) rfl (l' := #[.val (.int p0), .val (.int p1), .val (.int p2), .val (.int p3), .val (.int p0), .val (.int v15), .val (.int v18), .val (.int v23), .val (.long v24), .second, .val (.long v25), .second, .val (.long v26), .second, .unset, .unset, .unset, .unset, .unset]) rfl ?_
    show Steps p.tables e below (T20.setTop (mkF m 54 #[.val (.int p0), .val (.int p1), .val (.int p2), .val (.int p3), .val (.int p0), .val (.int v15), .val (.int v18), .val (.int v23), .val (.long v24), .second, .val (.long v25), .second, .val (.long v26), .second, .unset, .unset, .unset, .unset, .unset] [])) _
    refine XS.iload X20.here hx rfl (hb hby at_54) rfl ?_
    show Steps p.tables e below (T20.setTop (mkF m 56 #[.val (.int p0), .val (.int p1), .val (.int p2), .val (.int p3), .val (.int p0), .val (.int v15), .val (.int v18), .val (.int v23), .val (.long v24), .second, .val (.long v25), .second, .val (.long v26), .second, .unset, .unset, .unset, .unset, .unset] [(.int v23)])) _
    refine XS.i2l X20.here hx rfl (hb hby at_56) rfl ?_
    show Steps p.tables e below (T20.setTop (mkF m 57 #[.val (.int p0), .val (.int p1), .val (.int p2), .val (.int p3), .val (.int p0), .val (.int v15), .val (.int v18), .val (.int v23), .val (.long v24), .second, .val (.long v25), .second, .val (.long v26), .second, .unset, .unset, .unset, .unset, .unset] [(.long (v23.toInt64))])) _
    refine castTop (congrArg (fun z : Int64 => mkF m 57 #[.val (.int p0), .val (.int p1), .val (.int p2), .val (.int p3), .val (.int p0), .val (.int v15), .val (.int v18), .val (.int v23), .val (.long v24), .second, .val (.long v25), .second, .val (.long v26), .second, .unset, .unset, .unset, .unset, .unset] [(.long z)]) hv27.symm) ?_
    show Steps p.tables e below (T20.setTop (mkF m 57 #[.val (.int p0), .val (.int p1), .val (.int p2), .val (.int p3), .val (.int p0), .val (.int v15), .val (.int v18), .val (.int v23), .val (.long v24), .second, .val (.long v25), .second, .val (.long v26), .second, .unset, .unset, .unset, .unset, .unset] [(.long v27)])) _
    refine XS.lstore X20.here hx rfl (hb hby at_57) rfl (l' := #[.val (.int p0), .val (.int p1), .val (.int p2), .val (.int p3), .val (.int p0), .val (.int v15), .val (.int v18), .val (.int v23), .val (.long v24), .second, .val (.long v25), .second, .val (.long v26), .second, .val (.long v27), .second, .unset, .unset, .unset]) rfl ?_
    show Steps p.tables e below (T20.setTop (mkF m 59 #[.val (.int p0), .val (.int p1), .val (.int p2), .val (.int p3), .val (.int p0), .val (.int v15), .val (.int v18), .val (.int v23), .val (.long v24), .second, .val (.long v25), .second, .val (.long v26), .second, .val (.long v27), .second, .unset, .unset, .unset] [])) _
    refine XS.iload X20.here hx rfl (hb hby at_59) rfl ?_
    show Steps p.tables e below (T20.setTop (mkF m 61 #[.val (.int p0), .val (.int p1), .val (.int p2), .val (.int p3), .val (.int p0), .val (.int v15), .val (.int v18), .val (.int v23), .val (.long v24), .second, .val (.long v25), .second, .val (.long v26), .second, .val (.long v27), .second, .unset, .unset, .unset] [(.int v18)])) _
    exact kk)
  by_cases hc29 : v18 = (0 : Int32)
  · have pre30 : ∀ t, Steps p.tables e below (T20.setTop (mkF m 69 #[.val (.int p0), .val (.int p1), .val (.int p2), .val (.int p3), .val (.int p0), .val (.int v15), .val (.int v18), .val (.int v23), .val (.long v24), .second, .val (.long v25), .second, .val (.long v26), .second, .val (.long v27), .second, .unset, .unset, .unset] [(.int (lcmpW v24 v25))])) t → Steps p.tables e below (s₁.setTop (entryFrame m #[(.int p0), (.int p1), (.int p2), (.int p3)] maxLocals)) t := fun t kk => pre28 t (by
      show Steps p.tables e below (T20.setTop (mkF m 61 #[.val (.int p0), .val (.int p1), .val (.int p2), .val (.int p3), .val (.int p0), .val (.int v15), .val (.int v18), .val (.int v23), .val (.long v24), .second, .val (.long v25), .second, .val (.long v26), .second, .val (.long v27), .second, .unset, .unset, .unset] [(.int v18)])) _
      refine XS.ifNo X20.here hx rfl (hb hby at_61) rfl ((if0 _ _).trans (teq hc29).2) ?_
      show Steps p.tables e below (T20.setTop (mkF m 64 #[.val (.int p0), .val (.int p1), .val (.int p2), .val (.int p3), .val (.int p0), .val (.int v15), .val (.int v18), .val (.int v23), .val (.long v24), .second, .val (.long v25), .second, .val (.long v26), .second, .val (.long v27), .second, .unset, .unset, .unset] [])) _
      refine XS.lload X20.here hx rfl (hb hby at_64) rfl ?_
      show Steps p.tables e below (T20.setTop (mkF m 66 #[.val (.int p0), .val (.int p1), .val (.int p2), .val (.int p3), .val (.int p0), .val (.int v15), .val (.int v18), .val (.int v23), .val (.long v24), .second, .val (.long v25), .second, .val (.long v26), .second, .val (.long v27), .second, .unset, .unset, .unset] [(.long v24)])) _
      refine XS.lload X20.here hx rfl (hb hby at_66) rfl ?_
      show Steps p.tables e below (T20.setTop (mkF m 68 #[.val (.int p0), .val (.int p1), .val (.int p2), .val (.int p3), .val (.int p0), .val (.int v15), .val (.int v18), .val (.int v23), .val (.long v24), .second, .val (.long v25), .second, .val (.long v26), .second, .val (.long v27), .second, .unset, .unset, .unset] [(.long v25), (.long v24)])) _
      refine XS.lcmp X20.here hx rfl (hb hby at_68) rfl ?_
      show Steps p.tables e below (T20.setTop (mkF m 69 #[.val (.int p0), .val (.int p1), .val (.int p2), .val (.int p3), .val (.int p0), .val (.int v15), .val (.int v18), .val (.int v23), .val (.long v24), .second, .val (.long v25), .second, .val (.long v26), .second, .val (.long v27), .second, .unset, .unset, .unset] [(.int (lcmpW v24 v25))])) _
      exact kk)
    by_cases hc31 : v25 < v24
    · have pre32 : ∀ t, Steps p.tables e below (T20.setTop (mkF m 76 #[.val (.int p0), .val (.int p1), .val (.int p2), .val (.int p3), .val (.int p0), .val (.int v15), .val (.int v18), .val (.int v23), .val (.long v24), .second, .val (.long v25), .second, .val (.long v26), .second, .val (.long v27), .second, .unset, .unset, .unset] [(.int v15), (.int v23)])) t → Steps p.tables e below (s₁.setTop (entryFrame m #[(.int p0), (.int p1), (.int p2), (.int p3)] maxLocals)) t := fun t kk => pre30 t (by
        show Steps p.tables e below (T20.setTop (mkF m 69 #[.val (.int p0), .val (.int p1), .val (.int p2), .val (.int p3), .val (.int p0), .val (.int v15), .val (.int v18), .val (.int v23), .val (.long v24), .second, .val (.long v25), .second, .val (.long v26), .second, .val (.long v27), .second, .unset, .unset, .unset] [(.int (lcmpW v24 v25))])) _
        refine XS.ifNo X20.here hx rfl (hb hby at_69) rfl ((if0 _ _).trans (tlt ((lw_gt v24 v25).mpr hc31)).2.2.2) ?_
        show Steps p.tables e below (T20.setTop (mkF m 72 #[.val (.int p0), .val (.int p1), .val (.int p2), .val (.int p3), .val (.int p0), .val (.int v15), .val (.int v18), .val (.int v23), .val (.long v24), .second, .val (.long v25), .second, .val (.long v26), .second, .val (.long v27), .second, .unset, .unset, .unset] [])) _
        refine XS.iload X20.here hx rfl (hb hby at_72) rfl ?_
        show Steps p.tables e below (T20.setTop (mkF m 74 #[.val (.int p0), .val (.int p1), .val (.int p2), .val (.int p3), .val (.int p0), .val (.int v15), .val (.int v18), .val (.int v23), .val (.long v24), .second, .val (.long v25), .second, .val (.long v26), .second, .val (.long v27), .second, .unset, .unset, .unset] [(.int v23)])) _
        refine XS.iload X20.here hx rfl (hb hby at_74) rfl ?_
        show Steps p.tables e below (T20.setTop (mkF m 76 #[.val (.int p0), .val (.int p1), .val (.int p2), .val (.int p3), .val (.int p0), .val (.int v15), .val (.int v18), .val (.int v23), .val (.long v24), .second, .val (.long v25), .second, .val (.long v26), .second, .val (.long v27), .second, .unset, .unset, .unset] [(.int v15), (.int v23)])) _
        exact kk)
      by_cases hc33 : v23 = v15
      · obtain ⟨fs, hr, hrun, hended, hW, hsame⟩ := X20.leave (v := some (.int (1 : Int32))) (fun h => by rw [Bd.returns] at h; cases h)
        refine ⟨_, _, pre32 _ ?_, hrun, hended, _, _, rfl, ?_, ⟨_, rfl⟩, hW, hsame.mono (by decide) (by decide)⟩
        · show Steps p.tables e below (T20.setTop (mkF m 76 #[.val (.int p0), .val (.int p1), .val (.int p2), .val (.int p3), .val (.int p0), .val (.int v15), .val (.int v18), .val (.int v23), .val (.long v24), .second, .val (.long v25), .second, .val (.long v26), .second, .val (.long v27), .second, .unset, .unset, .unset] [(.int v15), (.int v23)])) _
          refine XS.icmpNo X20.here hx rfl (hb hby at_76) rfl (teq hc33).2 ?_
          show Steps p.tables e below (T20.setTop (mkF m 79 #[.val (.int p0), .val (.int p1), .val (.int p2), .val (.int p3), .val (.int p0), .val (.int v15), .val (.int v18), .val (.int v23), .val (.long v24), .second, .val (.long v25), .second, .val (.long v26), .second, .val (.long v27), .second, .unset, .unset, .unset] [])) _
          refine XS.iconst X20.here hx rfl (hb hby at_79) ?_
          show Steps p.tables e below (T20.setTop (mkF m 80 #[.val (.int p0), .val (.int p1), .val (.int p2), .val (.int p3), .val (.int p0), .val (.int v15), .val (.int v18), .val (.int v23), .val (.long v24), .second, .val (.long v25), .second, .val (.long v26), .second, .val (.long v27), .second, .unset, .unset, .unset] [(.int (1 : Int32))])) _
          refine XS.goto X20.here hx rfl (pc0 := 80) (pc' := 84) rfl (hb hby at_80) (by decide) (by decide) ?_
          show Steps p.tables e below (T20.setTop (mkF m 84 #[.val (.int p0), .val (.int p1), .val (.int p2), .val (.int p3), .val (.int p0), .val (.int v15), .val (.int v18), .val (.int v23), .val (.long v24), .second, .val (.long v25), .second, .val (.long v26), .second, .val (.long v27), .second, .unset, .unset, .unset] [(.int (1 : Int32))])) _
          exact retN X20 hx (t := .boolean) Bd.returns (by simp) (hb hby at_84) hr
        · show own_Q0 Z p0 p1 p2 p3 h0 n0 _ T20.heap _
          rw [e22]
          exact ⟨rfl, N21⟩
      · exact (own_leaf0_2 p0 p1 p2 p3 v15 hv15 v18 hv18 v23 hv23 v24 hv24 v25 hv25 v26 hv26 v27 hv27 hc29 hc31 hc33).elim
    · have pre34 : ∀ t, Steps p.tables e below (T20.setTop (mkF m 89 #[.val (.int p0), .val (.int p1), .val (.int p2), .val (.int p3), .val (.int p0), .val (.int v15), .val (.int v18), .val (.int v23), .val (.long v24), .second, .val (.long v25), .second, .val (.long v26), .second, .val (.long v27), .second, .unset, .unset, .unset] [(.int (lcmpW v27 (0 : Int64)))])) t → Steps p.tables e below (s₁.setTop (entryFrame m #[(.int p0), (.int p1), (.int p2), (.int p3)] maxLocals)) t := fun t kk => pre30 t (by
        show Steps p.tables e below (T20.setTop (mkF m 69 #[.val (.int p0), .val (.int p1), .val (.int p2), .val (.int p3), .val (.int p0), .val (.int v15), .val (.int v18), .val (.int v23), .val (.long v24), .second, .val (.long v25), .second, .val (.long v26), .second, .val (.long v27), .second, .unset, .unset, .unset] [(.int (lcmpW v24 v25))])) _
        refine XS.ifYes X20.here hx rfl (pc0 := 69) (pc' := 85) rfl (hb hby at_69) rfl ((if0 _ _).trans (flt (mt (lw_gt v24 v25).mp hc31)).2.2.2) (by decide) (by decide) ?_
        show Steps p.tables e below (T20.setTop (mkF m 85 #[.val (.int p0), .val (.int p1), .val (.int p2), .val (.int p3), .val (.int p0), .val (.int v15), .val (.int v18), .val (.int v23), .val (.long v24), .second, .val (.long v25), .second, .val (.long v26), .second, .val (.long v27), .second, .unset, .unset, .unset] [])) _
        refine XS.lload X20.here hx rfl (hb hby at_85) rfl ?_
        show Steps p.tables e below (T20.setTop (mkF m 87 #[.val (.int p0), .val (.int p1), .val (.int p2), .val (.int p3), .val (.int p0), .val (.int v15), .val (.int v18), .val (.int v23), .val (.long v24), .second, .val (.long v25), .second, .val (.long v26), .second, .val (.long v27), .second, .unset, .unset, .unset] [(.long v27)])) _
        refine XS.lconst X20.here hx rfl (hb hby at_87) ?_
        show Steps p.tables e below (T20.setTop (mkF m 88 #[.val (.int p0), .val (.int p1), .val (.int p2), .val (.int p3), .val (.int p0), .val (.int v15), .val (.int v18), .val (.int v23), .val (.long v24), .second, .val (.long v25), .second, .val (.long v26), .second, .val (.long v27), .second, .unset, .unset, .unset] [(.long (0 : Int64)), (.long v27)])) _
        refine XS.lcmp X20.here hx rfl (hb hby at_88) rfl ?_
        show Steps p.tables e below (T20.setTop (mkF m 89 #[.val (.int p0), .val (.int p1), .val (.int p2), .val (.int p3), .val (.int p0), .val (.int v15), .val (.int v18), .val (.int v23), .val (.long v24), .second, .val (.long v25), .second, .val (.long v26), .second, .val (.long v27), .second, .unset, .unset, .unset] [(.int (lcmpW v27 (0 : Int64)))])) _
        exact kk)
      by_cases hc35 : v27 < (0 : Int64)
      · exact (own_leaf0_3 p0 p1 p2 p3 v15 hv15 v18 hv18 v23 hv23 v24 hv24 v25 hv25 v26 hv26 v27 hv27 hc29 hc31 hc35).elim
      · have pre36 : ∀ t, Steps p.tables e below (T20.setTop (mkF m 97 #[.val (.int p0), .val (.int p1), .val (.int p2), .val (.int p3), .val (.int p0), .val (.int v15), .val (.int v18), .val (.int v23), .val (.long v24), .second, .val (.long v25), .second, .val (.long v26), .second, .val (.long v27), .second, .unset, .unset, .unset] [(.int (lcmpW v27 v24))])) t → Steps p.tables e below (s₁.setTop (entryFrame m #[(.int p0), (.int p1), (.int p2), (.int p3)] maxLocals)) t := fun t kk => pre34 t (by
          show Steps p.tables e below (T20.setTop (mkF m 89 #[.val (.int p0), .val (.int p1), .val (.int p2), .val (.int p3), .val (.int p0), .val (.int v15), .val (.int v18), .val (.int v23), .val (.long v24), .second, .val (.long v25), .second, .val (.long v26), .second, .val (.long v27), .second, .unset, .unset, .unset] [(.int (lcmpW v27 (0 : Int64)))])) _
          refine XS.ifNo X20.here hx rfl (hb hby at_89) rfl ((if0 _ _).trans (flt (mt (lw_lt v27 (0 : Int64)).mp hc35)).1) ?_
          show Steps p.tables e below (T20.setTop (mkF m 92 #[.val (.int p0), .val (.int p1), .val (.int p2), .val (.int p3), .val (.int p0), .val (.int v15), .val (.int v18), .val (.int v23), .val (.long v24), .second, .val (.long v25), .second, .val (.long v26), .second, .val (.long v27), .second, .unset, .unset, .unset] [])) _
          refine XS.lload X20.here hx rfl (hb hby at_92) rfl ?_
          show Steps p.tables e below (T20.setTop (mkF m 94 #[.val (.int p0), .val (.int p1), .val (.int p2), .val (.int p3), .val (.int p0), .val (.int v15), .val (.int v18), .val (.int v23), .val (.long v24), .second, .val (.long v25), .second, .val (.long v26), .second, .val (.long v27), .second, .unset, .unset, .unset] [(.long v27)])) _
          refine XS.lload X20.here hx rfl (hb hby at_94) rfl ?_
          show Steps p.tables e below (T20.setTop (mkF m 96 #[.val (.int p0), .val (.int p1), .val (.int p2), .val (.int p3), .val (.int p0), .val (.int v15), .val (.int v18), .val (.int v23), .val (.long v24), .second, .val (.long v25), .second, .val (.long v26), .second, .val (.long v27), .second, .unset, .unset, .unset] [(.long v24), (.long v27)])) _
          refine XS.lcmp X20.here hx rfl (hb hby at_96) rfl ?_
          show Steps p.tables e below (T20.setTop (mkF m 97 #[.val (.int p0), .val (.int p1), .val (.int p2), .val (.int p3), .val (.int p0), .val (.int v15), .val (.int v18), .val (.int v23), .val (.long v24), .second, .val (.long v25), .second, .val (.long v26), .second, .val (.long v27), .second, .unset, .unset, .unset] [(.int (lcmpW v27 v24))])) _
          exact kk)
        by_cases hc37 : v27 < v24
        · exact (own_leaf0_4 p0 p1 p2 p3 v15 hv15 v18 hv18 v23 hv23 v24 hv24 v25 hv25 v26 hv26 v27 hv27 hc29 hc31 hc35 hc37).elim
        · have pre38 : ∀ t, Steps p.tables e below (T20.setTop (mkF m 105 #[.val (.int p0), .val (.int p1), .val (.int p2), .val (.int p3), .val (.int p0), .val (.int v15), .val (.int v18), .val (.int v23), .val (.long v24), .second, .val (.long v25), .second, .val (.long v26), .second, .val (.long v27), .second, .unset, .unset, .unset] [(.int (lcmpW v27 v25))])) t → Steps p.tables e below (s₁.setTop (entryFrame m #[(.int p0), (.int p1), (.int p2), (.int p3)] maxLocals)) t := fun t kk => pre36 t (by
            show Steps p.tables e below (T20.setTop (mkF m 97 #[.val (.int p0), .val (.int p1), .val (.int p2), .val (.int p3), .val (.int p0), .val (.int v15), .val (.int v18), .val (.int v23), .val (.long v24), .second, .val (.long v25), .second, .val (.long v26), .second, .val (.long v27), .second, .unset, .unset, .unset] [(.int (lcmpW v27 v24))])) _
            refine XS.ifNo X20.here hx rfl (hb hby at_97) rfl ((if0 _ _).trans (flt (mt (lw_lt v27 v24).mp hc37)).1) ?_
            show Steps p.tables e below (T20.setTop (mkF m 100 #[.val (.int p0), .val (.int p1), .val (.int p2), .val (.int p3), .val (.int p0), .val (.int v15), .val (.int v18), .val (.int v23), .val (.long v24), .second, .val (.long v25), .second, .val (.long v26), .second, .val (.long v27), .second, .unset, .unset, .unset] [])) _
            refine XS.lload X20.here hx rfl (hb hby at_100) rfl ?_
            show Steps p.tables e below (T20.setTop (mkF m 102 #[.val (.int p0), .val (.int p1), .val (.int p2), .val (.int p3), .val (.int p0), .val (.int v15), .val (.int v18), .val (.int v23), .val (.long v24), .second, .val (.long v25), .second, .val (.long v26), .second, .val (.long v27), .second, .unset, .unset, .unset] [(.long v27)])) _
            refine XS.lload X20.here hx rfl (hb hby at_102) rfl ?_
            show Steps p.tables e below (T20.setTop (mkF m 104 #[.val (.int p0), .val (.int p1), .val (.int p2), .val (.int p3), .val (.int p0), .val (.int v15), .val (.int v18), .val (.int v23), .val (.long v24), .second, .val (.long v25), .second, .val (.long v26), .second, .val (.long v27), .second, .unset, .unset, .unset] [(.long v25), (.long v27)])) _
            refine XS.lcmp X20.here hx rfl (hb hby at_104) rfl ?_
            show Steps p.tables e below (T20.setTop (mkF m 105 #[.val (.int p0), .val (.int p1), .val (.int p2), .val (.int p3), .val (.int p0), .val (.int v15), .val (.int v18), .val (.int v23), .val (.long v24), .second, .val (.long v25), .second, .val (.long v26), .second, .val (.long v27), .second, .unset, .unset, .unset] [(.int (lcmpW v27 v25))])) _
            exact kk)
          by_cases hc39 : v25 < v27
          · exact (own_leaf0_5 p0 p1 p2 p3 v15 hv15 v18 hv18 v23 hv23 v24 hv24 v25 hv25 v26 hv26 v27 hv27 hc29 hc31 hc35 hc37 hc39).elim
          · have pre40 : ∀ t, Steps p.tables e below (T20.setTop (mkF m 112 #[.val (.int p0), .val (.int p1), .val (.int p2), .val (.int p3), .val (.int p0), .val (.int v15), .val (.int v18), .val (.int v23), .val (.long v24), .second, .val (.long v25), .second, .val (.long v26), .second, .val (.long v27), .second, .unset, .unset, .unset] [(.int (lcmpW v27 (0 : Int64)))])) t → Steps p.tables e below (s₁.setTop (entryFrame m #[(.int p0), (.int p1), (.int p2), (.int p3)] maxLocals)) t := fun t kk => pre38 t (by
              show Steps p.tables e below (T20.setTop (mkF m 105 #[.val (.int p0), .val (.int p1), .val (.int p2), .val (.int p3), .val (.int p0), .val (.int v15), .val (.int v18), .val (.int v23), .val (.long v24), .second, .val (.long v25), .second, .val (.long v26), .second, .val (.long v27), .second, .unset, .unset, .unset] [(.int (lcmpW v27 v25))])) _
              refine XS.ifNo X20.here hx rfl (hb hby at_105) rfl ((if0 _ _).trans (flt (mt (lw_gt v27 v25).mp hc39)).2.2.1) ?_
              show Steps p.tables e below (T20.setTop (mkF m 108 #[.val (.int p0), .val (.int p1), .val (.int p2), .val (.int p3), .val (.int p0), .val (.int v15), .val (.int v18), .val (.int v23), .val (.long v24), .second, .val (.long v25), .second, .val (.long v26), .second, .val (.long v27), .second, .unset, .unset, .unset] [])) _
              refine XS.lload X20.here hx rfl (hb hby at_108) rfl ?_
              show Steps p.tables e below (T20.setTop (mkF m 110 #[.val (.int p0), .val (.int p1), .val (.int p2), .val (.int p3), .val (.int p0), .val (.int v15), .val (.int v18), .val (.int v23), .val (.long v24), .second, .val (.long v25), .second, .val (.long v26), .second, .val (.long v27), .second, .unset, .unset, .unset] [(.long v27)])) _
              refine XS.lconst X20.here hx rfl (hb hby at_110) ?_
              show Steps p.tables e below (T20.setTop (mkF m 111 #[.val (.int p0), .val (.int p1), .val (.int p2), .val (.int p3), .val (.int p0), .val (.int v15), .val (.int v18), .val (.int v23), .val (.long v24), .second, .val (.long v25), .second, .val (.long v26), .second, .val (.long v27), .second, .unset, .unset, .unset] [(.long (0 : Int64)), (.long v27)])) _
              refine XS.lcmp X20.here hx rfl (hb hby at_111) rfl ?_
              show Steps p.tables e below (T20.setTop (mkF m 112 #[.val (.int p0), .val (.int p1), .val (.int p2), .val (.int p3), .val (.int p0), .val (.int v15), .val (.int v18), .val (.int v23), .val (.long v24), .second, .val (.long v25), .second, .val (.long v26), .second, .val (.long v27), .second, .unset, .unset, .unset] [(.int (lcmpW v27 (0 : Int64)))])) _
              exact kk)
            by_cases hc41 : v27 = (0 : Int64)
            · obtain ⟨fs, hr, hrun, hended, hW, hsame⟩ := X20.leave (v := some (.int (1 : Int32))) (fun h => by rw [Bd.returns] at h; cases h)
              refine ⟨_, _, pre40 _ ?_, hrun, hended, _, _, rfl, ?_, ⟨_, rfl⟩, hW, hsame.mono (by decide) (by decide)⟩
              · show Steps p.tables e below (T20.setTop (mkF m 112 #[.val (.int p0), .val (.int p1), .val (.int p2), .val (.int p3), .val (.int p0), .val (.int v15), .val (.int v18), .val (.int v23), .val (.long v24), .second, .val (.long v25), .second, .val (.long v26), .second, .val (.long v27), .second, .unset, .unset, .unset] [(.int (lcmpW v27 (0 : Int64)))])) _
                refine XS.ifYes X20.here hx rfl (pc0 := 112) (pc' := 125) rfl (hb hby at_112) rfl ((if0 _ _).trans (teq ((lw_eq v27 (0 : Int64)).mpr hc41)).1) (by decide) (by decide) ?_
                show Steps p.tables e below (T20.setTop (mkF m 125 #[.val (.int p0), .val (.int p1), .val (.int p2), .val (.int p3), .val (.int p0), .val (.int v15), .val (.int v18), .val (.int v23), .val (.long v24), .second, .val (.long v25), .second, .val (.long v26), .second, .val (.long v27), .second, .unset, .unset, .unset] [])) _
                refine XS.iconst X20.here hx rfl (hb hby at_125) ?_
                show Steps p.tables e below (T20.setTop (mkF m 126 #[.val (.int p0), .val (.int p1), .val (.int p2), .val (.int p3), .val (.int p0), .val (.int v15), .val (.int v18), .val (.int v23), .val (.long v24), .second, .val (.long v25), .second, .val (.long v26), .second, .val (.long v27), .second, .unset, .unset, .unset] [(.int (1 : Int32))])) _
                refine XS.goto X20.here hx rfl (pc0 := 126) (pc' := 130) rfl (hb hby at_126) (by decide) (by decide) ?_
                show Steps p.tables e below (T20.setTop (mkF m 130 #[.val (.int p0), .val (.int p1), .val (.int p2), .val (.int p3), .val (.int p0), .val (.int v15), .val (.int v18), .val (.int v23), .val (.long v24), .second, .val (.long v25), .second, .val (.long v26), .second, .val (.long v27), .second, .unset, .unset, .unset] [(.int (1 : Int32))])) _
                exact retN X20 hx (t := .boolean) Bd.returns (by simp) (hb hby at_130) hr
              · show own_Q0 Z p0 p1 p2 p3 h0 n0 _ T20.heap _
                rw [e22]
                exact ⟨rfl, N21⟩
            · have pre42 : ∀ t, Steps p.tables e below (T20.setTop (mkF m 122 #[.val (.int p0), .val (.int p1), .val (.int p2), .val (.int p3), .val (.int p0), .val (.int v15), .val (.int v18), .val (.int v23), .val (.long v24), .second, .val (.long v25), .second, .val (.long v26), .second, .val (.long v27), .second, .unset, .unset, .unset] [(.int (lcmpW (v27 - (1 : Int64)) v24))])) t → Steps p.tables e below (s₁.setTop (entryFrame m #[(.int p0), (.int p1), (.int p2), (.int p3)] maxLocals)) t := fun t kk => pre40 t (by
                show Steps p.tables e below (T20.setTop (mkF m 112 #[.val (.int p0), .val (.int p1), .val (.int p2), .val (.int p3), .val (.int p0), .val (.int v15), .val (.int v18), .val (.int v23), .val (.long v24), .second, .val (.long v25), .second, .val (.long v26), .second, .val (.long v27), .second, .unset, .unset, .unset] [(.int (lcmpW v27 (0 : Int64)))])) _
                refine XS.ifNo X20.here hx rfl (hb hby at_112) rfl ((if0 _ _).trans (feq (mt (lw_eq v27 (0 : Int64)).mp hc41)).1) ?_
                show Steps p.tables e below (T20.setTop (mkF m 115 #[.val (.int p0), .val (.int p1), .val (.int p2), .val (.int p3), .val (.int p0), .val (.int v15), .val (.int v18), .val (.int v23), .val (.long v24), .second, .val (.long v25), .second, .val (.long v26), .second, .val (.long v27), .second, .unset, .unset, .unset] [])) _
                refine XS.lload X20.here hx rfl (hb hby at_115) rfl ?_
                show Steps p.tables e below (T20.setTop (mkF m 117 #[.val (.int p0), .val (.int p1), .val (.int p2), .val (.int p3), .val (.int p0), .val (.int v15), .val (.int v18), .val (.int v23), .val (.long v24), .second, .val (.long v25), .second, .val (.long v26), .second, .val (.long v27), .second, .unset, .unset, .unset] [(.long v27)])) _
                refine XS.lconst X20.here hx rfl (hb hby at_117) ?_
                show Steps p.tables e below (T20.setTop (mkF m 118 #[.val (.int p0), .val (.int p1), .val (.int p2), .val (.int p3), .val (.int p0), .val (.int v15), .val (.int v18), .val (.int v23), .val (.long v24), .second, .val (.long v25), .second, .val (.long v26), .second, .val (.long v27), .second, .unset, .unset, .unset] [(.long (1 : Int64)), (.long v27)])) _
                refine XS.lsub X20.here hx rfl (hb hby at_118) rfl ?_
                show Steps p.tables e below (T20.setTop (mkF m 119 #[.val (.int p0), .val (.int p1), .val (.int p2), .val (.int p3), .val (.int p0), .val (.int v15), .val (.int v18), .val (.int v23), .val (.long v24), .second, .val (.long v25), .second, .val (.long v26), .second, .val (.long v27), .second, .unset, .unset, .unset] [(.long (v27 - (1 : Int64)))])) _
                refine XS.lload X20.here hx rfl (hb hby at_119) rfl ?_
                show Steps p.tables e below (T20.setTop (mkF m 121 #[.val (.int p0), .val (.int p1), .val (.int p2), .val (.int p3), .val (.int p0), .val (.int v15), .val (.int v18), .val (.int v23), .val (.long v24), .second, .val (.long v25), .second, .val (.long v26), .second, .val (.long v27), .second, .unset, .unset, .unset] [(.long v24), (.long (v27 - (1 : Int64)))])) _
                refine XS.lcmp X20.here hx rfl (hb hby at_121) rfl ?_
                show Steps p.tables e below (T20.setTop (mkF m 122 #[.val (.int p0), .val (.int p1), .val (.int p2), .val (.int p3), .val (.int p0), .val (.int v15), .val (.int v18), .val (.int v23), .val (.long v24), .second, .val (.long v25), .second, .val (.long v26), .second, .val (.long v27), .second, .unset, .unset, .unset] [(.int (lcmpW (v27 - (1 : Int64)) v24))])) _
                exact kk)
              by_cases hc43 : (v27 - (1 : Int64)) < v24
              · obtain ⟨fs, hr, hrun, hended, hW, hsame⟩ := X20.leave (v := some (.int (1 : Int32))) (fun h => by rw [Bd.returns] at h; cases h)
                refine ⟨_, _, pre42 _ ?_, hrun, hended, _, _, rfl, ?_, ⟨_, rfl⟩, hW, hsame.mono (by decide) (by decide)⟩
                · show Steps p.tables e below (T20.setTop (mkF m 122 #[.val (.int p0), .val (.int p1), .val (.int p2), .val (.int p3), .val (.int p0), .val (.int v15), .val (.int v18), .val (.int v23), .val (.long v24), .second, .val (.long v25), .second, .val (.long v26), .second, .val (.long v27), .second, .unset, .unset, .unset] [(.int (lcmpW (v27 - (1 : Int64)) v24))])) _
                  refine XS.ifNo X20.here hx rfl (hb hby at_122) rfl ((if0 _ _).trans (tlt ((lw_lt (v27 - (1 : Int64)) v24).mpr hc43)).2.1) ?_
                  show Steps p.tables e below (T20.setTop (mkF m 125 #[.val (.int p0), .val (.int p1), .val (.int p2), .val (.int p3), .val (.int p0), .val (.int v15), .val (.int v18), .val (.int v23), .val (.long v24), .second, .val (.long v25), .second, .val (.long v26), .second, .val (.long v27), .second, .unset, .unset, .unset] [])) _
                  refine XS.iconst X20.here hx rfl (hb hby at_125) ?_
                  show Steps p.tables e below (T20.setTop (mkF m 126 #[.val (.int p0), .val (.int p1), .val (.int p2), .val (.int p3), .val (.int p0), .val (.int v15), .val (.int v18), .val (.int v23), .val (.long v24), .second, .val (.long v25), .second, .val (.long v26), .second, .val (.long v27), .second, .unset, .unset, .unset] [(.int (1 : Int32))])) _
                  refine XS.goto X20.here hx rfl (pc0 := 126) (pc' := 130) rfl (hb hby at_126) (by decide) (by decide) ?_
                  show Steps p.tables e below (T20.setTop (mkF m 130 #[.val (.int p0), .val (.int p1), .val (.int p2), .val (.int p3), .val (.int p0), .val (.int v15), .val (.int v18), .val (.int v23), .val (.long v24), .second, .val (.long v25), .second, .val (.long v26), .second, .val (.long v27), .second, .unset, .unset, .unset] [(.int (1 : Int32))])) _
                  exact retN X20 hx (t := .boolean) Bd.returns (by simp) (hb hby at_130) hr
                · show own_Q0 Z p0 p1 p2 p3 h0 n0 _ T20.heap _
                  rw [e22]
                  exact ⟨rfl, N21⟩
              · exact (own_leaf0_8 p0 p1 p2 p3 v15 hv15 v18 hv18 v23 hv23 v24 hv24 v25 hv25 v26 hv26 v27 hv27 hc29 hc31 hc35 hc37 hc39 hc41 hc43).elim
  · have pre44 : ∀ t, Steps p.tables e below (T20.setTop (mkF m 136 #[.val (.int p0), .val (.int p1), .val (.int p2), .val (.int p3), .val (.int p0), .val (.int v15), .val (.int v18), .val (.int v23), .val (.long v24), .second, .val (.long v25), .second, .val (.long v26), .second, .val (.long v27), .second, .unset, .unset, .unset] [(.int (lcmpW v26 v25))])) t → Steps p.tables e below (s₁.setTop (entryFrame m #[(.int p0), (.int p1), (.int p2), (.int p3)] maxLocals)) t := fun t kk => pre28 t (by
      show Steps p.tables e below (T20.setTop (mkF m 61 #[.val (.int p0), .val (.int p1), .val (.int p2), .val (.int p3), .val (.int p0), .val (.int v15), .val (.int v18), .val (.int v23), .val (.long v24), .second, .val (.long v25), .second, .val (.long v26), .second, .val (.long v27), .second, .unset, .unset, .unset] [(.int v18)])) _
      refine XS.ifYes X20.here hx rfl (pc0 := 61) (pc' := 131) rfl (hb hby at_61) rfl ((if0 _ _).trans (feq hc29).2) (by decide) (by decide) ?_
      show Steps p.tables e below (T20.setTop (mkF m 131 #[.val (.int p0), .val (.int p1), .val (.int p2), .val (.int p3), .val (.int p0), .val (.int v15), .val (.int v18), .val (.int v23), .val (.long v24), .second, .val (.long v25), .second, .val (.long v26), .second, .val (.long v27), .second, .unset, .unset, .unset] [])) _
      refine XS.lload X20.here hx rfl (hb hby at_131) rfl ?_
      show Steps p.tables e below (T20.setTop (mkF m 133 #[.val (.int p0), .val (.int p1), .val (.int p2), .val (.int p3), .val (.int p0), .val (.int v15), .val (.int v18), .val (.int v23), .val (.long v24), .second, .val (.long v25), .second, .val (.long v26), .second, .val (.long v27), .second, .unset, .unset, .unset] [(.long v26)])) _
      refine XS.lload X20.here hx rfl (hb hby at_133) rfl ?_
      show Steps p.tables e below (T20.setTop (mkF m 135 #[.val (.int p0), .val (.int p1), .val (.int p2), .val (.int p3), .val (.int p0), .val (.int v15), .val (.int v18), .val (.int v23), .val (.long v24), .second, .val (.long v25), .second, .val (.long v26), .second, .val (.long v27), .second, .unset, .unset, .unset] [(.long v25), (.long v26)])) _
      refine XS.lcmp X20.here hx rfl (hb hby at_135) rfl ?_
      show Steps p.tables e below (T20.setTop (mkF m 136 #[.val (.int p0), .val (.int p1), .val (.int p2), .val (.int p3), .val (.int p0), .val (.int v15), .val (.int v18), .val (.int v23), .val (.long v24), .second, .val (.long v25), .second, .val (.long v26), .second, .val (.long v27), .second, .unset, .unset, .unset] [(.int (lcmpW v26 v25))])) _
      exact kk)
    by_cases hc45 : v25 < v26
    · have pre46 : ∀ t, Steps p.tables e below (T20.setTop (mkF m 167 #[.val (.int p0), .val (.int p1), .val (.int p2), .val (.int p3), .val (.int p0), .val (.int v15), .val (.int v18), .val (.int v23), .val (.long v24), .second, .val (.long v25), .second, .val (.long v26), .second, .val (.long v27), .second, .val (.int (0 : Int32)), .unset, .unset] [(.int (-1 : Int32)), (.int v23)])) t → Steps p.tables e below (s₁.setTop (entryFrame m #[(.int p0), (.int p1), (.int p2), (.int p3)] maxLocals)) t := fun t kk => pre44 t (by
        show Steps p.tables e below (T20.setTop (mkF m 136 #[.val (.int p0), .val (.int p1), .val (.int p2), .val (.int p3), .val (.int p0), .val (.int v15), .val (.int v18), .val (.int v23), .val (.long v24), .second, .val (.long v25), .second, .val (.long v26), .second, .val (.long v27), .second, .unset, .unset, .unset] [(.int (lcmpW v26 v25))])) _
        refine XS.ifYes X20.here hx rfl (pc0 := 136) (pc' := 161) rfl (hb hby at_136) rfl ((if0 _ _).trans (tlt ((lw_gt v26 v25).mpr hc45)).2.2.1) (by decide) (by decide) ?_
        show Steps p.tables e below (T20.setTop (mkF m 161 #[.val (.int p0), .val (.int p1), .val (.int p2), .val (.int p3), .val (.int p0), .val (.int v15), .val (.int v18), .val (.int v23), .val (.long v24), .second, .val (.long v25), .second, .val (.long v26), .second, .val (.long v27), .second, .unset, .unset, .unset] [])) _
        refine XS.iconst X20.here hx rfl (hb hby at_161) ?_
        show Steps p.tables e below (T20.setTop (mkF m 162 #[.val (.int p0), .val (.int p1), .val (.int p2), .val (.int p3), .val (.int p0), .val (.int v15), .val (.int v18), .val (.int v23), .val (.long v24), .second, .val (.long v25), .second, .val (.long v26), .second, .val (.long v27), .second, .unset, .unset, .unset] [(.int (0 : Int32))])) _
        refine XS.istore X20.here hx rfl (hb hby at_162) rfl (l' := #[.val (.int p0), .val (.int p1), .val (.int p2), .val (.int p3), .val (.int p0), .val (.int v15), .val (.int v18), .val (.int v23), .val (.long v24), .second, .val (.long v25), .second, .val (.long v26), .second, .val (.long v27), .second, .val (.int (0 : Int32)), .unset, .unset]) rfl ?_
        show Steps p.tables e below (T20.setTop (mkF m 164 #[.val (.int p0), .val (.int p1), .val (.int p2), .val (.int p3), .val (.int p0), .val (.int v15), .val (.int v18), .val (.int v23), .val (.long v24), .second, .val (.long v25), .second, .val (.long v26), .second, .val (.long v27), .second, .val (.int (0 : Int32)), .unset, .unset] [])) _
        refine XS.iload X20.here hx rfl (hb hby at_164) rfl ?_
        show Steps p.tables e below (T20.setTop (mkF m 166 #[.val (.int p0), .val (.int p1), .val (.int p2), .val (.int p3), .val (.int p0), .val (.int v15), .val (.int v18), .val (.int v23), .val (.long v24), .second, .val (.long v25), .second, .val (.long v26), .second, .val (.long v27), .second, .val (.int (0 : Int32)), .unset, .unset] [(.int v23)])) _
        refine XS.iconst X20.here hx rfl (hb hby at_166) ?_
        show Steps p.tables e below (T20.setTop (mkF m 167 #[.val (.int p0), .val (.int p1), .val (.int p2), .val (.int p3), .val (.int p0), .val (.int v15), .val (.int v18), .val (.int v23), .val (.long v24), .second, .val (.long v25), .second, .val (.long v26), .second, .val (.long v27), .second, .val (.int (0 : Int32)), .unset, .unset] [(.int (-1 : Int32)), (.int v23)])) _
        exact kk)
      by_cases hc47 : v23 = (-1 : Int32)
      · obtain ⟨fs, hr, hrun, hended, hW, hsame⟩ := X20.leave (v := some (.int (1 : Int32))) (fun h => by rw [Bd.returns] at h; cases h)
        refine ⟨_, _, pre46 _ ?_, hrun, hended, _, _, rfl, ?_, ⟨_, rfl⟩, hW, hsame.mono (by decide) (by decide)⟩
        · show Steps p.tables e below (T20.setTop (mkF m 167 #[.val (.int p0), .val (.int p1), .val (.int p2), .val (.int p3), .val (.int p0), .val (.int v15), .val (.int v18), .val (.int v23), .val (.long v24), .second, .val (.long v25), .second, .val (.long v26), .second, .val (.long v27), .second, .val (.int (0 : Int32)), .unset, .unset] [(.int (-1 : Int32)), (.int v23)])) _
          refine XS.icmpNo X20.here hx rfl (hb hby at_167) rfl (teq hc47).2 ?_
          show Steps p.tables e below (T20.setTop (mkF m 170 #[.val (.int p0), .val (.int p1), .val (.int p2), .val (.int p3), .val (.int p0), .val (.int v15), .val (.int v18), .val (.int v23), .val (.long v24), .second, .val (.long v25), .second, .val (.long v26), .second, .val (.long v27), .second, .val (.int (0 : Int32)), .unset, .unset] [])) _
          refine XS.iload X20.here hx rfl (hb hby at_170) rfl ?_
          show Steps p.tables e below (T20.setTop (mkF m 172 #[.val (.int p0), .val (.int p1), .val (.int p2), .val (.int p3), .val (.int p0), .val (.int v15), .val (.int v18), .val (.int v23), .val (.long v24), .second, .val (.long v25), .second, .val (.long v26), .second, .val (.long v27), .second, .val (.int (0 : Int32)), .unset, .unset] [(.int (0 : Int32))])) _
          refine XS.ifNo X20.here hx rfl (hb hby at_172) rfl ((if0 _ _).trans (teq (by decide : (0 : Int32) = (0 : Int32))).2) ?_
          show Steps p.tables e below (T20.setTop (mkF m 175 #[.val (.int p0), .val (.int p1), .val (.int p2), .val (.int p3), .val (.int p0), .val (.int v15), .val (.int v18), .val (.int v23), .val (.long v24), .second, .val (.long v25), .second, .val (.long v26), .second, .val (.long v27), .second, .val (.int (0 : Int32)), .unset, .unset] [])) _
          refine XS.iconst X20.here hx rfl (hb hby at_175) ?_
          show Steps p.tables e below (T20.setTop (mkF m 176 #[.val (.int p0), .val (.int p1), .val (.int p2), .val (.int p3), .val (.int p0), .val (.int v15), .val (.int v18), .val (.int v23), .val (.long v24), .second, .val (.long v25), .second, .val (.long v26), .second, .val (.long v27), .second, .val (.int (0 : Int32)), .unset, .unset] [(.int (1 : Int32))])) _
          refine XS.goto X20.here hx rfl (pc0 := 176) (pc' := 180) rfl (hb hby at_176) (by decide) (by decide) ?_
          show Steps p.tables e below (T20.setTop (mkF m 180 #[.val (.int p0), .val (.int p1), .val (.int p2), .val (.int p3), .val (.int p0), .val (.int v15), .val (.int v18), .val (.int v23), .val (.long v24), .second, .val (.long v25), .second, .val (.long v26), .second, .val (.long v27), .second, .val (.int (0 : Int32)), .unset, .unset] [(.int (1 : Int32))])) _
          exact retN X20 hx (t := .boolean) Bd.returns (by simp) (hb hby at_180) hr
        · show own_Q0 Z p0 p1 p2 p3 h0 n0 _ T20.heap _
          rw [e22]
          exact ⟨rfl, N21⟩
      · have pre48 : ∀ t, Steps p.tables e below (T20.setTop (mkF m 185 #[.val (.int p0), .val (.int p1), .val (.int p2), .val (.int p3), .val (.int p0), .val (.int v15), .val (.int v18), .val (.int v23), .val (.long v24), .second, .val (.long v25), .second, .val (.long v26), .second, .val (.long v27), .second, .val (.int (0 : Int32)), .unset, .unset] [(.int (lcmpW v27 (0 : Int64)))])) t → Steps p.tables e below (s₁.setTop (entryFrame m #[(.int p0), (.int p1), (.int p2), (.int p3)] maxLocals)) t := fun t kk => pre46 t (by
          show Steps p.tables e below (T20.setTop (mkF m 167 #[.val (.int p0), .val (.int p1), .val (.int p2), .val (.int p3), .val (.int p0), .val (.int v15), .val (.int v18), .val (.int v23), .val (.long v24), .second, .val (.long v25), .second, .val (.long v26), .second, .val (.long v27), .second, .val (.int (0 : Int32)), .unset, .unset] [(.int (-1 : Int32)), (.int v23)])) _
          refine XS.icmpYes X20.here hx rfl (pc0 := 167) (pc' := 181) rfl (hb hby at_167) rfl (feq hc47).2 (by decide) (by decide) ?_
          show Steps p.tables e below (T20.setTop (mkF m 181 #[.val (.int p0), .val (.int p1), .val (.int p2), .val (.int p3), .val (.int p0), .val (.int v15), .val (.int v18), .val (.int v23), .val (.long v24), .second, .val (.long v25), .second, .val (.long v26), .second, .val (.long v27), .second, .val (.int (0 : Int32)), .unset, .unset] [])) _
          refine XS.lload X20.here hx rfl (hb hby at_181) rfl ?_
          show Steps p.tables e below (T20.setTop (mkF m 183 #[.val (.int p0), .val (.int p1), .val (.int p2), .val (.int p3), .val (.int p0), .val (.int v15), .val (.int v18), .val (.int v23), .val (.long v24), .second, .val (.long v25), .second, .val (.long v26), .second, .val (.long v27), .second, .val (.int (0 : Int32)), .unset, .unset] [(.long v27)])) _
          refine XS.lconst X20.here hx rfl (hb hby at_183) ?_
          show Steps p.tables e below (T20.setTop (mkF m 184 #[.val (.int p0), .val (.int p1), .val (.int p2), .val (.int p3), .val (.int p0), .val (.int v15), .val (.int v18), .val (.int v23), .val (.long v24), .second, .val (.long v25), .second, .val (.long v26), .second, .val (.long v27), .second, .val (.int (0 : Int32)), .unset, .unset] [(.long (0 : Int64)), (.long v27)])) _
          refine XS.lcmp X20.here hx rfl (hb hby at_184) rfl ?_
          show Steps p.tables e below (T20.setTop (mkF m 185 #[.val (.int p0), .val (.int p1), .val (.int p2), .val (.int p3), .val (.int p0), .val (.int v15), .val (.int v18), .val (.int v23), .val (.long v24), .second, .val (.long v25), .second, .val (.long v26), .second, .val (.long v27), .second, .val (.int (0 : Int32)), .unset, .unset] [(.int (lcmpW v27 (0 : Int64)))])) _
          exact kk)
        by_cases hc49 : v27 < (0 : Int64)
        · have pre50 : ∀ t, Steps p.tables e below (T20.setTop (mkF m 218 #[.val (.int p0), .val (.int p1), .val (.int p2), .val (.int p3), .val (.int p0), .val (.int v15), .val (.int v18), .val (.int v23), .val (.long v24), .second, .val (.long v25), .second, .val (.long v26), .second, .val (.long v27), .second, .val (.int (0 : Int32)), .val (.int (0 : Int32)), .unset] [(.int (lcmpW v27 (0 : Int64)))])) t → Steps p.tables e below (s₁.setTop (entryFrame m #[(.int p0), (.int p1), (.int p2), (.int p3)] maxLocals)) t := fun t kk => pre48 t (by
            show Steps p.tables e below (T20.setTop (mkF m 185 #[.val (.int p0), .val (.int p1), .val (.int p2), .val (.int p3), .val (.int p0), .val (.int v15), .val (.int v18), .val (.int v23), .val (.long v24), .second, .val (.long v25), .second, .val (.long v26), .second, .val (.long v27), .second, .val (.int (0 : Int32)), .unset, .unset] [(.int (lcmpW v27 (0 : Int64)))])) _
            refine XS.ifYes X20.here hx rfl (pc0 := 185) (pc' := 211) rfl (hb hby at_185) rfl ((if0 _ _).trans (tlt ((lw_lt v27 (0 : Int64)).mpr hc49)).1) (by decide) (by decide) ?_
            show Steps p.tables e below (T20.setTop (mkF m 211 #[.val (.int p0), .val (.int p1), .val (.int p2), .val (.int p3), .val (.int p0), .val (.int v15), .val (.int v18), .val (.int v23), .val (.long v24), .second, .val (.long v25), .second, .val (.long v26), .second, .val (.long v27), .second, .val (.int (0 : Int32)), .unset, .unset] [])) _
            refine XS.iconst X20.here hx rfl (hb hby at_211) ?_
            show Steps p.tables e below (T20.setTop (mkF m 212 #[.val (.int p0), .val (.int p1), .val (.int p2), .val (.int p3), .val (.int p0), .val (.int v15), .val (.int v18), .val (.int v23), .val (.long v24), .second, .val (.long v25), .second, .val (.long v26), .second, .val (.long v27), .second, .val (.int (0 : Int32)), .unset, .unset] [(.int (0 : Int32))])) _
            refine XS.istore X20.here hx rfl (hb hby at_212) rfl (l' := #[.val (.int p0), .val (.int p1), .val (.int p2), .val (.int p3), .val (.int p0), .val (.int v15), .val (.int v18), .val (.int v23), .val (.long v24), .second, .val (.long v25), .second, .val (.long v26), .second, .val (.long v27), .second, .val (.int (0 : Int32)), .val (.int (0 : Int32)), .unset]) rfl ?_
            show Steps p.tables e below (T20.setTop (mkF m 214 #[.val (.int p0), .val (.int p1), .val (.int p2), .val (.int p3), .val (.int p0), .val (.int v15), .val (.int v18), .val (.int v23), .val (.long v24), .second, .val (.long v25), .second, .val (.long v26), .second, .val (.long v27), .second, .val (.int (0 : Int32)), .val (.int (0 : Int32)), .unset] [])) _
            refine XS.lload X20.here hx rfl (hb hby at_214) rfl ?_
            show Steps p.tables e below (T20.setTop (mkF m 216 #[.val (.int p0), .val (.int p1), .val (.int p2), .val (.int p3), .val (.int p0), .val (.int v15), .val (.int v18), .val (.int v23), .val (.long v24), .second, .val (.long v25), .second, .val (.long v26), .second, .val (.long v27), .second, .val (.int (0 : Int32)), .val (.int (0 : Int32)), .unset] [(.long v27)])) _
            refine XS.lconst X20.here hx rfl (hb hby at_216) ?_
            show Steps p.tables e below (T20.setTop (mkF m 217 #[.val (.int p0), .val (.int p1), .val (.int p2), .val (.int p3), .val (.int p0), .val (.int v15), .val (.int v18), .val (.int v23), .val (.long v24), .second, .val (.long v25), .second, .val (.long v26), .second, .val (.long v27), .second, .val (.int (0 : Int32)), .val (.int (0 : Int32)), .unset] [(.long (0 : Int64)), (.long v27)])) _
            refine XS.lcmp X20.here hx rfl (hb hby at_217) rfl ?_
            show Steps p.tables e below (T20.setTop (mkF m 218 #[.val (.int p0), .val (.int p1), .val (.int p2), .val (.int p3), .val (.int p0), .val (.int v15), .val (.int v18), .val (.int v23), .val (.long v24), .second, .val (.long v25), .second, .val (.long v26), .second, .val (.long v27), .second, .val (.int (0 : Int32)), .val (.int (0 : Int32)), .unset] [(.int (lcmpW v27 (0 : Int64)))])) _
            exact kk)
          by_cases hc51 : v27 = (0 : Int64)
          · exact (own_leaf0_10 p0 p1 p2 p3 v15 hv15 v18 hv18 v23 hv23 v24 hv24 v25 hv25 v26 hv26 v27 hv27 hc29 hc45 hc47 hc49 hc51).elim
          · have pre52 : ∀ t, Steps p.tables e below (T20.setTop (mkF m 228 #[.val (.int p0), .val (.int p1), .val (.int p2), .val (.int p3), .val (.int p0), .val (.int v15), .val (.int v18), .val (.int v23), .val (.long v24), .second, .val (.long v25), .second, .val (.long v26), .second, .val (.long v27), .second, .val (.int (0 : Int32)), .val (.int (0 : Int32)), .unset] [(.int (lcmpW (v27 - (1 : Int64)) v24))])) t → Steps p.tables e below (s₁.setTop (entryFrame m #[(.int p0), (.int p1), (.int p2), (.int p3)] maxLocals)) t := fun t kk => pre50 t (by
              show Steps p.tables e below (T20.setTop (mkF m 218 #[.val (.int p0), .val (.int p1), .val (.int p2), .val (.int p3), .val (.int p0), .val (.int v15), .val (.int v18), .val (.int v23), .val (.long v24), .second, .val (.long v25), .second, .val (.long v26), .second, .val (.long v27), .second, .val (.int (0 : Int32)), .val (.int (0 : Int32)), .unset] [(.int (lcmpW v27 (0 : Int64)))])) _
              refine XS.ifNo X20.here hx rfl (hb hby at_218) rfl ((if0 _ _).trans (feq (mt (lw_eq v27 (0 : Int64)).mp hc51)).1) ?_
              show Steps p.tables e below (T20.setTop (mkF m 221 #[.val (.int p0), .val (.int p1), .val (.int p2), .val (.int p3), .val (.int p0), .val (.int v15), .val (.int v18), .val (.int v23), .val (.long v24), .second, .val (.long v25), .second, .val (.long v26), .second, .val (.long v27), .second, .val (.int (0 : Int32)), .val (.int (0 : Int32)), .unset] [])) _
              refine XS.lload X20.here hx rfl (hb hby at_221) rfl ?_
              show Steps p.tables e below (T20.setTop (mkF m 223 #[.val (.int p0), .val (.int p1), .val (.int p2), .val (.int p3), .val (.int p0), .val (.int v15), .val (.int v18), .val (.int v23), .val (.long v24), .second, .val (.long v25), .second, .val (.long v26), .second, .val (.long v27), .second, .val (.int (0 : Int32)), .val (.int (0 : Int32)), .unset] [(.long v27)])) _
              refine XS.lconst X20.here hx rfl (hb hby at_223) ?_
              show Steps p.tables e below (T20.setTop (mkF m 224 #[.val (.int p0), .val (.int p1), .val (.int p2), .val (.int p3), .val (.int p0), .val (.int v15), .val (.int v18), .val (.int v23), .val (.long v24), .second, .val (.long v25), .second, .val (.long v26), .second, .val (.long v27), .second, .val (.int (0 : Int32)), .val (.int (0 : Int32)), .unset] [(.long (1 : Int64)), (.long v27)])) _
              refine XS.lsub X20.here hx rfl (hb hby at_224) rfl ?_
              show Steps p.tables e below (T20.setTop (mkF m 225 #[.val (.int p0), .val (.int p1), .val (.int p2), .val (.int p3), .val (.int p0), .val (.int v15), .val (.int v18), .val (.int v23), .val (.long v24), .second, .val (.long v25), .second, .val (.long v26), .second, .val (.long v27), .second, .val (.int (0 : Int32)), .val (.int (0 : Int32)), .unset] [(.long (v27 - (1 : Int64)))])) _
              refine XS.lload X20.here hx rfl (hb hby at_225) rfl ?_
              show Steps p.tables e below (T20.setTop (mkF m 227 #[.val (.int p0), .val (.int p1), .val (.int p2), .val (.int p3), .val (.int p0), .val (.int v15), .val (.int v18), .val (.int v23), .val (.long v24), .second, .val (.long v25), .second, .val (.long v26), .second, .val (.long v27), .second, .val (.int (0 : Int32)), .val (.int (0 : Int32)), .unset] [(.long v24), (.long (v27 - (1 : Int64)))])) _
              refine XS.lcmp X20.here hx rfl (hb hby at_227) rfl ?_
              show Steps p.tables e below (T20.setTop (mkF m 228 #[.val (.int p0), .val (.int p1), .val (.int p2), .val (.int p3), .val (.int p0), .val (.int v15), .val (.int v18), .val (.int v23), .val (.long v24), .second, .val (.long v25), .second, .val (.long v26), .second, .val (.long v27), .second, .val (.int (0 : Int32)), .val (.int (0 : Int32)), .unset] [(.int (lcmpW (v27 - (1 : Int64)) v24))])) _
              exact kk)
            by_cases hc53 : (v27 - (1 : Int64)) < v24
            · exact (own_leaf0_11 p0 p1 p2 p3 v15 hv15 v18 hv18 v23 hv23 v24 hv24 v25 hv25 v26 hv26 v27 hv27 hc29 hc45 hc47 hc49 hc51 hc53).elim
            · exact (own_leaf0_12 p0 p1 p2 p3 v15 hv15 v18 hv18 v23 hv23 v24 hv24 v25 hv25 v26 hv26 v27 hv27 hc29 hc45 hc47 hc49 hc51 hc53).elim
        · have pre54 : ∀ t, Steps p.tables e below (T20.setTop (mkF m 193 #[.val (.int p0), .val (.int p1), .val (.int p2), .val (.int p3), .val (.int p0), .val (.int v15), .val (.int v18), .val (.int v23), .val (.long v24), .second, .val (.long v25), .second, .val (.long v26), .second, .val (.long v27), .second, .val (.int (0 : Int32)), .unset, .unset] [(.int (lcmpW v27 v24))])) t → Steps p.tables e below (s₁.setTop (entryFrame m #[(.int p0), (.int p1), (.int p2), (.int p3)] maxLocals)) t := fun t kk => pre48 t (by
            show Steps p.tables e below (T20.setTop (mkF m 185 #[.val (.int p0), .val (.int p1), .val (.int p2), .val (.int p3), .val (.int p0), .val (.int v15), .val (.int v18), .val (.int v23), .val (.long v24), .second, .val (.long v25), .second, .val (.long v26), .second, .val (.long v27), .second, .val (.int (0 : Int32)), .unset, .unset] [(.int (lcmpW v27 (0 : Int64)))])) _
            refine XS.ifNo X20.here hx rfl (hb hby at_185) rfl ((if0 _ _).trans (flt (mt (lw_lt v27 (0 : Int64)).mp hc49)).1) ?_
            show Steps p.tables e below (T20.setTop (mkF m 188 #[.val (.int p0), .val (.int p1), .val (.int p2), .val (.int p3), .val (.int p0), .val (.int v15), .val (.int v18), .val (.int v23), .val (.long v24), .second, .val (.long v25), .second, .val (.long v26), .second, .val (.long v27), .second, .val (.int (0 : Int32)), .unset, .unset] [])) _
            refine XS.lload X20.here hx rfl (hb hby at_188) rfl ?_
            show Steps p.tables e below (T20.setTop (mkF m 190 #[.val (.int p0), .val (.int p1), .val (.int p2), .val (.int p3), .val (.int p0), .val (.int v15), .val (.int v18), .val (.int v23), .val (.long v24), .second, .val (.long v25), .second, .val (.long v26), .second, .val (.long v27), .second, .val (.int (0 : Int32)), .unset, .unset] [(.long v27)])) _
            refine XS.lload X20.here hx rfl (hb hby at_190) rfl ?_
            show Steps p.tables e below (T20.setTop (mkF m 192 #[.val (.int p0), .val (.int p1), .val (.int p2), .val (.int p3), .val (.int p0), .val (.int v15), .val (.int v18), .val (.int v23), .val (.long v24), .second, .val (.long v25), .second, .val (.long v26), .second, .val (.long v27), .second, .val (.int (0 : Int32)), .unset, .unset] [(.long v24), (.long v27)])) _
            refine XS.lcmp X20.here hx rfl (hb hby at_192) rfl ?_
            show Steps p.tables e below (T20.setTop (mkF m 193 #[.val (.int p0), .val (.int p1), .val (.int p2), .val (.int p3), .val (.int p0), .val (.int v15), .val (.int v18), .val (.int v23), .val (.long v24), .second, .val (.long v25), .second, .val (.long v26), .second, .val (.long v27), .second, .val (.int (0 : Int32)), .unset, .unset] [(.int (lcmpW v27 v24))])) _
            exact kk)
          by_cases hc55 : v27 < v24
          · have pre56 : ∀ t, Steps p.tables e below (T20.setTop (mkF m 218 #[.val (.int p0), .val (.int p1), .val (.int p2), .val (.int p3), .val (.int p0), .val (.int v15), .val (.int v18), .val (.int v23), .val (.long v24), .second, .val (.long v25), .second, .val (.long v26), .second, .val (.long v27), .second, .val (.int (0 : Int32)), .val (.int (0 : Int32)), .unset] [(.int (lcmpW v27 (0 : Int64)))])) t → Steps p.tables e below (s₁.setTop (entryFrame m #[(.int p0), (.int p1), (.int p2), (.int p3)] maxLocals)) t := fun t kk => pre54 t (by
              show Steps p.tables e below (T20.setTop (mkF m 193 #[.val (.int p0), .val (.int p1), .val (.int p2), .val (.int p3), .val (.int p0), .val (.int v15), .val (.int v18), .val (.int v23), .val (.long v24), .second, .val (.long v25), .second, .val (.long v26), .second, .val (.long v27), .second, .val (.int (0 : Int32)), .unset, .unset] [(.int (lcmpW v27 v24))])) _
              refine XS.ifYes X20.here hx rfl (pc0 := 193) (pc' := 211) rfl (hb hby at_193) rfl ((if0 _ _).trans (tlt ((lw_lt v27 v24).mpr hc55)).1) (by decide) (by decide) ?_
              show Steps p.tables e below (T20.setTop (mkF m 211 #[.val (.int p0), .val (.int p1), .val (.int p2), .val (.int p3), .val (.int p0), .val (.int v15), .val (.int v18), .val (.int v23), .val (.long v24), .second, .val (.long v25), .second, .val (.long v26), .second, .val (.long v27), .second, .val (.int (0 : Int32)), .unset, .unset] [])) _
              refine XS.iconst X20.here hx rfl (hb hby at_211) ?_
              show Steps p.tables e below (T20.setTop (mkF m 212 #[.val (.int p0), .val (.int p1), .val (.int p2), .val (.int p3), .val (.int p0), .val (.int v15), .val (.int v18), .val (.int v23), .val (.long v24), .second, .val (.long v25), .second, .val (.long v26), .second, .val (.long v27), .second, .val (.int (0 : Int32)), .unset, .unset] [(.int (0 : Int32))])) _
              refine XS.istore X20.here hx rfl (hb hby at_212) rfl (l' := #[.val (.int p0), .val (.int p1), .val (.int p2), .val (.int p3), .val (.int p0), .val (.int v15), .val (.int v18), .val (.int v23), .val (.long v24), .second, .val (.long v25), .second, .val (.long v26), .second, .val (.long v27), .second, .val (.int (0 : Int32)), .val (.int (0 : Int32)), .unset]) rfl ?_
              show Steps p.tables e below (T20.setTop (mkF m 214 #[.val (.int p0), .val (.int p1), .val (.int p2), .val (.int p3), .val (.int p0), .val (.int v15), .val (.int v18), .val (.int v23), .val (.long v24), .second, .val (.long v25), .second, .val (.long v26), .second, .val (.long v27), .second, .val (.int (0 : Int32)), .val (.int (0 : Int32)), .unset] [])) _
              refine XS.lload X20.here hx rfl (hb hby at_214) rfl ?_
              show Steps p.tables e below (T20.setTop (mkF m 216 #[.val (.int p0), .val (.int p1), .val (.int p2), .val (.int p3), .val (.int p0), .val (.int v15), .val (.int v18), .val (.int v23), .val (.long v24), .second, .val (.long v25), .second, .val (.long v26), .second, .val (.long v27), .second, .val (.int (0 : Int32)), .val (.int (0 : Int32)), .unset] [(.long v27)])) _
              refine XS.lconst X20.here hx rfl (hb hby at_216) ?_
              show Steps p.tables e below (T20.setTop (mkF m 217 #[.val (.int p0), .val (.int p1), .val (.int p2), .val (.int p3), .val (.int p0), .val (.int v15), .val (.int v18), .val (.int v23), .val (.long v24), .second, .val (.long v25), .second, .val (.long v26), .second, .val (.long v27), .second, .val (.int (0 : Int32)), .val (.int (0 : Int32)), .unset] [(.long (0 : Int64)), (.long v27)])) _
              refine XS.lcmp X20.here hx rfl (hb hby at_217) rfl ?_
              show Steps p.tables e below (T20.setTop (mkF m 218 #[.val (.int p0), .val (.int p1), .val (.int p2), .val (.int p3), .val (.int p0), .val (.int v15), .val (.int v18), .val (.int v23), .val (.long v24), .second, .val (.long v25), .second, .val (.long v26), .second, .val (.long v27), .second, .val (.int (0 : Int32)), .val (.int (0 : Int32)), .unset] [(.int (lcmpW v27 (0 : Int64)))])) _
              exact kk)
            by_cases hc57 : v27 = (0 : Int64)
            · exact (own_leaf0_13 p0 p1 p2 p3 v15 hv15 v18 hv18 v23 hv23 v24 hv24 v25 hv25 v26 hv26 v27 hv27 hc29 hc45 hc47 hc49 hc55 hc57).elim
            · have pre58 : ∀ t, Steps p.tables e below (T20.setTop (mkF m 228 #[.val (.int p0), .val (.int p1), .val (.int p2), .val (.int p3), .val (.int p0), .val (.int v15), .val (.int v18), .val (.int v23), .val (.long v24), .second, .val (.long v25), .second, .val (.long v26), .second, .val (.long v27), .second, .val (.int (0 : Int32)), .val (.int (0 : Int32)), .unset] [(.int (lcmpW (v27 - (1 : Int64)) v24))])) t → Steps p.tables e below (s₁.setTop (entryFrame m #[(.int p0), (.int p1), (.int p2), (.int p3)] maxLocals)) t := fun t kk => pre56 t (by
                show Steps p.tables e below (T20.setTop (mkF m 218 #[.val (.int p0), .val (.int p1), .val (.int p2), .val (.int p3), .val (.int p0), .val (.int v15), .val (.int v18), .val (.int v23), .val (.long v24), .second, .val (.long v25), .second, .val (.long v26), .second, .val (.long v27), .second, .val (.int (0 : Int32)), .val (.int (0 : Int32)), .unset] [(.int (lcmpW v27 (0 : Int64)))])) _
                refine XS.ifNo X20.here hx rfl (hb hby at_218) rfl ((if0 _ _).trans (feq (mt (lw_eq v27 (0 : Int64)).mp hc57)).1) ?_
                show Steps p.tables e below (T20.setTop (mkF m 221 #[.val (.int p0), .val (.int p1), .val (.int p2), .val (.int p3), .val (.int p0), .val (.int v15), .val (.int v18), .val (.int v23), .val (.long v24), .second, .val (.long v25), .second, .val (.long v26), .second, .val (.long v27), .second, .val (.int (0 : Int32)), .val (.int (0 : Int32)), .unset] [])) _
                refine XS.lload X20.here hx rfl (hb hby at_221) rfl ?_
                show Steps p.tables e below (T20.setTop (mkF m 223 #[.val (.int p0), .val (.int p1), .val (.int p2), .val (.int p3), .val (.int p0), .val (.int v15), .val (.int v18), .val (.int v23), .val (.long v24), .second, .val (.long v25), .second, .val (.long v26), .second, .val (.long v27), .second, .val (.int (0 : Int32)), .val (.int (0 : Int32)), .unset] [(.long v27)])) _
                refine XS.lconst X20.here hx rfl (hb hby at_223) ?_
                show Steps p.tables e below (T20.setTop (mkF m 224 #[.val (.int p0), .val (.int p1), .val (.int p2), .val (.int p3), .val (.int p0), .val (.int v15), .val (.int v18), .val (.int v23), .val (.long v24), .second, .val (.long v25), .second, .val (.long v26), .second, .val (.long v27), .second, .val (.int (0 : Int32)), .val (.int (0 : Int32)), .unset] [(.long (1 : Int64)), (.long v27)])) _
                refine XS.lsub X20.here hx rfl (hb hby at_224) rfl ?_
                show Steps p.tables e below (T20.setTop (mkF m 225 #[.val (.int p0), .val (.int p1), .val (.int p2), .val (.int p3), .val (.int p0), .val (.int v15), .val (.int v18), .val (.int v23), .val (.long v24), .second, .val (.long v25), .second, .val (.long v26), .second, .val (.long v27), .second, .val (.int (0 : Int32)), .val (.int (0 : Int32)), .unset] [(.long (v27 - (1 : Int64)))])) _
                refine XS.lload X20.here hx rfl (hb hby at_225) rfl ?_
                show Steps p.tables e below (T20.setTop (mkF m 227 #[.val (.int p0), .val (.int p1), .val (.int p2), .val (.int p3), .val (.int p0), .val (.int v15), .val (.int v18), .val (.int v23), .val (.long v24), .second, .val (.long v25), .second, .val (.long v26), .second, .val (.long v27), .second, .val (.int (0 : Int32)), .val (.int (0 : Int32)), .unset] [(.long v24), (.long (v27 - (1 : Int64)))])) _
                refine XS.lcmp X20.here hx rfl (hb hby at_227) rfl ?_
                show Steps p.tables e below (T20.setTop (mkF m 228 #[.val (.int p0), .val (.int p1), .val (.int p2), .val (.int p3), .val (.int p0), .val (.int v15), .val (.int v18), .val (.int v23), .val (.long v24), .second, .val (.long v25), .second, .val (.long v26), .second, .val (.long v27), .second, .val (.int (0 : Int32)), .val (.int (0 : Int32)), .unset] [(.int (lcmpW (v27 - (1 : Int64)) v24))])) _
                exact kk)
              by_cases hc59 : (v27 - (1 : Int64)) < v24
              · exact (own_leaf0_14 p0 p1 p2 p3 v15 hv15 v18 hv18 v23 hv23 v24 hv24 v25 hv25 v26 hv26 v27 hv27 hc29 hc45 hc47 hc49 hc55 hc57 hc59).elim
              · exact (own_leaf0_15 p0 p1 p2 p3 v15 hv15 v18 hv18 v23 hv23 v24 hv24 v25 hv25 v26 hv26 v27 hv27 hc29 hc45 hc47 hc49 hc55 hc57 hc59).elim
          · have pre60 : ∀ t, Steps p.tables e below (T20.setTop (mkF m 204 #[.val (.int p0), .val (.int p1), .val (.int p2), .val (.int p3), .val (.int p0), .val (.int v15), .val (.int v18), .val (.int v23), .val (.long v24), .second, .val (.long v25), .second, .val (.long v26), .second, .val (.long v27), .second, .val (.int (0 : Int32)), .unset, .unset] [(.int (lcmpW (v27 + v26) v25))])) t → Steps p.tables e below (s₁.setTop (entryFrame m #[(.int p0), (.int p1), (.int p2), (.int p3)] maxLocals)) t := fun t kk => pre54 t (by
              show Steps p.tables e below (T20.setTop (mkF m 193 #[.val (.int p0), .val (.int p1), .val (.int p2), .val (.int p3), .val (.int p0), .val (.int v15), .val (.int v18), .val (.int v23), .val (.long v24), .second, .val (.long v25), .second, .val (.long v26), .second, .val (.long v27), .second, .val (.int (0 : Int32)), .unset, .unset] [(.int (lcmpW v27 v24))])) _
              refine XS.ifNo X20.here hx rfl (hb hby at_193) rfl ((if0 _ _).trans (flt (mt (lw_lt v27 v24).mp hc55)).1) ?_
              show Steps p.tables e below (T20.setTop (mkF m 196 #[.val (.int p0), .val (.int p1), .val (.int p2), .val (.int p3), .val (.int p0), .val (.int v15), .val (.int v18), .val (.int v23), .val (.long v24), .second, .val (.long v25), .second, .val (.long v26), .second, .val (.long v27), .second, .val (.int (0 : Int32)), .unset, .unset] [])) _
              refine XS.lload X20.here hx rfl (hb hby at_196) rfl ?_
              show Steps p.tables e below (T20.setTop (mkF m 198 #[.val (.int p0), .val (.int p1), .val (.int p2), .val (.int p3), .val (.int p0), .val (.int v15), .val (.int v18), .val (.int v23), .val (.long v24), .second, .val (.long v25), .second, .val (.long v26), .second, .val (.long v27), .second, .val (.int (0 : Int32)), .unset, .unset] [(.long v27)])) _
              refine XS.lload X20.here hx rfl (hb hby at_198) rfl ?_
              show Steps p.tables e below (T20.setTop (mkF m 200 #[.val (.int p0), .val (.int p1), .val (.int p2), .val (.int p3), .val (.int p0), .val (.int v15), .val (.int v18), .val (.int v23), .val (.long v24), .second, .val (.long v25), .second, .val (.long v26), .second, .val (.long v27), .second, .val (.int (0 : Int32)), .unset, .unset] [(.long v26), (.long v27)])) _
              refine XS.ladd X20.here hx rfl (hb hby at_200) rfl ?_
              show Steps p.tables e below (T20.setTop (mkF m 201 #[.val (.int p0), .val (.int p1), .val (.int p2), .val (.int p3), .val (.int p0), .val (.int v15), .val (.int v18), .val (.int v23), .val (.long v24), .second, .val (.long v25), .second, .val (.long v26), .second, .val (.long v27), .second, .val (.int (0 : Int32)), .unset, .unset] [(.long (v27 + v26))])) _
              refine XS.lload X20.here hx rfl (hb hby at_201) rfl ?_
              show Steps p.tables e below (T20.setTop (mkF m 203 #[.val (.int p0), .val (.int p1), .val (.int p2), .val (.int p3), .val (.int p0), .val (.int v15), .val (.int v18), .val (.int v23), .val (.long v24), .second, .val (.long v25), .second, .val (.long v26), .second, .val (.long v27), .second, .val (.int (0 : Int32)), .unset, .unset] [(.long v25), (.long (v27 + v26))])) _
              refine XS.lcmp X20.here hx rfl (hb hby at_203) rfl ?_
              show Steps p.tables e below (T20.setTop (mkF m 204 #[.val (.int p0), .val (.int p1), .val (.int p2), .val (.int p3), .val (.int p0), .val (.int v15), .val (.int v18), .val (.int v23), .val (.long v24), .second, .val (.long v25), .second, .val (.long v26), .second, .val (.long v27), .second, .val (.int (0 : Int32)), .unset, .unset] [(.int (lcmpW (v27 + v26) v25))])) _
              exact kk)
            by_cases hc61 : v25 < (v27 + v26)
            · have pre62 : ∀ t, Steps p.tables e below (T20.setTop (mkF m 218 #[.val (.int p0), .val (.int p1), .val (.int p2), .val (.int p3), .val (.int p0), .val (.int v15), .val (.int v18), .val (.int v23), .val (.long v24), .second, .val (.long v25), .second, .val (.long v26), .second, .val (.long v27), .second, .val (.int (0 : Int32)), .val (.int (0 : Int32)), .unset] [(.int (lcmpW v27 (0 : Int64)))])) t → Steps p.tables e below (s₁.setTop (entryFrame m #[(.int p0), (.int p1), (.int p2), (.int p3)] maxLocals)) t := fun t kk => pre60 t (by
                show Steps p.tables e below (T20.setTop (mkF m 204 #[.val (.int p0), .val (.int p1), .val (.int p2), .val (.int p3), .val (.int p0), .val (.int v15), .val (.int v18), .val (.int v23), .val (.long v24), .second, .val (.long v25), .second, .val (.long v26), .second, .val (.long v27), .second, .val (.int (0 : Int32)), .unset, .unset] [(.int (lcmpW (v27 + v26) v25))])) _
                refine XS.ifYes X20.here hx rfl (pc0 := 204) (pc' := 211) rfl (hb hby at_204) rfl ((if0 _ _).trans (tlt ((lw_gt (v27 + v26) v25).mpr hc61)).2.2.1) (by decide) (by decide) ?_
                show Steps p.tables e below (T20.setTop (mkF m 211 #[.val (.int p0), .val (.int p1), .val (.int p2), .val (.int p3), .val (.int p0), .val (.int v15), .val (.int v18), .val (.int v23), .val (.long v24), .second, .val (.long v25), .second, .val (.long v26), .second, .val (.long v27), .second, .val (.int (0 : Int32)), .unset, .unset] [])) _
                refine XS.iconst X20.here hx rfl (hb hby at_211) ?_
                show Steps p.tables e below (T20.setTop (mkF m 212 #[.val (.int p0), .val (.int p1), .val (.int p2), .val (.int p3), .val (.int p0), .val (.int v15), .val (.int v18), .val (.int v23), .val (.long v24), .second, .val (.long v25), .second, .val (.long v26), .second, .val (.long v27), .second, .val (.int (0 : Int32)), .unset, .unset] [(.int (0 : Int32))])) _
                refine XS.istore X20.here hx rfl (hb hby at_212) rfl (l' := #[.val (.int p0), .val (.int p1), .val (.int p2), .val (.int p3), .val (.int p0), .val (.int v15), .val (.int v18), .val (.int v23), .val (.long v24), .second, .val (.long v25), .second, .val (.long v26), .second, .val (.long v27), .second, .val (.int (0 : Int32)), .val (.int (0 : Int32)), .unset]) rfl ?_
                show Steps p.tables e below (T20.setTop (mkF m 214 #[.val (.int p0), .val (.int p1), .val (.int p2), .val (.int p3), .val (.int p0), .val (.int v15), .val (.int v18), .val (.int v23), .val (.long v24), .second, .val (.long v25), .second, .val (.long v26), .second, .val (.long v27), .second, .val (.int (0 : Int32)), .val (.int (0 : Int32)), .unset] [])) _
                refine XS.lload X20.here hx rfl (hb hby at_214) rfl ?_
                show Steps p.tables e below (T20.setTop (mkF m 216 #[.val (.int p0), .val (.int p1), .val (.int p2), .val (.int p3), .val (.int p0), .val (.int v15), .val (.int v18), .val (.int v23), .val (.long v24), .second, .val (.long v25), .second, .val (.long v26), .second, .val (.long v27), .second, .val (.int (0 : Int32)), .val (.int (0 : Int32)), .unset] [(.long v27)])) _
                refine XS.lconst X20.here hx rfl (hb hby at_216) ?_
                show Steps p.tables e below (T20.setTop (mkF m 217 #[.val (.int p0), .val (.int p1), .val (.int p2), .val (.int p3), .val (.int p0), .val (.int v15), .val (.int v18), .val (.int v23), .val (.long v24), .second, .val (.long v25), .second, .val (.long v26), .second, .val (.long v27), .second, .val (.int (0 : Int32)), .val (.int (0 : Int32)), .unset] [(.long (0 : Int64)), (.long v27)])) _
                refine XS.lcmp X20.here hx rfl (hb hby at_217) rfl ?_
                show Steps p.tables e below (T20.setTop (mkF m 218 #[.val (.int p0), .val (.int p1), .val (.int p2), .val (.int p3), .val (.int p0), .val (.int v15), .val (.int v18), .val (.int v23), .val (.long v24), .second, .val (.long v25), .second, .val (.long v26), .second, .val (.long v27), .second, .val (.int (0 : Int32)), .val (.int (0 : Int32)), .unset] [(.int (lcmpW v27 (0 : Int64)))])) _
                exact kk)
              by_cases hc63 : v27 = (0 : Int64)
              · exact (own_leaf0_16 p0 p1 p2 p3 v15 hv15 v18 hv18 v23 hv23 v24 hv24 v25 hv25 v26 hv26 v27 hv27 hc29 hc45 hc47 hc49 hc55 hc61 hc63).elim
              · have pre64 : ∀ t, Steps p.tables e below (T20.setTop (mkF m 228 #[.val (.int p0), .val (.int p1), .val (.int p2), .val (.int p3), .val (.int p0), .val (.int v15), .val (.int v18), .val (.int v23), .val (.long v24), .second, .val (.long v25), .second, .val (.long v26), .second, .val (.long v27), .second, .val (.int (0 : Int32)), .val (.int (0 : Int32)), .unset] [(.int (lcmpW (v27 - (1 : Int64)) v24))])) t → Steps p.tables e below (s₁.setTop (entryFrame m #[(.int p0), (.int p1), (.int p2), (.int p3)] maxLocals)) t := fun t kk => pre62 t (by
                  show Steps p.tables e below (T20.setTop (mkF m 218 #[.val (.int p0), .val (.int p1), .val (.int p2), .val (.int p3), .val (.int p0), .val (.int v15), .val (.int v18), .val (.int v23), .val (.long v24), .second, .val (.long v25), .second, .val (.long v26), .second, .val (.long v27), .second, .val (.int (0 : Int32)), .val (.int (0 : Int32)), .unset] [(.int (lcmpW v27 (0 : Int64)))])) _
                  refine XS.ifNo X20.here hx rfl (hb hby at_218) rfl ((if0 _ _).trans (feq (mt (lw_eq v27 (0 : Int64)).mp hc63)).1) ?_
                  show Steps p.tables e below (T20.setTop (mkF m 221 #[.val (.int p0), .val (.int p1), .val (.int p2), .val (.int p3), .val (.int p0), .val (.int v15), .val (.int v18), .val (.int v23), .val (.long v24), .second, .val (.long v25), .second, .val (.long v26), .second, .val (.long v27), .second, .val (.int (0 : Int32)), .val (.int (0 : Int32)), .unset] [])) _
                  refine XS.lload X20.here hx rfl (hb hby at_221) rfl ?_
                  show Steps p.tables e below (T20.setTop (mkF m 223 #[.val (.int p0), .val (.int p1), .val (.int p2), .val (.int p3), .val (.int p0), .val (.int v15), .val (.int v18), .val (.int v23), .val (.long v24), .second, .val (.long v25), .second, .val (.long v26), .second, .val (.long v27), .second, .val (.int (0 : Int32)), .val (.int (0 : Int32)), .unset] [(.long v27)])) _
                  refine XS.lconst X20.here hx rfl (hb hby at_223) ?_
                  show Steps p.tables e below (T20.setTop (mkF m 224 #[.val (.int p0), .val (.int p1), .val (.int p2), .val (.int p3), .val (.int p0), .val (.int v15), .val (.int v18), .val (.int v23), .val (.long v24), .second, .val (.long v25), .second, .val (.long v26), .second, .val (.long v27), .second, .val (.int (0 : Int32)), .val (.int (0 : Int32)), .unset] [(.long (1 : Int64)), (.long v27)])) _
                  refine XS.lsub X20.here hx rfl (hb hby at_224) rfl ?_
                  show Steps p.tables e below (T20.setTop (mkF m 225 #[.val (.int p0), .val (.int p1), .val (.int p2), .val (.int p3), .val (.int p0), .val (.int v15), .val (.int v18), .val (.int v23), .val (.long v24), .second, .val (.long v25), .second, .val (.long v26), .second, .val (.long v27), .second, .val (.int (0 : Int32)), .val (.int (0 : Int32)), .unset] [(.long (v27 - (1 : Int64)))])) _
                  refine XS.lload X20.here hx rfl (hb hby at_225) rfl ?_
                  show Steps p.tables e below (T20.setTop (mkF m 227 #[.val (.int p0), .val (.int p1), .val (.int p2), .val (.int p3), .val (.int p0), .val (.int v15), .val (.int v18), .val (.int v23), .val (.long v24), .second, .val (.long v25), .second, .val (.long v26), .second, .val (.long v27), .second, .val (.int (0 : Int32)), .val (.int (0 : Int32)), .unset] [(.long v24), (.long (v27 - (1 : Int64)))])) _
                  refine XS.lcmp X20.here hx rfl (hb hby at_227) rfl ?_
                  show Steps p.tables e below (T20.setTop (mkF m 228 #[.val (.int p0), .val (.int p1), .val (.int p2), .val (.int p3), .val (.int p0), .val (.int v15), .val (.int v18), .val (.int v23), .val (.long v24), .second, .val (.long v25), .second, .val (.long v26), .second, .val (.long v27), .second, .val (.int (0 : Int32)), .val (.int (0 : Int32)), .unset] [(.int (lcmpW (v27 - (1 : Int64)) v24))])) _
                  exact kk)
                by_cases hc65 : (v27 - (1 : Int64)) < v24
                · exact (own_leaf0_17 p0 p1 p2 p3 v15 hv15 v18 hv18 v23 hv23 v24 hv24 v25 hv25 v26 hv26 v27 hv27 hc29 hc45 hc47 hc49 hc55 hc61 hc63 hc65).elim
                · exact (own_leaf0_18 p0 p1 p2 p3 v15 hv15 v18 hv18 v23 hv23 v24 hv24 v25 hv25 v26 hv26 v27 hv27 hc29 hc45 hc47 hc49 hc55 hc61 hc63 hc65).elim
            · have pre66 : ∀ t, Steps p.tables e below (T20.setTop (mkF m 218 #[.val (.int p0), .val (.int p1), .val (.int p2), .val (.int p3), .val (.int p0), .val (.int v15), .val (.int v18), .val (.int v23), .val (.long v24), .second, .val (.long v25), .second, .val (.long v26), .second, .val (.long v27), .second, .val (.int (0 : Int32)), .val (.int (1 : Int32)), .unset] [(.int (lcmpW v27 (0 : Int64)))])) t → Steps p.tables e below (s₁.setTop (entryFrame m #[(.int p0), (.int p1), (.int p2), (.int p3)] maxLocals)) t := fun t kk => pre60 t (by
                show Steps p.tables e below (T20.setTop (mkF m 204 #[.val (.int p0), .val (.int p1), .val (.int p2), .val (.int p3), .val (.int p0), .val (.int v15), .val (.int v18), .val (.int v23), .val (.long v24), .second, .val (.long v25), .second, .val (.long v26), .second, .val (.long v27), .second, .val (.int (0 : Int32)), .unset, .unset] [(.int (lcmpW (v27 + v26) v25))])) _
                refine XS.ifNo X20.here hx rfl (hb hby at_204) rfl ((if0 _ _).trans (flt (mt (lw_gt (v27 + v26) v25).mp hc61)).2.2.1) ?_
                show Steps p.tables e below (T20.setTop (mkF m 207 #[.val (.int p0), .val (.int p1), .val (.int p2), .val (.int p3), .val (.int p0), .val (.int v15), .val (.int v18), .val (.int v23), .val (.long v24), .second, .val (.long v25), .second, .val (.long v26), .second, .val (.long v27), .second, .val (.int (0 : Int32)), .unset, .unset] [])) _
                refine XS.iconst X20.here hx rfl (hb hby at_207) ?_
                show Steps p.tables e below (T20.setTop (mkF m 208 #[.val (.int p0), .val (.int p1), .val (.int p2), .val (.int p3), .val (.int p0), .val (.int v15), .val (.int v18), .val (.int v23), .val (.long v24), .second, .val (.long v25), .second, .val (.long v26), .second, .val (.long v27), .second, .val (.int (0 : Int32)), .unset, .unset] [(.int (1 : Int32))])) _
                refine XS.goto X20.here hx rfl (pc0 := 208) (pc' := 212) rfl (hb hby at_208) (by decide) (by decide) ?_
                show Steps p.tables e below (T20.setTop (mkF m 212 #[.val (.int p0), .val (.int p1), .val (.int p2), .val (.int p3), .val (.int p0), .val (.int v15), .val (.int v18), .val (.int v23), .val (.long v24), .second, .val (.long v25), .second, .val (.long v26), .second, .val (.long v27), .second, .val (.int (0 : Int32)), .unset, .unset] [(.int (1 : Int32))])) _
                refine XS.istore X20.here hx rfl (hb hby at_212) rfl (l' := #[.val (.int p0), .val (.int p1), .val (.int p2), .val (.int p3), .val (.int p0), .val (.int v15), .val (.int v18), .val (.int v23), .val (.long v24), .second, .val (.long v25), .second, .val (.long v26), .second, .val (.long v27), .second, .val (.int (0 : Int32)), .val (.int (1 : Int32)), .unset]) rfl ?_
                show Steps p.tables e below (T20.setTop (mkF m 214 #[.val (.int p0), .val (.int p1), .val (.int p2), .val (.int p3), .val (.int p0), .val (.int v15), .val (.int v18), .val (.int v23), .val (.long v24), .second, .val (.long v25), .second, .val (.long v26), .second, .val (.long v27), .second, .val (.int (0 : Int32)), .val (.int (1 : Int32)), .unset] [])) _
                refine XS.lload X20.here hx rfl (hb hby at_214) rfl ?_
                show Steps p.tables e below (T20.setTop (mkF m 216 #[.val (.int p0), .val (.int p1), .val (.int p2), .val (.int p3), .val (.int p0), .val (.int v15), .val (.int v18), .val (.int v23), .val (.long v24), .second, .val (.long v25), .second, .val (.long v26), .second, .val (.long v27), .second, .val (.int (0 : Int32)), .val (.int (1 : Int32)), .unset] [(.long v27)])) _
                refine XS.lconst X20.here hx rfl (hb hby at_216) ?_
                show Steps p.tables e below (T20.setTop (mkF m 217 #[.val (.int p0), .val (.int p1), .val (.int p2), .val (.int p3), .val (.int p0), .val (.int v15), .val (.int v18), .val (.int v23), .val (.long v24), .second, .val (.long v25), .second, .val (.long v26), .second, .val (.long v27), .second, .val (.int (0 : Int32)), .val (.int (1 : Int32)), .unset] [(.long (0 : Int64)), (.long v27)])) _
                refine XS.lcmp X20.here hx rfl (hb hby at_217) rfl ?_
                show Steps p.tables e below (T20.setTop (mkF m 218 #[.val (.int p0), .val (.int p1), .val (.int p2), .val (.int p3), .val (.int p0), .val (.int v15), .val (.int v18), .val (.int v23), .val (.long v24), .second, .val (.long v25), .second, .val (.long v26), .second, .val (.long v27), .second, .val (.int (0 : Int32)), .val (.int (1 : Int32)), .unset] [(.int (lcmpW v27 (0 : Int64)))])) _
                exact kk)
              by_cases hc67 : v27 = (0 : Int64)
              · exact (own_leaf0_19 p0 p1 p2 p3 v15 hv15 v18 hv18 v23 hv23 v24 hv24 v25 hv25 v26 hv26 v27 hv27 hc29 hc45 hc47 hc49 hc55 hc61 hc67).elim
              · have pre68 : ∀ t, Steps p.tables e below (T20.setTop (mkF m 228 #[.val (.int p0), .val (.int p1), .val (.int p2), .val (.int p3), .val (.int p0), .val (.int v15), .val (.int v18), .val (.int v23), .val (.long v24), .second, .val (.long v25), .second, .val (.long v26), .second, .val (.long v27), .second, .val (.int (0 : Int32)), .val (.int (1 : Int32)), .unset] [(.int (lcmpW (v27 - (1 : Int64)) v24))])) t → Steps p.tables e below (s₁.setTop (entryFrame m #[(.int p0), (.int p1), (.int p2), (.int p3)] maxLocals)) t := fun t kk => pre66 t (by
                  show Steps p.tables e below (T20.setTop (mkF m 218 #[.val (.int p0), .val (.int p1), .val (.int p2), .val (.int p3), .val (.int p0), .val (.int v15), .val (.int v18), .val (.int v23), .val (.long v24), .second, .val (.long v25), .second, .val (.long v26), .second, .val (.long v27), .second, .val (.int (0 : Int32)), .val (.int (1 : Int32)), .unset] [(.int (lcmpW v27 (0 : Int64)))])) _
                  refine XS.ifNo X20.here hx rfl (hb hby at_218) rfl ((if0 _ _).trans (feq (mt (lw_eq v27 (0 : Int64)).mp hc67)).1) ?_
                  show Steps p.tables e below (T20.setTop (mkF m 221 #[.val (.int p0), .val (.int p1), .val (.int p2), .val (.int p3), .val (.int p0), .val (.int v15), .val (.int v18), .val (.int v23), .val (.long v24), .second, .val (.long v25), .second, .val (.long v26), .second, .val (.long v27), .second, .val (.int (0 : Int32)), .val (.int (1 : Int32)), .unset] [])) _
                  refine XS.lload X20.here hx rfl (hb hby at_221) rfl ?_
                  show Steps p.tables e below (T20.setTop (mkF m 223 #[.val (.int p0), .val (.int p1), .val (.int p2), .val (.int p3), .val (.int p0), .val (.int v15), .val (.int v18), .val (.int v23), .val (.long v24), .second, .val (.long v25), .second, .val (.long v26), .second, .val (.long v27), .second, .val (.int (0 : Int32)), .val (.int (1 : Int32)), .unset] [(.long v27)])) _
                  refine XS.lconst X20.here hx rfl (hb hby at_223) ?_
                  show Steps p.tables e below (T20.setTop (mkF m 224 #[.val (.int p0), .val (.int p1), .val (.int p2), .val (.int p3), .val (.int p0), .val (.int v15), .val (.int v18), .val (.int v23), .val (.long v24), .second, .val (.long v25), .second, .val (.long v26), .second, .val (.long v27), .second, .val (.int (0 : Int32)), .val (.int (1 : Int32)), .unset] [(.long (1 : Int64)), (.long v27)])) _
                  refine XS.lsub X20.here hx rfl (hb hby at_224) rfl ?_
                  show Steps p.tables e below (T20.setTop (mkF m 225 #[.val (.int p0), .val (.int p1), .val (.int p2), .val (.int p3), .val (.int p0), .val (.int v15), .val (.int v18), .val (.int v23), .val (.long v24), .second, .val (.long v25), .second, .val (.long v26), .second, .val (.long v27), .second, .val (.int (0 : Int32)), .val (.int (1 : Int32)), .unset] [(.long (v27 - (1 : Int64)))])) _
                  refine XS.lload X20.here hx rfl (hb hby at_225) rfl ?_
                  show Steps p.tables e below (T20.setTop (mkF m 227 #[.val (.int p0), .val (.int p1), .val (.int p2), .val (.int p3), .val (.int p0), .val (.int v15), .val (.int v18), .val (.int v23), .val (.long v24), .second, .val (.long v25), .second, .val (.long v26), .second, .val (.long v27), .second, .val (.int (0 : Int32)), .val (.int (1 : Int32)), .unset] [(.long v24), (.long (v27 - (1 : Int64)))])) _
                  refine XS.lcmp X20.here hx rfl (hb hby at_227) rfl ?_
                  show Steps p.tables e below (T20.setTop (mkF m 228 #[.val (.int p0), .val (.int p1), .val (.int p2), .val (.int p3), .val (.int p0), .val (.int v15), .val (.int v18), .val (.int v23), .val (.long v24), .second, .val (.long v25), .second, .val (.long v26), .second, .val (.long v27), .second, .val (.int (0 : Int32)), .val (.int (1 : Int32)), .unset] [(.int (lcmpW (v27 - (1 : Int64)) v24))])) _
                  exact kk)
                by_cases hc69 : (v27 - (1 : Int64)) < v24
                · exact (own_leaf0_20 p0 p1 p2 p3 v15 hv15 v18 hv18 v23 hv23 v24 hv24 v25 hv25 v26 hv26 v27 hv27 hc29 hc45 hc47 hc49 hc55 hc61 hc67 hc69).elim
                · exact (own_leaf0_21 p0 p1 p2 p3 v15 hv15 v18 hv18 v23 hv23 v24 hv24 v25 hv25 v26 hv26 v27 hv27 hc29 hc45 hc47 hc49 hc55 hc61 hc67 hc69).elim
    · have pre70 : ∀ t, Steps p.tables e below (T20.setTop (mkF m 143 #[.val (.int p0), .val (.int p1), .val (.int p2), .val (.int p3), .val (.int p0), .val (.int v15), .val (.int v18), .val (.int v23), .val (.long v24), .second, .val (.long v25), .second, .val (.long v26), .second, .val (.long v27), .second, .unset, .unset, .unset] [(.int (lcmpW v24 (0 : Int64)))])) t → Steps p.tables e below (s₁.setTop (entryFrame m #[(.int p0), (.int p1), (.int p2), (.int p3)] maxLocals)) t := fun t kk => pre44 t (by
        show Steps p.tables e below (T20.setTop (mkF m 136 #[.val (.int p0), .val (.int p1), .val (.int p2), .val (.int p3), .val (.int p0), .val (.int v15), .val (.int v18), .val (.int v23), .val (.long v24), .second, .val (.long v25), .second, .val (.long v26), .second, .val (.long v27), .second, .unset, .unset, .unset] [(.int (lcmpW v26 v25))])) _
        refine XS.ifNo X20.here hx rfl (hb hby at_136) rfl ((if0 _ _).trans (flt (mt (lw_gt v26 v25).mp hc45)).2.2.1) ?_
        show Steps p.tables e below (T20.setTop (mkF m 139 #[.val (.int p0), .val (.int p1), .val (.int p2), .val (.int p3), .val (.int p0), .val (.int v15), .val (.int v18), .val (.int v23), .val (.long v24), .second, .val (.long v25), .second, .val (.long v26), .second, .val (.long v27), .second, .unset, .unset, .unset] [])) _
        refine XS.lload X20.here hx rfl (hb hby at_139) rfl ?_
        show Steps p.tables e below (T20.setTop (mkF m 141 #[.val (.int p0), .val (.int p1), .val (.int p2), .val (.int p3), .val (.int p0), .val (.int v15), .val (.int v18), .val (.int v23), .val (.long v24), .second, .val (.long v25), .second, .val (.long v26), .second, .val (.long v27), .second, .unset, .unset, .unset] [(.long v24)])) _
        refine XS.lconst X20.here hx rfl (hb hby at_141) ?_
        show Steps p.tables e below (T20.setTop (mkF m 142 #[.val (.int p0), .val (.int p1), .val (.int p2), .val (.int p3), .val (.int p0), .val (.int v15), .val (.int v18), .val (.int v23), .val (.long v24), .second, .val (.long v25), .second, .val (.long v26), .second, .val (.long v27), .second, .unset, .unset, .unset] [(.long (0 : Int64)), (.long v24)])) _
        refine XS.lcmp X20.here hx rfl (hb hby at_142) rfl ?_
        show Steps p.tables e below (T20.setTop (mkF m 143 #[.val (.int p0), .val (.int p1), .val (.int p2), .val (.int p3), .val (.int p0), .val (.int v15), .val (.int v18), .val (.int v23), .val (.long v24), .second, .val (.long v25), .second, .val (.long v26), .second, .val (.long v27), .second, .unset, .unset, .unset] [(.int (lcmpW v24 (0 : Int64)))])) _
        exact kk)
      by_cases hc71 : (0 : Int64) < v24
      · have pre72 : ∀ t, Steps p.tables e below (T20.setTop (mkF m 154 #[.val (.int p0), .val (.int p1), .val (.int p2), .val (.int p3), .val (.int p0), .val (.int v15), .val (.int v18), .val (.int v23), .val (.long v24), .second, .val (.long v25), .second, .val (.long v26), .second, .val (.long v27), .second, .unset, .unset, .unset] [(.int (lcmpW (v24 + v26) v25))])) t → Steps p.tables e below (s₁.setTop (entryFrame m #[(.int p0), (.int p1), (.int p2), (.int p3)] maxLocals)) t := fun t kk => pre70 t (by
          show Steps p.tables e below (T20.setTop (mkF m 143 #[.val (.int p0), .val (.int p1), .val (.int p2), .val (.int p3), .val (.int p0), .val (.int v15), .val (.int v18), .val (.int v23), .val (.long v24), .second, .val (.long v25), .second, .val (.long v26), .second, .val (.long v27), .second, .unset, .unset, .unset] [(.int (lcmpW v24 (0 : Int64)))])) _
          refine XS.ifNo X20.here hx rfl (hb hby at_143) rfl ((if0 _ _).trans (tlt ((lw_gt v24 (0 : Int64)).mpr hc71)).2.2.2) ?_
          show Steps p.tables e below (T20.setTop (mkF m 146 #[.val (.int p0), .val (.int p1), .val (.int p2), .val (.int p3), .val (.int p0), .val (.int v15), .val (.int v18), .val (.int v23), .val (.long v24), .second, .val (.long v25), .second, .val (.long v26), .second, .val (.long v27), .second, .unset, .unset, .unset] [])) _
          refine XS.lload X20.here hx rfl (hb hby at_146) rfl ?_
          show Steps p.tables e below (T20.setTop (mkF m 148 #[.val (.int p0), .val (.int p1), .val (.int p2), .val (.int p3), .val (.int p0), .val (.int v15), .val (.int v18), .val (.int v23), .val (.long v24), .second, .val (.long v25), .second, .val (.long v26), .second, .val (.long v27), .second, .unset, .unset, .unset] [(.long v24)])) _
          refine XS.lload X20.here hx rfl (hb hby at_148) rfl ?_
          show Steps p.tables e below (T20.setTop (mkF m 150 #[.val (.int p0), .val (.int p1), .val (.int p2), .val (.int p3), .val (.int p0), .val (.int v15), .val (.int v18), .val (.int v23), .val (.long v24), .second, .val (.long v25), .second, .val (.long v26), .second, .val (.long v27), .second, .unset, .unset, .unset] [(.long v26), (.long v24)])) _
          refine XS.ladd X20.here hx rfl (hb hby at_150) rfl ?_
          show Steps p.tables e below (T20.setTop (mkF m 151 #[.val (.int p0), .val (.int p1), .val (.int p2), .val (.int p3), .val (.int p0), .val (.int v15), .val (.int v18), .val (.int v23), .val (.long v24), .second, .val (.long v25), .second, .val (.long v26), .second, .val (.long v27), .second, .unset, .unset, .unset] [(.long (v24 + v26))])) _
          refine XS.lload X20.here hx rfl (hb hby at_151) rfl ?_
          show Steps p.tables e below (T20.setTop (mkF m 153 #[.val (.int p0), .val (.int p1), .val (.int p2), .val (.int p3), .val (.int p0), .val (.int v15), .val (.int v18), .val (.int v23), .val (.long v24), .second, .val (.long v25), .second, .val (.long v26), .second, .val (.long v27), .second, .unset, .unset, .unset] [(.long v25), (.long (v24 + v26))])) _
          refine XS.lcmp X20.here hx rfl (hb hby at_153) rfl ?_
          show Steps p.tables e below (T20.setTop (mkF m 154 #[.val (.int p0), .val (.int p1), .val (.int p2), .val (.int p3), .val (.int p0), .val (.int v15), .val (.int v18), .val (.int v23), .val (.long v24), .second, .val (.long v25), .second, .val (.long v26), .second, .val (.long v27), .second, .unset, .unset, .unset] [(.int (lcmpW (v24 + v26) v25))])) _
          exact kk)
        by_cases hc73 : v25 < (v24 + v26)
        · have pre74 : ∀ t, Steps p.tables e below (T20.setTop (mkF m 167 #[.val (.int p0), .val (.int p1), .val (.int p2), .val (.int p3), .val (.int p0), .val (.int v15), .val (.int v18), .val (.int v23), .val (.long v24), .second, .val (.long v25), .second, .val (.long v26), .second, .val (.long v27), .second, .val (.int (0 : Int32)), .unset, .unset] [(.int (-1 : Int32)), (.int v23)])) t → Steps p.tables e below (s₁.setTop (entryFrame m #[(.int p0), (.int p1), (.int p2), (.int p3)] maxLocals)) t := fun t kk => pre72 t (by
            show Steps p.tables e below (T20.setTop (mkF m 154 #[.val (.int p0), .val (.int p1), .val (.int p2), .val (.int p3), .val (.int p0), .val (.int v15), .val (.int v18), .val (.int v23), .val (.long v24), .second, .val (.long v25), .second, .val (.long v26), .second, .val (.long v27), .second, .unset, .unset, .unset] [(.int (lcmpW (v24 + v26) v25))])) _
            refine XS.ifYes X20.here hx rfl (pc0 := 154) (pc' := 161) rfl (hb hby at_154) rfl ((if0 _ _).trans (tlt ((lw_gt (v24 + v26) v25).mpr hc73)).2.2.1) (by decide) (by decide) ?_
            show Steps p.tables e below (T20.setTop (mkF m 161 #[.val (.int p0), .val (.int p1), .val (.int p2), .val (.int p3), .val (.int p0), .val (.int v15), .val (.int v18), .val (.int v23), .val (.long v24), .second, .val (.long v25), .second, .val (.long v26), .second, .val (.long v27), .second, .unset, .unset, .unset] [])) _
            refine XS.iconst X20.here hx rfl (hb hby at_161) ?_
            show Steps p.tables e below (T20.setTop (mkF m 162 #[.val (.int p0), .val (.int p1), .val (.int p2), .val (.int p3), .val (.int p0), .val (.int v15), .val (.int v18), .val (.int v23), .val (.long v24), .second, .val (.long v25), .second, .val (.long v26), .second, .val (.long v27), .second, .unset, .unset, .unset] [(.int (0 : Int32))])) _
            refine XS.istore X20.here hx rfl (hb hby at_162) rfl (l' := #[.val (.int p0), .val (.int p1), .val (.int p2), .val (.int p3), .val (.int p0), .val (.int v15), .val (.int v18), .val (.int v23), .val (.long v24), .second, .val (.long v25), .second, .val (.long v26), .second, .val (.long v27), .second, .val (.int (0 : Int32)), .unset, .unset]) rfl ?_
            show Steps p.tables e below (T20.setTop (mkF m 164 #[.val (.int p0), .val (.int p1), .val (.int p2), .val (.int p3), .val (.int p0), .val (.int v15), .val (.int v18), .val (.int v23), .val (.long v24), .second, .val (.long v25), .second, .val (.long v26), .second, .val (.long v27), .second, .val (.int (0 : Int32)), .unset, .unset] [])) _
            refine XS.iload X20.here hx rfl (hb hby at_164) rfl ?_
            show Steps p.tables e below (T20.setTop (mkF m 166 #[.val (.int p0), .val (.int p1), .val (.int p2), .val (.int p3), .val (.int p0), .val (.int v15), .val (.int v18), .val (.int v23), .val (.long v24), .second, .val (.long v25), .second, .val (.long v26), .second, .val (.long v27), .second, .val (.int (0 : Int32)), .unset, .unset] [(.int v23)])) _
            refine XS.iconst X20.here hx rfl (hb hby at_166) ?_
            show Steps p.tables e below (T20.setTop (mkF m 167 #[.val (.int p0), .val (.int p1), .val (.int p2), .val (.int p3), .val (.int p0), .val (.int v15), .val (.int v18), .val (.int v23), .val (.long v24), .second, .val (.long v25), .second, .val (.long v26), .second, .val (.long v27), .second, .val (.int (0 : Int32)), .unset, .unset] [(.int (-1 : Int32)), (.int v23)])) _
            exact kk)
          by_cases hc75 : v23 = (-1 : Int32)
          · obtain ⟨fs, hr, hrun, hended, hW, hsame⟩ := X20.leave (v := some (.int (1 : Int32))) (fun h => by rw [Bd.returns] at h; cases h)
            refine ⟨_, _, pre74 _ ?_, hrun, hended, _, _, rfl, ?_, ⟨_, rfl⟩, hW, hsame.mono (by decide) (by decide)⟩
            · show Steps p.tables e below (T20.setTop (mkF m 167 #[.val (.int p0), .val (.int p1), .val (.int p2), .val (.int p3), .val (.int p0), .val (.int v15), .val (.int v18), .val (.int v23), .val (.long v24), .second, .val (.long v25), .second, .val (.long v26), .second, .val (.long v27), .second, .val (.int (0 : Int32)), .unset, .unset] [(.int (-1 : Int32)), (.int v23)])) _
              refine XS.icmpNo X20.here hx rfl (hb hby at_167) rfl (teq hc75).2 ?_
              show Steps p.tables e below (T20.setTop (mkF m 170 #[.val (.int p0), .val (.int p1), .val (.int p2), .val (.int p3), .val (.int p0), .val (.int v15), .val (.int v18), .val (.int v23), .val (.long v24), .second, .val (.long v25), .second, .val (.long v26), .second, .val (.long v27), .second, .val (.int (0 : Int32)), .unset, .unset] [])) _
              refine XS.iload X20.here hx rfl (hb hby at_170) rfl ?_
              show Steps p.tables e below (T20.setTop (mkF m 172 #[.val (.int p0), .val (.int p1), .val (.int p2), .val (.int p3), .val (.int p0), .val (.int v15), .val (.int v18), .val (.int v23), .val (.long v24), .second, .val (.long v25), .second, .val (.long v26), .second, .val (.long v27), .second, .val (.int (0 : Int32)), .unset, .unset] [(.int (0 : Int32))])) _
              refine XS.ifNo X20.here hx rfl (hb hby at_172) rfl ((if0 _ _).trans (teq (by decide : (0 : Int32) = (0 : Int32))).2) ?_
              show Steps p.tables e below (T20.setTop (mkF m 175 #[.val (.int p0), .val (.int p1), .val (.int p2), .val (.int p3), .val (.int p0), .val (.int v15), .val (.int v18), .val (.int v23), .val (.long v24), .second, .val (.long v25), .second, .val (.long v26), .second, .val (.long v27), .second, .val (.int (0 : Int32)), .unset, .unset] [])) _
              refine XS.iconst X20.here hx rfl (hb hby at_175) ?_
              show Steps p.tables e below (T20.setTop (mkF m 176 #[.val (.int p0), .val (.int p1), .val (.int p2), .val (.int p3), .val (.int p0), .val (.int v15), .val (.int v18), .val (.int v23), .val (.long v24), .second, .val (.long v25), .second, .val (.long v26), .second, .val (.long v27), .second, .val (.int (0 : Int32)), .unset, .unset] [(.int (1 : Int32))])) _
              refine XS.goto X20.here hx rfl (pc0 := 176) (pc' := 180) rfl (hb hby at_176) (by decide) (by decide) ?_
              show Steps p.tables e below (T20.setTop (mkF m 180 #[.val (.int p0), .val (.int p1), .val (.int p2), .val (.int p3), .val (.int p0), .val (.int v15), .val (.int v18), .val (.int v23), .val (.long v24), .second, .val (.long v25), .second, .val (.long v26), .second, .val (.long v27), .second, .val (.int (0 : Int32)), .unset, .unset] [(.int (1 : Int32))])) _
              exact retN X20 hx (t := .boolean) Bd.returns (by simp) (hb hby at_180) hr
            · show own_Q0 Z p0 p1 p2 p3 h0 n0 _ T20.heap _
              rw [e22]
              exact ⟨rfl, N21⟩
          · have pre76 : ∀ t, Steps p.tables e below (T20.setTop (mkF m 185 #[.val (.int p0), .val (.int p1), .val (.int p2), .val (.int p3), .val (.int p0), .val (.int v15), .val (.int v18), .val (.int v23), .val (.long v24), .second, .val (.long v25), .second, .val (.long v26), .second, .val (.long v27), .second, .val (.int (0 : Int32)), .unset, .unset] [(.int (lcmpW v27 (0 : Int64)))])) t → Steps p.tables e below (s₁.setTop (entryFrame m #[(.int p0), (.int p1), (.int p2), (.int p3)] maxLocals)) t := fun t kk => pre74 t (by
              show Steps p.tables e below (T20.setTop (mkF m 167 #[.val (.int p0), .val (.int p1), .val (.int p2), .val (.int p3), .val (.int p0), .val (.int v15), .val (.int v18), .val (.int v23), .val (.long v24), .second, .val (.long v25), .second, .val (.long v26), .second, .val (.long v27), .second, .val (.int (0 : Int32)), .unset, .unset] [(.int (-1 : Int32)), (.int v23)])) _
              refine XS.icmpYes X20.here hx rfl (pc0 := 167) (pc' := 181) rfl (hb hby at_167) rfl (feq hc75).2 (by decide) (by decide) ?_
              show Steps p.tables e below (T20.setTop (mkF m 181 #[.val (.int p0), .val (.int p1), .val (.int p2), .val (.int p3), .val (.int p0), .val (.int v15), .val (.int v18), .val (.int v23), .val (.long v24), .second, .val (.long v25), .second, .val (.long v26), .second, .val (.long v27), .second, .val (.int (0 : Int32)), .unset, .unset] [])) _
              refine XS.lload X20.here hx rfl (hb hby at_181) rfl ?_
              show Steps p.tables e below (T20.setTop (mkF m 183 #[.val (.int p0), .val (.int p1), .val (.int p2), .val (.int p3), .val (.int p0), .val (.int v15), .val (.int v18), .val (.int v23), .val (.long v24), .second, .val (.long v25), .second, .val (.long v26), .second, .val (.long v27), .second, .val (.int (0 : Int32)), .unset, .unset] [(.long v27)])) _
              refine XS.lconst X20.here hx rfl (hb hby at_183) ?_
              show Steps p.tables e below (T20.setTop (mkF m 184 #[.val (.int p0), .val (.int p1), .val (.int p2), .val (.int p3), .val (.int p0), .val (.int v15), .val (.int v18), .val (.int v23), .val (.long v24), .second, .val (.long v25), .second, .val (.long v26), .second, .val (.long v27), .second, .val (.int (0 : Int32)), .unset, .unset] [(.long (0 : Int64)), (.long v27)])) _
              refine XS.lcmp X20.here hx rfl (hb hby at_184) rfl ?_
              show Steps p.tables e below (T20.setTop (mkF m 185 #[.val (.int p0), .val (.int p1), .val (.int p2), .val (.int p3), .val (.int p0), .val (.int v15), .val (.int v18), .val (.int v23), .val (.long v24), .second, .val (.long v25), .second, .val (.long v26), .second, .val (.long v27), .second, .val (.int (0 : Int32)), .unset, .unset] [(.int (lcmpW v27 (0 : Int64)))])) _
              exact kk)
            by_cases hc77 : v27 < (0 : Int64)
            · have pre78 : ∀ t, Steps p.tables e below (T20.setTop (mkF m 218 #[.val (.int p0), .val (.int p1), .val (.int p2), .val (.int p3), .val (.int p0), .val (.int v15), .val (.int v18), .val (.int v23), .val (.long v24), .second, .val (.long v25), .second, .val (.long v26), .second, .val (.long v27), .second, .val (.int (0 : Int32)), .val (.int (0 : Int32)), .unset] [(.int (lcmpW v27 (0 : Int64)))])) t → Steps p.tables e below (s₁.setTop (entryFrame m #[(.int p0), (.int p1), (.int p2), (.int p3)] maxLocals)) t := fun t kk => pre76 t (by
                show Steps p.tables e below (T20.setTop (mkF m 185 #[.val (.int p0), .val (.int p1), .val (.int p2), .val (.int p3), .val (.int p0), .val (.int v15), .val (.int v18), .val (.int v23), .val (.long v24), .second, .val (.long v25), .second, .val (.long v26), .second, .val (.long v27), .second, .val (.int (0 : Int32)), .unset, .unset] [(.int (lcmpW v27 (0 : Int64)))])) _
                refine XS.ifYes X20.here hx rfl (pc0 := 185) (pc' := 211) rfl (hb hby at_185) rfl ((if0 _ _).trans (tlt ((lw_lt v27 (0 : Int64)).mpr hc77)).1) (by decide) (by decide) ?_
                show Steps p.tables e below (T20.setTop (mkF m 211 #[.val (.int p0), .val (.int p1), .val (.int p2), .val (.int p3), .val (.int p0), .val (.int v15), .val (.int v18), .val (.int v23), .val (.long v24), .second, .val (.long v25), .second, .val (.long v26), .second, .val (.long v27), .second, .val (.int (0 : Int32)), .unset, .unset] [])) _
                refine XS.iconst X20.here hx rfl (hb hby at_211) ?_
                show Steps p.tables e below (T20.setTop (mkF m 212 #[.val (.int p0), .val (.int p1), .val (.int p2), .val (.int p3), .val (.int p0), .val (.int v15), .val (.int v18), .val (.int v23), .val (.long v24), .second, .val (.long v25), .second, .val (.long v26), .second, .val (.long v27), .second, .val (.int (0 : Int32)), .unset, .unset] [(.int (0 : Int32))])) _
                refine XS.istore X20.here hx rfl (hb hby at_212) rfl (l' := #[.val (.int p0), .val (.int p1), .val (.int p2), .val (.int p3), .val (.int p0), .val (.int v15), .val (.int v18), .val (.int v23), .val (.long v24), .second, .val (.long v25), .second, .val (.long v26), .second, .val (.long v27), .second, .val (.int (0 : Int32)), .val (.int (0 : Int32)), .unset]) rfl ?_
                show Steps p.tables e below (T20.setTop (mkF m 214 #[.val (.int p0), .val (.int p1), .val (.int p2), .val (.int p3), .val (.int p0), .val (.int v15), .val (.int v18), .val (.int v23), .val (.long v24), .second, .val (.long v25), .second, .val (.long v26), .second, .val (.long v27), .second, .val (.int (0 : Int32)), .val (.int (0 : Int32)), .unset] [])) _
                refine XS.lload X20.here hx rfl (hb hby at_214) rfl ?_
                show Steps p.tables e below (T20.setTop (mkF m 216 #[.val (.int p0), .val (.int p1), .val (.int p2), .val (.int p3), .val (.int p0), .val (.int v15), .val (.int v18), .val (.int v23), .val (.long v24), .second, .val (.long v25), .second, .val (.long v26), .second, .val (.long v27), .second, .val (.int (0 : Int32)), .val (.int (0 : Int32)), .unset] [(.long v27)])) _
                refine XS.lconst X20.here hx rfl (hb hby at_216) ?_
                show Steps p.tables e below (T20.setTop (mkF m 217 #[.val (.int p0), .val (.int p1), .val (.int p2), .val (.int p3), .val (.int p0), .val (.int v15), .val (.int v18), .val (.int v23), .val (.long v24), .second, .val (.long v25), .second, .val (.long v26), .second, .val (.long v27), .second, .val (.int (0 : Int32)), .val (.int (0 : Int32)), .unset] [(.long (0 : Int64)), (.long v27)])) _
                refine XS.lcmp X20.here hx rfl (hb hby at_217) rfl ?_
                show Steps p.tables e below (T20.setTop (mkF m 218 #[.val (.int p0), .val (.int p1), .val (.int p2), .val (.int p3), .val (.int p0), .val (.int v15), .val (.int v18), .val (.int v23), .val (.long v24), .second, .val (.long v25), .second, .val (.long v26), .second, .val (.long v27), .second, .val (.int (0 : Int32)), .val (.int (0 : Int32)), .unset] [(.int (lcmpW v27 (0 : Int64)))])) _
                exact kk)
              by_cases hc79 : v27 = (0 : Int64)
              · exact (own_leaf0_23 p0 p1 p2 p3 v15 hv15 v18 hv18 v23 hv23 v24 hv24 v25 hv25 v26 hv26 v27 hv27 hc29 hc45 hc71 hc73 hc75 hc77 hc79).elim
              · have pre80 : ∀ t, Steps p.tables e below (T20.setTop (mkF m 228 #[.val (.int p0), .val (.int p1), .val (.int p2), .val (.int p3), .val (.int p0), .val (.int v15), .val (.int v18), .val (.int v23), .val (.long v24), .second, .val (.long v25), .second, .val (.long v26), .second, .val (.long v27), .second, .val (.int (0 : Int32)), .val (.int (0 : Int32)), .unset] [(.int (lcmpW (v27 - (1 : Int64)) v24))])) t → Steps p.tables e below (s₁.setTop (entryFrame m #[(.int p0), (.int p1), (.int p2), (.int p3)] maxLocals)) t := fun t kk => pre78 t (by
                  show Steps p.tables e below (T20.setTop (mkF m 218 #[.val (.int p0), .val (.int p1), .val (.int p2), .val (.int p3), .val (.int p0), .val (.int v15), .val (.int v18), .val (.int v23), .val (.long v24), .second, .val (.long v25), .second, .val (.long v26), .second, .val (.long v27), .second, .val (.int (0 : Int32)), .val (.int (0 : Int32)), .unset] [(.int (lcmpW v27 (0 : Int64)))])) _
                  refine XS.ifNo X20.here hx rfl (hb hby at_218) rfl ((if0 _ _).trans (feq (mt (lw_eq v27 (0 : Int64)).mp hc79)).1) ?_
                  show Steps p.tables e below (T20.setTop (mkF m 221 #[.val (.int p0), .val (.int p1), .val (.int p2), .val (.int p3), .val (.int p0), .val (.int v15), .val (.int v18), .val (.int v23), .val (.long v24), .second, .val (.long v25), .second, .val (.long v26), .second, .val (.long v27), .second, .val (.int (0 : Int32)), .val (.int (0 : Int32)), .unset] [])) _
                  refine XS.lload X20.here hx rfl (hb hby at_221) rfl ?_
                  show Steps p.tables e below (T20.setTop (mkF m 223 #[.val (.int p0), .val (.int p1), .val (.int p2), .val (.int p3), .val (.int p0), .val (.int v15), .val (.int v18), .val (.int v23), .val (.long v24), .second, .val (.long v25), .second, .val (.long v26), .second, .val (.long v27), .second, .val (.int (0 : Int32)), .val (.int (0 : Int32)), .unset] [(.long v27)])) _
                  refine XS.lconst X20.here hx rfl (hb hby at_223) ?_
                  show Steps p.tables e below (T20.setTop (mkF m 224 #[.val (.int p0), .val (.int p1), .val (.int p2), .val (.int p3), .val (.int p0), .val (.int v15), .val (.int v18), .val (.int v23), .val (.long v24), .second, .val (.long v25), .second, .val (.long v26), .second, .val (.long v27), .second, .val (.int (0 : Int32)), .val (.int (0 : Int32)), .unset] [(.long (1 : Int64)), (.long v27)])) _
                  refine XS.lsub X20.here hx rfl (hb hby at_224) rfl ?_
                  show Steps p.tables e below (T20.setTop (mkF m 225 #[.val (.int p0), .val (.int p1), .val (.int p2), .val (.int p3), .val (.int p0), .val (.int v15), .val (.int v18), .val (.int v23), .val (.long v24), .second, .val (.long v25), .second, .val (.long v26), .second, .val (.long v27), .second, .val (.int (0 : Int32)), .val (.int (0 : Int32)), .unset] [(.long (v27 - (1 : Int64)))])) _
                  refine XS.lload X20.here hx rfl (hb hby at_225) rfl ?_
                  show Steps p.tables e below (T20.setTop (mkF m 227 #[.val (.int p0), .val (.int p1), .val (.int p2), .val (.int p3), .val (.int p0), .val (.int v15), .val (.int v18), .val (.int v23), .val (.long v24), .second, .val (.long v25), .second, .val (.long v26), .second, .val (.long v27), .second, .val (.int (0 : Int32)), .val (.int (0 : Int32)), .unset] [(.long v24), (.long (v27 - (1 : Int64)))])) _
                  refine XS.lcmp X20.here hx rfl (hb hby at_227) rfl ?_
                  show Steps p.tables e below (T20.setTop (mkF m 228 #[.val (.int p0), .val (.int p1), .val (.int p2), .val (.int p3), .val (.int p0), .val (.int v15), .val (.int v18), .val (.int v23), .val (.long v24), .second, .val (.long v25), .second, .val (.long v26), .second, .val (.long v27), .second, .val (.int (0 : Int32)), .val (.int (0 : Int32)), .unset] [(.int (lcmpW (v27 - (1 : Int64)) v24))])) _
                  exact kk)
                by_cases hc81 : (v27 - (1 : Int64)) < v24
                · exact (own_leaf0_24 p0 p1 p2 p3 v15 hv15 v18 hv18 v23 hv23 v24 hv24 v25 hv25 v26 hv26 v27 hv27 hc29 hc45 hc71 hc73 hc75 hc77 hc79 hc81).elim
                · exact (own_leaf0_25 p0 p1 p2 p3 v15 hv15 v18 hv18 v23 hv23 v24 hv24 v25 hv25 v26 hv26 v27 hv27 hc29 hc45 hc71 hc73 hc75 hc77 hc79 hc81).elim
            · have pre82 : ∀ t, Steps p.tables e below (T20.setTop (mkF m 193 #[.val (.int p0), .val (.int p1), .val (.int p2), .val (.int p3), .val (.int p0), .val (.int v15), .val (.int v18), .val (.int v23), .val (.long v24), .second, .val (.long v25), .second, .val (.long v26), .second, .val (.long v27), .second, .val (.int (0 : Int32)), .unset, .unset] [(.int (lcmpW v27 v24))])) t → Steps p.tables e below (s₁.setTop (entryFrame m #[(.int p0), (.int p1), (.int p2), (.int p3)] maxLocals)) t := fun t kk => pre76 t (by
                show Steps p.tables e below (T20.setTop (mkF m 185 #[.val (.int p0), .val (.int p1), .val (.int p2), .val (.int p3), .val (.int p0), .val (.int v15), .val (.int v18), .val (.int v23), .val (.long v24), .second, .val (.long v25), .second, .val (.long v26), .second, .val (.long v27), .second, .val (.int (0 : Int32)), .unset, .unset] [(.int (lcmpW v27 (0 : Int64)))])) _
                refine XS.ifNo X20.here hx rfl (hb hby at_185) rfl ((if0 _ _).trans (flt (mt (lw_lt v27 (0 : Int64)).mp hc77)).1) ?_
                show Steps p.tables e below (T20.setTop (mkF m 188 #[.val (.int p0), .val (.int p1), .val (.int p2), .val (.int p3), .val (.int p0), .val (.int v15), .val (.int v18), .val (.int v23), .val (.long v24), .second, .val (.long v25), .second, .val (.long v26), .second, .val (.long v27), .second, .val (.int (0 : Int32)), .unset, .unset] [])) _
                refine XS.lload X20.here hx rfl (hb hby at_188) rfl ?_
                show Steps p.tables e below (T20.setTop (mkF m 190 #[.val (.int p0), .val (.int p1), .val (.int p2), .val (.int p3), .val (.int p0), .val (.int v15), .val (.int v18), .val (.int v23), .val (.long v24), .second, .val (.long v25), .second, .val (.long v26), .second, .val (.long v27), .second, .val (.int (0 : Int32)), .unset, .unset] [(.long v27)])) _
                refine XS.lload X20.here hx rfl (hb hby at_190) rfl ?_
                show Steps p.tables e below (T20.setTop (mkF m 192 #[.val (.int p0), .val (.int p1), .val (.int p2), .val (.int p3), .val (.int p0), .val (.int v15), .val (.int v18), .val (.int v23), .val (.long v24), .second, .val (.long v25), .second, .val (.long v26), .second, .val (.long v27), .second, .val (.int (0 : Int32)), .unset, .unset] [(.long v24), (.long v27)])) _
                refine XS.lcmp X20.here hx rfl (hb hby at_192) rfl ?_
                show Steps p.tables e below (T20.setTop (mkF m 193 #[.val (.int p0), .val (.int p1), .val (.int p2), .val (.int p3), .val (.int p0), .val (.int v15), .val (.int v18), .val (.int v23), .val (.long v24), .second, .val (.long v25), .second, .val (.long v26), .second, .val (.long v27), .second, .val (.int (0 : Int32)), .unset, .unset] [(.int (lcmpW v27 v24))])) _
                exact kk)
              by_cases hc83 : v27 < v24
              · have pre84 : ∀ t, Steps p.tables e below (T20.setTop (mkF m 218 #[.val (.int p0), .val (.int p1), .val (.int p2), .val (.int p3), .val (.int p0), .val (.int v15), .val (.int v18), .val (.int v23), .val (.long v24), .second, .val (.long v25), .second, .val (.long v26), .second, .val (.long v27), .second, .val (.int (0 : Int32)), .val (.int (0 : Int32)), .unset] [(.int (lcmpW v27 (0 : Int64)))])) t → Steps p.tables e below (s₁.setTop (entryFrame m #[(.int p0), (.int p1), (.int p2), (.int p3)] maxLocals)) t := fun t kk => pre82 t (by
                  show Steps p.tables e below (T20.setTop (mkF m 193 #[.val (.int p0), .val (.int p1), .val (.int p2), .val (.int p3), .val (.int p0), .val (.int v15), .val (.int v18), .val (.int v23), .val (.long v24), .second, .val (.long v25), .second, .val (.long v26), .second, .val (.long v27), .second, .val (.int (0 : Int32)), .unset, .unset] [(.int (lcmpW v27 v24))])) _
                  refine XS.ifYes X20.here hx rfl (pc0 := 193) (pc' := 211) rfl (hb hby at_193) rfl ((if0 _ _).trans (tlt ((lw_lt v27 v24).mpr hc83)).1) (by decide) (by decide) ?_
                  show Steps p.tables e below (T20.setTop (mkF m 211 #[.val (.int p0), .val (.int p1), .val (.int p2), .val (.int p3), .val (.int p0), .val (.int v15), .val (.int v18), .val (.int v23), .val (.long v24), .second, .val (.long v25), .second, .val (.long v26), .second, .val (.long v27), .second, .val (.int (0 : Int32)), .unset, .unset] [])) _
                  refine XS.iconst X20.here hx rfl (hb hby at_211) ?_
                  show Steps p.tables e below (T20.setTop (mkF m 212 #[.val (.int p0), .val (.int p1), .val (.int p2), .val (.int p3), .val (.int p0), .val (.int v15), .val (.int v18), .val (.int v23), .val (.long v24), .second, .val (.long v25), .second, .val (.long v26), .second, .val (.long v27), .second, .val (.int (0 : Int32)), .unset, .unset] [(.int (0 : Int32))])) _
                  refine XS.istore X20.here hx rfl (hb hby at_212) rfl (l' := #[.val (.int p0), .val (.int p1), .val (.int p2), .val (.int p3), .val (.int p0), .val (.int v15), .val (.int v18), .val (.int v23), .val (.long v24), .second, .val (.long v25), .second, .val (.long v26), .second, .val (.long v27), .second, .val (.int (0 : Int32)), .val (.int (0 : Int32)), .unset]) rfl ?_
                  show Steps p.tables e below (T20.setTop (mkF m 214 #[.val (.int p0), .val (.int p1), .val (.int p2), .val (.int p3), .val (.int p0), .val (.int v15), .val (.int v18), .val (.int v23), .val (.long v24), .second, .val (.long v25), .second, .val (.long v26), .second, .val (.long v27), .second, .val (.int (0 : Int32)), .val (.int (0 : Int32)), .unset] [])) _
                  refine XS.lload X20.here hx rfl (hb hby at_214) rfl ?_
                  show Steps p.tables e below (T20.setTop (mkF m 216 #[.val (.int p0), .val (.int p1), .val (.int p2), .val (.int p3), .val (.int p0), .val (.int v15), .val (.int v18), .val (.int v23), .val (.long v24), .second, .val (.long v25), .second, .val (.long v26), .second, .val (.long v27), .second, .val (.int (0 : Int32)), .val (.int (0 : Int32)), .unset] [(.long v27)])) _
                  refine XS.lconst X20.here hx rfl (hb hby at_216) ?_
                  show Steps p.tables e below (T20.setTop (mkF m 217 #[.val (.int p0), .val (.int p1), .val (.int p2), .val (.int p3), .val (.int p0), .val (.int v15), .val (.int v18), .val (.int v23), .val (.long v24), .second, .val (.long v25), .second, .val (.long v26), .second, .val (.long v27), .second, .val (.int (0 : Int32)), .val (.int (0 : Int32)), .unset] [(.long (0 : Int64)), (.long v27)])) _
                  refine XS.lcmp X20.here hx rfl (hb hby at_217) rfl ?_
                  show Steps p.tables e below (T20.setTop (mkF m 218 #[.val (.int p0), .val (.int p1), .val (.int p2), .val (.int p3), .val (.int p0), .val (.int v15), .val (.int v18), .val (.int v23), .val (.long v24), .second, .val (.long v25), .second, .val (.long v26), .second, .val (.long v27), .second, .val (.int (0 : Int32)), .val (.int (0 : Int32)), .unset] [(.int (lcmpW v27 (0 : Int64)))])) _
                  exact kk)
                by_cases hc85 : v27 = (0 : Int64)
                · exact (own_leaf0_26 p0 p1 p2 p3 v15 hv15 v18 hv18 v23 hv23 v24 hv24 v25 hv25 v26 hv26 v27 hv27 hc29 hc45 hc71 hc73 hc75 hc77 hc83 hc85).elim
                · have pre86 : ∀ t, Steps p.tables e below (T20.setTop (mkF m 228 #[.val (.int p0), .val (.int p1), .val (.int p2), .val (.int p3), .val (.int p0), .val (.int v15), .val (.int v18), .val (.int v23), .val (.long v24), .second, .val (.long v25), .second, .val (.long v26), .second, .val (.long v27), .second, .val (.int (0 : Int32)), .val (.int (0 : Int32)), .unset] [(.int (lcmpW (v27 - (1 : Int64)) v24))])) t → Steps p.tables e below (s₁.setTop (entryFrame m #[(.int p0), (.int p1), (.int p2), (.int p3)] maxLocals)) t := fun t kk => pre84 t (by
                    show Steps p.tables e below (T20.setTop (mkF m 218 #[.val (.int p0), .val (.int p1), .val (.int p2), .val (.int p3), .val (.int p0), .val (.int v15), .val (.int v18), .val (.int v23), .val (.long v24), .second, .val (.long v25), .second, .val (.long v26), .second, .val (.long v27), .second, .val (.int (0 : Int32)), .val (.int (0 : Int32)), .unset] [(.int (lcmpW v27 (0 : Int64)))])) _
                    refine XS.ifNo X20.here hx rfl (hb hby at_218) rfl ((if0 _ _).trans (feq (mt (lw_eq v27 (0 : Int64)).mp hc85)).1) ?_
                    show Steps p.tables e below (T20.setTop (mkF m 221 #[.val (.int p0), .val (.int p1), .val (.int p2), .val (.int p3), .val (.int p0), .val (.int v15), .val (.int v18), .val (.int v23), .val (.long v24), .second, .val (.long v25), .second, .val (.long v26), .second, .val (.long v27), .second, .val (.int (0 : Int32)), .val (.int (0 : Int32)), .unset] [])) _
                    refine XS.lload X20.here hx rfl (hb hby at_221) rfl ?_
                    show Steps p.tables e below (T20.setTop (mkF m 223 #[.val (.int p0), .val (.int p1), .val (.int p2), .val (.int p3), .val (.int p0), .val (.int v15), .val (.int v18), .val (.int v23), .val (.long v24), .second, .val (.long v25), .second, .val (.long v26), .second, .val (.long v27), .second, .val (.int (0 : Int32)), .val (.int (0 : Int32)), .unset] [(.long v27)])) _
                    refine XS.lconst X20.here hx rfl (hb hby at_223) ?_
                    show Steps p.tables e below (T20.setTop (mkF m 224 #[.val (.int p0), .val (.int p1), .val (.int p2), .val (.int p3), .val (.int p0), .val (.int v15), .val (.int v18), .val (.int v23), .val (.long v24), .second, .val (.long v25), .second, .val (.long v26), .second, .val (.long v27), .second, .val (.int (0 : Int32)), .val (.int (0 : Int32)), .unset] [(.long (1 : Int64)), (.long v27)])) _
                    refine XS.lsub X20.here hx rfl (hb hby at_224) rfl ?_
                    show Steps p.tables e below (T20.setTop (mkF m 225 #[.val (.int p0), .val (.int p1), .val (.int p2), .val (.int p3), .val (.int p0), .val (.int v15), .val (.int v18), .val (.int v23), .val (.long v24), .second, .val (.long v25), .second, .val (.long v26), .second, .val (.long v27), .second, .val (.int (0 : Int32)), .val (.int (0 : Int32)), .unset] [(.long (v27 - (1 : Int64)))])) _
                    refine XS.lload X20.here hx rfl (hb hby at_225) rfl ?_
                    show Steps p.tables e below (T20.setTop (mkF m 227 #[.val (.int p0), .val (.int p1), .val (.int p2), .val (.int p3), .val (.int p0), .val (.int v15), .val (.int v18), .val (.int v23), .val (.long v24), .second, .val (.long v25), .second, .val (.long v26), .second, .val (.long v27), .second, .val (.int (0 : Int32)), .val (.int (0 : Int32)), .unset] [(.long v24), (.long (v27 - (1 : Int64)))])) _
                    refine XS.lcmp X20.here hx rfl (hb hby at_227) rfl ?_
                    show Steps p.tables e below (T20.setTop (mkF m 228 #[.val (.int p0), .val (.int p1), .val (.int p2), .val (.int p3), .val (.int p0), .val (.int v15), .val (.int v18), .val (.int v23), .val (.long v24), .second, .val (.long v25), .second, .val (.long v26), .second, .val (.long v27), .second, .val (.int (0 : Int32)), .val (.int (0 : Int32)), .unset] [(.int (lcmpW (v27 - (1 : Int64)) v24))])) _
                    exact kk)
                  by_cases hc87 : (v27 - (1 : Int64)) < v24
                  · exact (own_leaf0_27 p0 p1 p2 p3 v15 hv15 v18 hv18 v23 hv23 v24 hv24 v25 hv25 v26 hv26 v27 hv27 hc29 hc45 hc71 hc73 hc75 hc77 hc83 hc85 hc87).elim
                  · exact (own_leaf0_28 p0 p1 p2 p3 v15 hv15 v18 hv18 v23 hv23 v24 hv24 v25 hv25 v26 hv26 v27 hv27 hc29 hc45 hc71 hc73 hc75 hc77 hc83 hc85 hc87).elim
              · have pre88 : ∀ t, Steps p.tables e below (T20.setTop (mkF m 204 #[.val (.int p0), .val (.int p1), .val (.int p2), .val (.int p3), .val (.int p0), .val (.int v15), .val (.int v18), .val (.int v23), .val (.long v24), .second, .val (.long v25), .second, .val (.long v26), .second, .val (.long v27), .second, .val (.int (0 : Int32)), .unset, .unset] [(.int (lcmpW (v27 + v26) v25))])) t → Steps p.tables e below (s₁.setTop (entryFrame m #[(.int p0), (.int p1), (.int p2), (.int p3)] maxLocals)) t := fun t kk => pre82 t (by
                  show Steps p.tables e below (T20.setTop (mkF m 193 #[.val (.int p0), .val (.int p1), .val (.int p2), .val (.int p3), .val (.int p0), .val (.int v15), .val (.int v18), .val (.int v23), .val (.long v24), .second, .val (.long v25), .second, .val (.long v26), .second, .val (.long v27), .second, .val (.int (0 : Int32)), .unset, .unset] [(.int (lcmpW v27 v24))])) _
                  refine XS.ifNo X20.here hx rfl (hb hby at_193) rfl ((if0 _ _).trans (flt (mt (lw_lt v27 v24).mp hc83)).1) ?_
                  show Steps p.tables e below (T20.setTop (mkF m 196 #[.val (.int p0), .val (.int p1), .val (.int p2), .val (.int p3), .val (.int p0), .val (.int v15), .val (.int v18), .val (.int v23), .val (.long v24), .second, .val (.long v25), .second, .val (.long v26), .second, .val (.long v27), .second, .val (.int (0 : Int32)), .unset, .unset] [])) _
                  refine XS.lload X20.here hx rfl (hb hby at_196) rfl ?_
                  show Steps p.tables e below (T20.setTop (mkF m 198 #[.val (.int p0), .val (.int p1), .val (.int p2), .val (.int p3), .val (.int p0), .val (.int v15), .val (.int v18), .val (.int v23), .val (.long v24), .second, .val (.long v25), .second, .val (.long v26), .second, .val (.long v27), .second, .val (.int (0 : Int32)), .unset, .unset] [(.long v27)])) _
                  refine XS.lload X20.here hx rfl (hb hby at_198) rfl ?_
                  show Steps p.tables e below (T20.setTop (mkF m 200 #[.val (.int p0), .val (.int p1), .val (.int p2), .val (.int p3), .val (.int p0), .val (.int v15), .val (.int v18), .val (.int v23), .val (.long v24), .second, .val (.long v25), .second, .val (.long v26), .second, .val (.long v27), .second, .val (.int (0 : Int32)), .unset, .unset] [(.long v26), (.long v27)])) _
                  refine XS.ladd X20.here hx rfl (hb hby at_200) rfl ?_
                  show Steps p.tables e below (T20.setTop (mkF m 201 #[.val (.int p0), .val (.int p1), .val (.int p2), .val (.int p3), .val (.int p0), .val (.int v15), .val (.int v18), .val (.int v23), .val (.long v24), .second, .val (.long v25), .second, .val (.long v26), .second, .val (.long v27), .second, .val (.int (0 : Int32)), .unset, .unset] [(.long (v27 + v26))])) _
                  refine XS.lload X20.here hx rfl (hb hby at_201) rfl ?_
                  show Steps p.tables e below (T20.setTop (mkF m 203 #[.val (.int p0), .val (.int p1), .val (.int p2), .val (.int p3), .val (.int p0), .val (.int v15), .val (.int v18), .val (.int v23), .val (.long v24), .second, .val (.long v25), .second, .val (.long v26), .second, .val (.long v27), .second, .val (.int (0 : Int32)), .unset, .unset] [(.long v25), (.long (v27 + v26))])) _
                  refine XS.lcmp X20.here hx rfl (hb hby at_203) rfl ?_
                  show Steps p.tables e below (T20.setTop (mkF m 204 #[.val (.int p0), .val (.int p1), .val (.int p2), .val (.int p3), .val (.int p0), .val (.int v15), .val (.int v18), .val (.int v23), .val (.long v24), .second, .val (.long v25), .second, .val (.long v26), .second, .val (.long v27), .second, .val (.int (0 : Int32)), .unset, .unset] [(.int (lcmpW (v27 + v26) v25))])) _
                  exact kk)
                by_cases hc89 : v25 < (v27 + v26)
                · have pre90 : ∀ t, Steps p.tables e below (T20.setTop (mkF m 218 #[.val (.int p0), .val (.int p1), .val (.int p2), .val (.int p3), .val (.int p0), .val (.int v15), .val (.int v18), .val (.int v23), .val (.long v24), .second, .val (.long v25), .second, .val (.long v26), .second, .val (.long v27), .second, .val (.int (0 : Int32)), .val (.int (0 : Int32)), .unset] [(.int (lcmpW v27 (0 : Int64)))])) t → Steps p.tables e below (s₁.setTop (entryFrame m #[(.int p0), (.int p1), (.int p2), (.int p3)] maxLocals)) t := fun t kk => pre88 t (by
                    show Steps p.tables e below (T20.setTop (mkF m 204 #[.val (.int p0), .val (.int p1), .val (.int p2), .val (.int p3), .val (.int p0), .val (.int v15), .val (.int v18), .val (.int v23), .val (.long v24), .second, .val (.long v25), .second, .val (.long v26), .second, .val (.long v27), .second, .val (.int (0 : Int32)), .unset, .unset] [(.int (lcmpW (v27 + v26) v25))])) _
                    refine XS.ifYes X20.here hx rfl (pc0 := 204) (pc' := 211) rfl (hb hby at_204) rfl ((if0 _ _).trans (tlt ((lw_gt (v27 + v26) v25).mpr hc89)).2.2.1) (by decide) (by decide) ?_
                    show Steps p.tables e below (T20.setTop (mkF m 211 #[.val (.int p0), .val (.int p1), .val (.int p2), .val (.int p3), .val (.int p0), .val (.int v15), .val (.int v18), .val (.int v23), .val (.long v24), .second, .val (.long v25), .second, .val (.long v26), .second, .val (.long v27), .second, .val (.int (0 : Int32)), .unset, .unset] [])) _
                    refine XS.iconst X20.here hx rfl (hb hby at_211) ?_
                    show Steps p.tables e below (T20.setTop (mkF m 212 #[.val (.int p0), .val (.int p1), .val (.int p2), .val (.int p3), .val (.int p0), .val (.int v15), .val (.int v18), .val (.int v23), .val (.long v24), .second, .val (.long v25), .second, .val (.long v26), .second, .val (.long v27), .second, .val (.int (0 : Int32)), .unset, .unset] [(.int (0 : Int32))])) _
                    refine XS.istore X20.here hx rfl (hb hby at_212) rfl (l' := #[.val (.int p0), .val (.int p1), .val (.int p2), .val (.int p3), .val (.int p0), .val (.int v15), .val (.int v18), .val (.int v23), .val (.long v24), .second, .val (.long v25), .second, .val (.long v26), .second, .val (.long v27), .second, .val (.int (0 : Int32)), .val (.int (0 : Int32)), .unset]) rfl ?_
                    show Steps p.tables e below (T20.setTop (mkF m 214 #[.val (.int p0), .val (.int p1), .val (.int p2), .val (.int p3), .val (.int p0), .val (.int v15), .val (.int v18), .val (.int v23), .val (.long v24), .second, .val (.long v25), .second, .val (.long v26), .second, .val (.long v27), .second, .val (.int (0 : Int32)), .val (.int (0 : Int32)), .unset] [])) _
                    refine XS.lload X20.here hx rfl (hb hby at_214) rfl ?_
                    show Steps p.tables e below (T20.setTop (mkF m 216 #[.val (.int p0), .val (.int p1), .val (.int p2), .val (.int p3), .val (.int p0), .val (.int v15), .val (.int v18), .val (.int v23), .val (.long v24), .second, .val (.long v25), .second, .val (.long v26), .second, .val (.long v27), .second, .val (.int (0 : Int32)), .val (.int (0 : Int32)), .unset] [(.long v27)])) _
                    refine XS.lconst X20.here hx rfl (hb hby at_216) ?_
                    show Steps p.tables e below (T20.setTop (mkF m 217 #[.val (.int p0), .val (.int p1), .val (.int p2), .val (.int p3), .val (.int p0), .val (.int v15), .val (.int v18), .val (.int v23), .val (.long v24), .second, .val (.long v25), .second, .val (.long v26), .second, .val (.long v27), .second, .val (.int (0 : Int32)), .val (.int (0 : Int32)), .unset] [(.long (0 : Int64)), (.long v27)])) _
                    refine XS.lcmp X20.here hx rfl (hb hby at_217) rfl ?_
                    show Steps p.tables e below (T20.setTop (mkF m 218 #[.val (.int p0), .val (.int p1), .val (.int p2), .val (.int p3), .val (.int p0), .val (.int v15), .val (.int v18), .val (.int v23), .val (.long v24), .second, .val (.long v25), .second, .val (.long v26), .second, .val (.long v27), .second, .val (.int (0 : Int32)), .val (.int (0 : Int32)), .unset] [(.int (lcmpW v27 (0 : Int64)))])) _
                    exact kk)
                  by_cases hc91 : v27 = (0 : Int64)
                  · exact (own_leaf0_29 p0 p1 p2 p3 v15 hv15 v18 hv18 v23 hv23 v24 hv24 v25 hv25 v26 hv26 v27 hv27 hc29 hc45 hc71 hc73 hc75 hc77 hc83 hc89 hc91).elim
                  · have pre92 : ∀ t, Steps p.tables e below (T20.setTop (mkF m 228 #[.val (.int p0), .val (.int p1), .val (.int p2), .val (.int p3), .val (.int p0), .val (.int v15), .val (.int v18), .val (.int v23), .val (.long v24), .second, .val (.long v25), .second, .val (.long v26), .second, .val (.long v27), .second, .val (.int (0 : Int32)), .val (.int (0 : Int32)), .unset] [(.int (lcmpW (v27 - (1 : Int64)) v24))])) t → Steps p.tables e below (s₁.setTop (entryFrame m #[(.int p0), (.int p1), (.int p2), (.int p3)] maxLocals)) t := fun t kk => pre90 t (by
                      show Steps p.tables e below (T20.setTop (mkF m 218 #[.val (.int p0), .val (.int p1), .val (.int p2), .val (.int p3), .val (.int p0), .val (.int v15), .val (.int v18), .val (.int v23), .val (.long v24), .second, .val (.long v25), .second, .val (.long v26), .second, .val (.long v27), .second, .val (.int (0 : Int32)), .val (.int (0 : Int32)), .unset] [(.int (lcmpW v27 (0 : Int64)))])) _
                      refine XS.ifNo X20.here hx rfl (hb hby at_218) rfl ((if0 _ _).trans (feq (mt (lw_eq v27 (0 : Int64)).mp hc91)).1) ?_
                      show Steps p.tables e below (T20.setTop (mkF m 221 #[.val (.int p0), .val (.int p1), .val (.int p2), .val (.int p3), .val (.int p0), .val (.int v15), .val (.int v18), .val (.int v23), .val (.long v24), .second, .val (.long v25), .second, .val (.long v26), .second, .val (.long v27), .second, .val (.int (0 : Int32)), .val (.int (0 : Int32)), .unset] [])) _
                      refine XS.lload X20.here hx rfl (hb hby at_221) rfl ?_
                      show Steps p.tables e below (T20.setTop (mkF m 223 #[.val (.int p0), .val (.int p1), .val (.int p2), .val (.int p3), .val (.int p0), .val (.int v15), .val (.int v18), .val (.int v23), .val (.long v24), .second, .val (.long v25), .second, .val (.long v26), .second, .val (.long v27), .second, .val (.int (0 : Int32)), .val (.int (0 : Int32)), .unset] [(.long v27)])) _
                      refine XS.lconst X20.here hx rfl (hb hby at_223) ?_
                      show Steps p.tables e below (T20.setTop (mkF m 224 #[.val (.int p0), .val (.int p1), .val (.int p2), .val (.int p3), .val (.int p0), .val (.int v15), .val (.int v18), .val (.int v23), .val (.long v24), .second, .val (.long v25), .second, .val (.long v26), .second, .val (.long v27), .second, .val (.int (0 : Int32)), .val (.int (0 : Int32)), .unset] [(.long (1 : Int64)), (.long v27)])) _
                      refine XS.lsub X20.here hx rfl (hb hby at_224) rfl ?_
                      show Steps p.tables e below (T20.setTop (mkF m 225 #[.val (.int p0), .val (.int p1), .val (.int p2), .val (.int p3), .val (.int p0), .val (.int v15), .val (.int v18), .val (.int v23), .val (.long v24), .second, .val (.long v25), .second, .val (.long v26), .second, .val (.long v27), .second, .val (.int (0 : Int32)), .val (.int (0 : Int32)), .unset] [(.long (v27 - (1 : Int64)))])) _
                      refine XS.lload X20.here hx rfl (hb hby at_225) rfl ?_
                      show Steps p.tables e below (T20.setTop (mkF m 227 #[.val (.int p0), .val (.int p1), .val (.int p2), .val (.int p3), .val (.int p0), .val (.int v15), .val (.int v18), .val (.int v23), .val (.long v24), .second, .val (.long v25), .second, .val (.long v26), .second, .val (.long v27), .second, .val (.int (0 : Int32)), .val (.int (0 : Int32)), .unset] [(.long v24), (.long (v27 - (1 : Int64)))])) _
                      refine XS.lcmp X20.here hx rfl (hb hby at_227) rfl ?_
                      show Steps p.tables e below (T20.setTop (mkF m 228 #[.val (.int p0), .val (.int p1), .val (.int p2), .val (.int p3), .val (.int p0), .val (.int v15), .val (.int v18), .val (.int v23), .val (.long v24), .second, .val (.long v25), .second, .val (.long v26), .second, .val (.long v27), .second, .val (.int (0 : Int32)), .val (.int (0 : Int32)), .unset] [(.int (lcmpW (v27 - (1 : Int64)) v24))])) _
                      exact kk)
                    by_cases hc93 : (v27 - (1 : Int64)) < v24
                    · exact (own_leaf0_30 p0 p1 p2 p3 v15 hv15 v18 hv18 v23 hv23 v24 hv24 v25 hv25 v26 hv26 v27 hv27 hc29 hc45 hc71 hc73 hc75 hc77 hc83 hc89 hc91 hc93).elim
                    · exact (own_leaf0_31 p0 p1 p2 p3 v15 hv15 v18 hv18 v23 hv23 v24 hv24 v25 hv25 v26 hv26 v27 hv27 hc29 hc45 hc71 hc73 hc75 hc77 hc83 hc89 hc91 hc93).elim
                · have pre94 : ∀ t, Steps p.tables e below (T20.setTop (mkF m 218 #[.val (.int p0), .val (.int p1), .val (.int p2), .val (.int p3), .val (.int p0), .val (.int v15), .val (.int v18), .val (.int v23), .val (.long v24), .second, .val (.long v25), .second, .val (.long v26), .second, .val (.long v27), .second, .val (.int (0 : Int32)), .val (.int (1 : Int32)), .unset] [(.int (lcmpW v27 (0 : Int64)))])) t → Steps p.tables e below (s₁.setTop (entryFrame m #[(.int p0), (.int p1), (.int p2), (.int p3)] maxLocals)) t := fun t kk => pre88 t (by
                    show Steps p.tables e below (T20.setTop (mkF m 204 #[.val (.int p0), .val (.int p1), .val (.int p2), .val (.int p3), .val (.int p0), .val (.int v15), .val (.int v18), .val (.int v23), .val (.long v24), .second, .val (.long v25), .second, .val (.long v26), .second, .val (.long v27), .second, .val (.int (0 : Int32)), .unset, .unset] [(.int (lcmpW (v27 + v26) v25))])) _
                    refine XS.ifNo X20.here hx rfl (hb hby at_204) rfl ((if0 _ _).trans (flt (mt (lw_gt (v27 + v26) v25).mp hc89)).2.2.1) ?_
                    show Steps p.tables e below (T20.setTop (mkF m 207 #[.val (.int p0), .val (.int p1), .val (.int p2), .val (.int p3), .val (.int p0), .val (.int v15), .val (.int v18), .val (.int v23), .val (.long v24), .second, .val (.long v25), .second, .val (.long v26), .second, .val (.long v27), .second, .val (.int (0 : Int32)), .unset, .unset] [])) _
                    refine XS.iconst X20.here hx rfl (hb hby at_207) ?_
                    show Steps p.tables e below (T20.setTop (mkF m 208 #[.val (.int p0), .val (.int p1), .val (.int p2), .val (.int p3), .val (.int p0), .val (.int v15), .val (.int v18), .val (.int v23), .val (.long v24), .second, .val (.long v25), .second, .val (.long v26), .second, .val (.long v27), .second, .val (.int (0 : Int32)), .unset, .unset] [(.int (1 : Int32))])) _
                    refine XS.goto X20.here hx rfl (pc0 := 208) (pc' := 212) rfl (hb hby at_208) (by decide) (by decide) ?_
                    show Steps p.tables e below (T20.setTop (mkF m 212 #[.val (.int p0), .val (.int p1), .val (.int p2), .val (.int p3), .val (.int p0), .val (.int v15), .val (.int v18), .val (.int v23), .val (.long v24), .second, .val (.long v25), .second, .val (.long v26), .second, .val (.long v27), .second, .val (.int (0 : Int32)), .unset, .unset] [(.int (1 : Int32))])) _
                    refine XS.istore X20.here hx rfl (hb hby at_212) rfl (l' := #[.val (.int p0), .val (.int p1), .val (.int p2), .val (.int p3), .val (.int p0), .val (.int v15), .val (.int v18), .val (.int v23), .val (.long v24), .second, .val (.long v25), .second, .val (.long v26), .second, .val (.long v27), .second, .val (.int (0 : Int32)), .val (.int (1 : Int32)), .unset]) rfl ?_
                    show Steps p.tables e below (T20.setTop (mkF m 214 #[.val (.int p0), .val (.int p1), .val (.int p2), .val (.int p3), .val (.int p0), .val (.int v15), .val (.int v18), .val (.int v23), .val (.long v24), .second, .val (.long v25), .second, .val (.long v26), .second, .val (.long v27), .second, .val (.int (0 : Int32)), .val (.int (1 : Int32)), .unset] [])) _
                    refine XS.lload X20.here hx rfl (hb hby at_214) rfl ?_
                    show Steps p.tables e below (T20.setTop (mkF m 216 #[.val (.int p0), .val (.int p1), .val (.int p2), .val (.int p3), .val (.int p0), .val (.int v15), .val (.int v18), .val (.int v23), .val (.long v24), .second, .val (.long v25), .second, .val (.long v26), .second, .val (.long v27), .second, .val (.int (0 : Int32)), .val (.int (1 : Int32)), .unset] [(.long v27)])) _
                    refine XS.lconst X20.here hx rfl (hb hby at_216) ?_
                    show Steps p.tables e below (T20.setTop (mkF m 217 #[.val (.int p0), .val (.int p1), .val (.int p2), .val (.int p3), .val (.int p0), .val (.int v15), .val (.int v18), .val (.int v23), .val (.long v24), .second, .val (.long v25), .second, .val (.long v26), .second, .val (.long v27), .second, .val (.int (0 : Int32)), .val (.int (1 : Int32)), .unset] [(.long (0 : Int64)), (.long v27)])) _
                    refine XS.lcmp X20.here hx rfl (hb hby at_217) rfl ?_
                    show Steps p.tables e below (T20.setTop (mkF m 218 #[.val (.int p0), .val (.int p1), .val (.int p2), .val (.int p3), .val (.int p0), .val (.int v15), .val (.int v18), .val (.int v23), .val (.long v24), .second, .val (.long v25), .second, .val (.long v26), .second, .val (.long v27), .second, .val (.int (0 : Int32)), .val (.int (1 : Int32)), .unset] [(.int (lcmpW v27 (0 : Int64)))])) _
                    exact kk)
                  by_cases hc95 : v27 = (0 : Int64)
                  · exact (own_leaf0_32 p0 p1 p2 p3 v15 hv15 v18 hv18 v23 hv23 v24 hv24 v25 hv25 v26 hv26 v27 hv27 hc29 hc45 hc71 hc73 hc75 hc77 hc83 hc89 hc95).elim
                  · have pre96 : ∀ t, Steps p.tables e below (T20.setTop (mkF m 228 #[.val (.int p0), .val (.int p1), .val (.int p2), .val (.int p3), .val (.int p0), .val (.int v15), .val (.int v18), .val (.int v23), .val (.long v24), .second, .val (.long v25), .second, .val (.long v26), .second, .val (.long v27), .second, .val (.int (0 : Int32)), .val (.int (1 : Int32)), .unset] [(.int (lcmpW (v27 - (1 : Int64)) v24))])) t → Steps p.tables e below (s₁.setTop (entryFrame m #[(.int p0), (.int p1), (.int p2), (.int p3)] maxLocals)) t := fun t kk => pre94 t (by
                      show Steps p.tables e below (T20.setTop (mkF m 218 #[.val (.int p0), .val (.int p1), .val (.int p2), .val (.int p3), .val (.int p0), .val (.int v15), .val (.int v18), .val (.int v23), .val (.long v24), .second, .val (.long v25), .second, .val (.long v26), .second, .val (.long v27), .second, .val (.int (0 : Int32)), .val (.int (1 : Int32)), .unset] [(.int (lcmpW v27 (0 : Int64)))])) _
                      refine XS.ifNo X20.here hx rfl (hb hby at_218) rfl ((if0 _ _).trans (feq (mt (lw_eq v27 (0 : Int64)).mp hc95)).1) ?_
                      show Steps p.tables e below (T20.setTop (mkF m 221 #[.val (.int p0), .val (.int p1), .val (.int p2), .val (.int p3), .val (.int p0), .val (.int v15), .val (.int v18), .val (.int v23), .val (.long v24), .second, .val (.long v25), .second, .val (.long v26), .second, .val (.long v27), .second, .val (.int (0 : Int32)), .val (.int (1 : Int32)), .unset] [])) _
                      refine XS.lload X20.here hx rfl (hb hby at_221) rfl ?_
                      show Steps p.tables e below (T20.setTop (mkF m 223 #[.val (.int p0), .val (.int p1), .val (.int p2), .val (.int p3), .val (.int p0), .val (.int v15), .val (.int v18), .val (.int v23), .val (.long v24), .second, .val (.long v25), .second, .val (.long v26), .second, .val (.long v27), .second, .val (.int (0 : Int32)), .val (.int (1 : Int32)), .unset] [(.long v27)])) _
                      refine XS.lconst X20.here hx rfl (hb hby at_223) ?_
                      show Steps p.tables e below (T20.setTop (mkF m 224 #[.val (.int p0), .val (.int p1), .val (.int p2), .val (.int p3), .val (.int p0), .val (.int v15), .val (.int v18), .val (.int v23), .val (.long v24), .second, .val (.long v25), .second, .val (.long v26), .second, .val (.long v27), .second, .val (.int (0 : Int32)), .val (.int (1 : Int32)), .unset] [(.long (1 : Int64)), (.long v27)])) _
                      refine XS.lsub X20.here hx rfl (hb hby at_224) rfl ?_
                      show Steps p.tables e below (T20.setTop (mkF m 225 #[.val (.int p0), .val (.int p1), .val (.int p2), .val (.int p3), .val (.int p0), .val (.int v15), .val (.int v18), .val (.int v23), .val (.long v24), .second, .val (.long v25), .second, .val (.long v26), .second, .val (.long v27), .second, .val (.int (0 : Int32)), .val (.int (1 : Int32)), .unset] [(.long (v27 - (1 : Int64)))])) _
                      refine XS.lload X20.here hx rfl (hb hby at_225) rfl ?_
                      show Steps p.tables e below (T20.setTop (mkF m 227 #[.val (.int p0), .val (.int p1), .val (.int p2), .val (.int p3), .val (.int p0), .val (.int v15), .val (.int v18), .val (.int v23), .val (.long v24), .second, .val (.long v25), .second, .val (.long v26), .second, .val (.long v27), .second, .val (.int (0 : Int32)), .val (.int (1 : Int32)), .unset] [(.long v24), (.long (v27 - (1 : Int64)))])) _
                      refine XS.lcmp X20.here hx rfl (hb hby at_227) rfl ?_
                      show Steps p.tables e below (T20.setTop (mkF m 228 #[.val (.int p0), .val (.int p1), .val (.int p2), .val (.int p3), .val (.int p0), .val (.int v15), .val (.int v18), .val (.int v23), .val (.long v24), .second, .val (.long v25), .second, .val (.long v26), .second, .val (.long v27), .second, .val (.int (0 : Int32)), .val (.int (1 : Int32)), .unset] [(.int (lcmpW (v27 - (1 : Int64)) v24))])) _
                      exact kk)
                    by_cases hc97 : (v27 - (1 : Int64)) < v24
                    · exact (own_leaf0_33 p0 p1 p2 p3 v15 hv15 v18 hv18 v23 hv23 v24 hv24 v25 hv25 v26 hv26 v27 hv27 hc29 hc45 hc71 hc73 hc75 hc77 hc83 hc89 hc95 hc97).elim
                    · exact (own_leaf0_34 p0 p1 p2 p3 v15 hv15 v18 hv18 v23 hv23 v24 hv24 v25 hv25 v26 hv26 v27 hv27 hc29 hc45 hc71 hc73 hc75 hc77 hc83 hc89 hc95 hc97).elim
        · have pre98 : ∀ t, Steps p.tables e below (T20.setTop (mkF m 167 #[.val (.int p0), .val (.int p1), .val (.int p2), .val (.int p3), .val (.int p0), .val (.int v15), .val (.int v18), .val (.int v23), .val (.long v24), .second, .val (.long v25), .second, .val (.long v26), .second, .val (.long v27), .second, .val (.int (1 : Int32)), .unset, .unset] [(.int (-1 : Int32)), (.int v23)])) t → Steps p.tables e below (s₁.setTop (entryFrame m #[(.int p0), (.int p1), (.int p2), (.int p3)] maxLocals)) t := fun t kk => pre72 t (by
            show Steps p.tables e below (T20.setTop (mkF m 154 #[.val (.int p0), .val (.int p1), .val (.int p2), .val (.int p3), .val (.int p0), .val (.int v15), .val (.int v18), .val (.int v23), .val (.long v24), .second, .val (.long v25), .second, .val (.long v26), .second, .val (.long v27), .second, .unset, .unset, .unset] [(.int (lcmpW (v24 + v26) v25))])) _
            refine XS.ifNo X20.here hx rfl (hb hby at_154) rfl ((if0 _ _).trans (flt (mt (lw_gt (v24 + v26) v25).mp hc73)).2.2.1) ?_
            show Steps p.tables e below (T20.setTop (mkF m 157 #[.val (.int p0), .val (.int p1), .val (.int p2), .val (.int p3), .val (.int p0), .val (.int v15), .val (.int v18), .val (.int v23), .val (.long v24), .second, .val (.long v25), .second, .val (.long v26), .second, .val (.long v27), .second, .unset, .unset, .unset] [])) _
            refine XS.iconst X20.here hx rfl (hb hby at_157) ?_
            show Steps p.tables e below (T20.setTop (mkF m 158 #[.val (.int p0), .val (.int p1), .val (.int p2), .val (.int p3), .val (.int p0), .val (.int v15), .val (.int v18), .val (.int v23), .val (.long v24), .second, .val (.long v25), .second, .val (.long v26), .second, .val (.long v27), .second, .unset, .unset, .unset] [(.int (1 : Int32))])) _
            refine XS.goto X20.here hx rfl (pc0 := 158) (pc' := 162) rfl (hb hby at_158) (by decide) (by decide) ?_
            show Steps p.tables e below (T20.setTop (mkF m 162 #[.val (.int p0), .val (.int p1), .val (.int p2), .val (.int p3), .val (.int p0), .val (.int v15), .val (.int v18), .val (.int v23), .val (.long v24), .second, .val (.long v25), .second, .val (.long v26), .second, .val (.long v27), .second, .unset, .unset, .unset] [(.int (1 : Int32))])) _
            refine XS.istore X20.here hx rfl (hb hby at_162) rfl (l' := #[.val (.int p0), .val (.int p1), .val (.int p2), .val (.int p3), .val (.int p0), .val (.int v15), .val (.int v18), .val (.int v23), .val (.long v24), .second, .val (.long v25), .second, .val (.long v26), .second, .val (.long v27), .second, .val (.int (1 : Int32)), .unset, .unset]) rfl ?_
            show Steps p.tables e below (T20.setTop (mkF m 164 #[.val (.int p0), .val (.int p1), .val (.int p2), .val (.int p3), .val (.int p0), .val (.int v15), .val (.int v18), .val (.int v23), .val (.long v24), .second, .val (.long v25), .second, .val (.long v26), .second, .val (.long v27), .second, .val (.int (1 : Int32)), .unset, .unset] [])) _
            refine XS.iload X20.here hx rfl (hb hby at_164) rfl ?_
            show Steps p.tables e below (T20.setTop (mkF m 166 #[.val (.int p0), .val (.int p1), .val (.int p2), .val (.int p3), .val (.int p0), .val (.int v15), .val (.int v18), .val (.int v23), .val (.long v24), .second, .val (.long v25), .second, .val (.long v26), .second, .val (.long v27), .second, .val (.int (1 : Int32)), .unset, .unset] [(.int v23)])) _
            refine XS.iconst X20.here hx rfl (hb hby at_166) ?_
            show Steps p.tables e below (T20.setTop (mkF m 167 #[.val (.int p0), .val (.int p1), .val (.int p2), .val (.int p3), .val (.int p0), .val (.int v15), .val (.int v18), .val (.int v23), .val (.long v24), .second, .val (.long v25), .second, .val (.long v26), .second, .val (.long v27), .second, .val (.int (1 : Int32)), .unset, .unset] [(.int (-1 : Int32)), (.int v23)])) _
            exact kk)
          by_cases hc99 : v23 = (-1 : Int32)
          · exact (own_leaf0_35 p0 p1 p2 p3 v15 hv15 v18 hv18 v23 hv23 v24 hv24 v25 hv25 v26 hv26 v27 hv27 hc29 hc45 hc71 hc73 hc99).elim
          · have pre100 : ∀ t, Steps p.tables e below (T20.setTop (mkF m 185 #[.val (.int p0), .val (.int p1), .val (.int p2), .val (.int p3), .val (.int p0), .val (.int v15), .val (.int v18), .val (.int v23), .val (.long v24), .second, .val (.long v25), .second, .val (.long v26), .second, .val (.long v27), .second, .val (.int (1 : Int32)), .unset, .unset] [(.int (lcmpW v27 (0 : Int64)))])) t → Steps p.tables e below (s₁.setTop (entryFrame m #[(.int p0), (.int p1), (.int p2), (.int p3)] maxLocals)) t := fun t kk => pre98 t (by
              show Steps p.tables e below (T20.setTop (mkF m 167 #[.val (.int p0), .val (.int p1), .val (.int p2), .val (.int p3), .val (.int p0), .val (.int v15), .val (.int v18), .val (.int v23), .val (.long v24), .second, .val (.long v25), .second, .val (.long v26), .second, .val (.long v27), .second, .val (.int (1 : Int32)), .unset, .unset] [(.int (-1 : Int32)), (.int v23)])) _
              refine XS.icmpYes X20.here hx rfl (pc0 := 167) (pc' := 181) rfl (hb hby at_167) rfl (feq hc99).2 (by decide) (by decide) ?_
              show Steps p.tables e below (T20.setTop (mkF m 181 #[.val (.int p0), .val (.int p1), .val (.int p2), .val (.int p3), .val (.int p0), .val (.int v15), .val (.int v18), .val (.int v23), .val (.long v24), .second, .val (.long v25), .second, .val (.long v26), .second, .val (.long v27), .second, .val (.int (1 : Int32)), .unset, .unset] [])) _
              refine XS.lload X20.here hx rfl (hb hby at_181) rfl ?_
              show Steps p.tables e below (T20.setTop (mkF m 183 #[.val (.int p0), .val (.int p1), .val (.int p2), .val (.int p3), .val (.int p0), .val (.int v15), .val (.int v18), .val (.int v23), .val (.long v24), .second, .val (.long v25), .second, .val (.long v26), .second, .val (.long v27), .second, .val (.int (1 : Int32)), .unset, .unset] [(.long v27)])) _
              refine XS.lconst X20.here hx rfl (hb hby at_183) ?_
              show Steps p.tables e below (T20.setTop (mkF m 184 #[.val (.int p0), .val (.int p1), .val (.int p2), .val (.int p3), .val (.int p0), .val (.int v15), .val (.int v18), .val (.int v23), .val (.long v24), .second, .val (.long v25), .second, .val (.long v26), .second, .val (.long v27), .second, .val (.int (1 : Int32)), .unset, .unset] [(.long (0 : Int64)), (.long v27)])) _
              refine XS.lcmp X20.here hx rfl (hb hby at_184) rfl ?_
              show Steps p.tables e below (T20.setTop (mkF m 185 #[.val (.int p0), .val (.int p1), .val (.int p2), .val (.int p3), .val (.int p0), .val (.int v15), .val (.int v18), .val (.int v23), .val (.long v24), .second, .val (.long v25), .second, .val (.long v26), .second, .val (.long v27), .second, .val (.int (1 : Int32)), .unset, .unset] [(.int (lcmpW v27 (0 : Int64)))])) _
              exact kk)
            by_cases hc101 : v27 < (0 : Int64)
            · have pre102 : ∀ t, Steps p.tables e below (T20.setTop (mkF m 218 #[.val (.int p0), .val (.int p1), .val (.int p2), .val (.int p3), .val (.int p0), .val (.int v15), .val (.int v18), .val (.int v23), .val (.long v24), .second, .val (.long v25), .second, .val (.long v26), .second, .val (.long v27), .second, .val (.int (1 : Int32)), .val (.int (0 : Int32)), .unset] [(.int (lcmpW v27 (0 : Int64)))])) t → Steps p.tables e below (s₁.setTop (entryFrame m #[(.int p0), (.int p1), (.int p2), (.int p3)] maxLocals)) t := fun t kk => pre100 t (by
                show Steps p.tables e below (T20.setTop (mkF m 185 #[.val (.int p0), .val (.int p1), .val (.int p2), .val (.int p3), .val (.int p0), .val (.int v15), .val (.int v18), .val (.int v23), .val (.long v24), .second, .val (.long v25), .second, .val (.long v26), .second, .val (.long v27), .second, .val (.int (1 : Int32)), .unset, .unset] [(.int (lcmpW v27 (0 : Int64)))])) _
                refine XS.ifYes X20.here hx rfl (pc0 := 185) (pc' := 211) rfl (hb hby at_185) rfl ((if0 _ _).trans (tlt ((lw_lt v27 (0 : Int64)).mpr hc101)).1) (by decide) (by decide) ?_
                show Steps p.tables e below (T20.setTop (mkF m 211 #[.val (.int p0), .val (.int p1), .val (.int p2), .val (.int p3), .val (.int p0), .val (.int v15), .val (.int v18), .val (.int v23), .val (.long v24), .second, .val (.long v25), .second, .val (.long v26), .second, .val (.long v27), .second, .val (.int (1 : Int32)), .unset, .unset] [])) _
                refine XS.iconst X20.here hx rfl (hb hby at_211) ?_
                show Steps p.tables e below (T20.setTop (mkF m 212 #[.val (.int p0), .val (.int p1), .val (.int p2), .val (.int p3), .val (.int p0), .val (.int v15), .val (.int v18), .val (.int v23), .val (.long v24), .second, .val (.long v25), .second, .val (.long v26), .second, .val (.long v27), .second, .val (.int (1 : Int32)), .unset, .unset] [(.int (0 : Int32))])) _
                refine XS.istore X20.here hx rfl (hb hby at_212) rfl (l' := #[.val (.int p0), .val (.int p1), .val (.int p2), .val (.int p3), .val (.int p0), .val (.int v15), .val (.int v18), .val (.int v23), .val (.long v24), .second, .val (.long v25), .second, .val (.long v26), .second, .val (.long v27), .second, .val (.int (1 : Int32)), .val (.int (0 : Int32)), .unset]) rfl ?_
                show Steps p.tables e below (T20.setTop (mkF m 214 #[.val (.int p0), .val (.int p1), .val (.int p2), .val (.int p3), .val (.int p0), .val (.int v15), .val (.int v18), .val (.int v23), .val (.long v24), .second, .val (.long v25), .second, .val (.long v26), .second, .val (.long v27), .second, .val (.int (1 : Int32)), .val (.int (0 : Int32)), .unset] [])) _
                refine XS.lload X20.here hx rfl (hb hby at_214) rfl ?_
                show Steps p.tables e below (T20.setTop (mkF m 216 #[.val (.int p0), .val (.int p1), .val (.int p2), .val (.int p3), .val (.int p0), .val (.int v15), .val (.int v18), .val (.int v23), .val (.long v24), .second, .val (.long v25), .second, .val (.long v26), .second, .val (.long v27), .second, .val (.int (1 : Int32)), .val (.int (0 : Int32)), .unset] [(.long v27)])) _
                refine XS.lconst X20.here hx rfl (hb hby at_216) ?_
                show Steps p.tables e below (T20.setTop (mkF m 217 #[.val (.int p0), .val (.int p1), .val (.int p2), .val (.int p3), .val (.int p0), .val (.int v15), .val (.int v18), .val (.int v23), .val (.long v24), .second, .val (.long v25), .second, .val (.long v26), .second, .val (.long v27), .second, .val (.int (1 : Int32)), .val (.int (0 : Int32)), .unset] [(.long (0 : Int64)), (.long v27)])) _
                refine XS.lcmp X20.here hx rfl (hb hby at_217) rfl ?_
                show Steps p.tables e below (T20.setTop (mkF m 218 #[.val (.int p0), .val (.int p1), .val (.int p2), .val (.int p3), .val (.int p0), .val (.int v15), .val (.int v18), .val (.int v23), .val (.long v24), .second, .val (.long v25), .second, .val (.long v26), .second, .val (.long v27), .second, .val (.int (1 : Int32)), .val (.int (0 : Int32)), .unset] [(.int (lcmpW v27 (0 : Int64)))])) _
                exact kk)
              by_cases hc103 : v27 = (0 : Int64)
              · exact (own_leaf0_36 p0 p1 p2 p3 v15 hv15 v18 hv18 v23 hv23 v24 hv24 v25 hv25 v26 hv26 v27 hv27 hc29 hc45 hc71 hc73 hc99 hc101 hc103).elim
              · have pre104 : ∀ t, Steps p.tables e below (T20.setTop (mkF m 228 #[.val (.int p0), .val (.int p1), .val (.int p2), .val (.int p3), .val (.int p0), .val (.int v15), .val (.int v18), .val (.int v23), .val (.long v24), .second, .val (.long v25), .second, .val (.long v26), .second, .val (.long v27), .second, .val (.int (1 : Int32)), .val (.int (0 : Int32)), .unset] [(.int (lcmpW (v27 - (1 : Int64)) v24))])) t → Steps p.tables e below (s₁.setTop (entryFrame m #[(.int p0), (.int p1), (.int p2), (.int p3)] maxLocals)) t := fun t kk => pre102 t (by
                  show Steps p.tables e below (T20.setTop (mkF m 218 #[.val (.int p0), .val (.int p1), .val (.int p2), .val (.int p3), .val (.int p0), .val (.int v15), .val (.int v18), .val (.int v23), .val (.long v24), .second, .val (.long v25), .second, .val (.long v26), .second, .val (.long v27), .second, .val (.int (1 : Int32)), .val (.int (0 : Int32)), .unset] [(.int (lcmpW v27 (0 : Int64)))])) _
                  refine XS.ifNo X20.here hx rfl (hb hby at_218) rfl ((if0 _ _).trans (feq (mt (lw_eq v27 (0 : Int64)).mp hc103)).1) ?_
                  show Steps p.tables e below (T20.setTop (mkF m 221 #[.val (.int p0), .val (.int p1), .val (.int p2), .val (.int p3), .val (.int p0), .val (.int v15), .val (.int v18), .val (.int v23), .val (.long v24), .second, .val (.long v25), .second, .val (.long v26), .second, .val (.long v27), .second, .val (.int (1 : Int32)), .val (.int (0 : Int32)), .unset] [])) _
                  refine XS.lload X20.here hx rfl (hb hby at_221) rfl ?_
                  show Steps p.tables e below (T20.setTop (mkF m 223 #[.val (.int p0), .val (.int p1), .val (.int p2), .val (.int p3), .val (.int p0), .val (.int v15), .val (.int v18), .val (.int v23), .val (.long v24), .second, .val (.long v25), .second, .val (.long v26), .second, .val (.long v27), .second, .val (.int (1 : Int32)), .val (.int (0 : Int32)), .unset] [(.long v27)])) _
                  refine XS.lconst X20.here hx rfl (hb hby at_223) ?_
                  show Steps p.tables e below (T20.setTop (mkF m 224 #[.val (.int p0), .val (.int p1), .val (.int p2), .val (.int p3), .val (.int p0), .val (.int v15), .val (.int v18), .val (.int v23), .val (.long v24), .second, .val (.long v25), .second, .val (.long v26), .second, .val (.long v27), .second, .val (.int (1 : Int32)), .val (.int (0 : Int32)), .unset] [(.long (1 : Int64)), (.long v27)])) _
                  refine XS.lsub X20.here hx rfl (hb hby at_224) rfl ?_
                  show Steps p.tables e below (T20.setTop (mkF m 225 #[.val (.int p0), .val (.int p1), .val (.int p2), .val (.int p3), .val (.int p0), .val (.int v15), .val (.int v18), .val (.int v23), .val (.long v24), .second, .val (.long v25), .second, .val (.long v26), .second, .val (.long v27), .second, .val (.int (1 : Int32)), .val (.int (0 : Int32)), .unset] [(.long (v27 - (1 : Int64)))])) _
                  refine XS.lload X20.here hx rfl (hb hby at_225) rfl ?_
                  show Steps p.tables e below (T20.setTop (mkF m 227 #[.val (.int p0), .val (.int p1), .val (.int p2), .val (.int p3), .val (.int p0), .val (.int v15), .val (.int v18), .val (.int v23), .val (.long v24), .second, .val (.long v25), .second, .val (.long v26), .second, .val (.long v27), .second, .val (.int (1 : Int32)), .val (.int (0 : Int32)), .unset] [(.long v24), (.long (v27 - (1 : Int64)))])) _
                  refine XS.lcmp X20.here hx rfl (hb hby at_227) rfl ?_
                  show Steps p.tables e below (T20.setTop (mkF m 228 #[.val (.int p0), .val (.int p1), .val (.int p2), .val (.int p3), .val (.int p0), .val (.int v15), .val (.int v18), .val (.int v23), .val (.long v24), .second, .val (.long v25), .second, .val (.long v26), .second, .val (.long v27), .second, .val (.int (1 : Int32)), .val (.int (0 : Int32)), .unset] [(.int (lcmpW (v27 - (1 : Int64)) v24))])) _
                  exact kk)
                by_cases hc105 : (v27 - (1 : Int64)) < v24
                · exact (own_leaf0_37 p0 p1 p2 p3 v15 hv15 v18 hv18 v23 hv23 v24 hv24 v25 hv25 v26 hv26 v27 hv27 hc29 hc45 hc71 hc73 hc99 hc101 hc103 hc105).elim
                · exact (own_leaf0_38 p0 p1 p2 p3 v15 hv15 v18 hv18 v23 hv23 v24 hv24 v25 hv25 v26 hv26 v27 hv27 hc29 hc45 hc71 hc73 hc99 hc101 hc103 hc105).elim
            · have pre106 : ∀ t, Steps p.tables e below (T20.setTop (mkF m 193 #[.val (.int p0), .val (.int p1), .val (.int p2), .val (.int p3), .val (.int p0), .val (.int v15), .val (.int v18), .val (.int v23), .val (.long v24), .second, .val (.long v25), .second, .val (.long v26), .second, .val (.long v27), .second, .val (.int (1 : Int32)), .unset, .unset] [(.int (lcmpW v27 v24))])) t → Steps p.tables e below (s₁.setTop (entryFrame m #[(.int p0), (.int p1), (.int p2), (.int p3)] maxLocals)) t := fun t kk => pre100 t (by
                show Steps p.tables e below (T20.setTop (mkF m 185 #[.val (.int p0), .val (.int p1), .val (.int p2), .val (.int p3), .val (.int p0), .val (.int v15), .val (.int v18), .val (.int v23), .val (.long v24), .second, .val (.long v25), .second, .val (.long v26), .second, .val (.long v27), .second, .val (.int (1 : Int32)), .unset, .unset] [(.int (lcmpW v27 (0 : Int64)))])) _
                refine XS.ifNo X20.here hx rfl (hb hby at_185) rfl ((if0 _ _).trans (flt (mt (lw_lt v27 (0 : Int64)).mp hc101)).1) ?_
                show Steps p.tables e below (T20.setTop (mkF m 188 #[.val (.int p0), .val (.int p1), .val (.int p2), .val (.int p3), .val (.int p0), .val (.int v15), .val (.int v18), .val (.int v23), .val (.long v24), .second, .val (.long v25), .second, .val (.long v26), .second, .val (.long v27), .second, .val (.int (1 : Int32)), .unset, .unset] [])) _
                refine XS.lload X20.here hx rfl (hb hby at_188) rfl ?_
                show Steps p.tables e below (T20.setTop (mkF m 190 #[.val (.int p0), .val (.int p1), .val (.int p2), .val (.int p3), .val (.int p0), .val (.int v15), .val (.int v18), .val (.int v23), .val (.long v24), .second, .val (.long v25), .second, .val (.long v26), .second, .val (.long v27), .second, .val (.int (1 : Int32)), .unset, .unset] [(.long v27)])) _
                refine XS.lload X20.here hx rfl (hb hby at_190) rfl ?_
                show Steps p.tables e below (T20.setTop (mkF m 192 #[.val (.int p0), .val (.int p1), .val (.int p2), .val (.int p3), .val (.int p0), .val (.int v15), .val (.int v18), .val (.int v23), .val (.long v24), .second, .val (.long v25), .second, .val (.long v26), .second, .val (.long v27), .second, .val (.int (1 : Int32)), .unset, .unset] [(.long v24), (.long v27)])) _
                refine XS.lcmp X20.here hx rfl (hb hby at_192) rfl ?_
                show Steps p.tables e below (T20.setTop (mkF m 193 #[.val (.int p0), .val (.int p1), .val (.int p2), .val (.int p3), .val (.int p0), .val (.int v15), .val (.int v18), .val (.int v23), .val (.long v24), .second, .val (.long v25), .second, .val (.long v26), .second, .val (.long v27), .second, .val (.int (1 : Int32)), .unset, .unset] [(.int (lcmpW v27 v24))])) _
                exact kk)
              by_cases hc107 : v27 < v24
              · have pre108 : ∀ t, Steps p.tables e below (T20.setTop (mkF m 218 #[.val (.int p0), .val (.int p1), .val (.int p2), .val (.int p3), .val (.int p0), .val (.int v15), .val (.int v18), .val (.int v23), .val (.long v24), .second, .val (.long v25), .second, .val (.long v26), .second, .val (.long v27), .second, .val (.int (1 : Int32)), .val (.int (0 : Int32)), .unset] [(.int (lcmpW v27 (0 : Int64)))])) t → Steps p.tables e below (s₁.setTop (entryFrame m #[(.int p0), (.int p1), (.int p2), (.int p3)] maxLocals)) t := fun t kk => pre106 t (by
                  show Steps p.tables e below (T20.setTop (mkF m 193 #[.val (.int p0), .val (.int p1), .val (.int p2), .val (.int p3), .val (.int p0), .val (.int v15), .val (.int v18), .val (.int v23), .val (.long v24), .second, .val (.long v25), .second, .val (.long v26), .second, .val (.long v27), .second, .val (.int (1 : Int32)), .unset, .unset] [(.int (lcmpW v27 v24))])) _
                  refine XS.ifYes X20.here hx rfl (pc0 := 193) (pc' := 211) rfl (hb hby at_193) rfl ((if0 _ _).trans (tlt ((lw_lt v27 v24).mpr hc107)).1) (by decide) (by decide) ?_
                  show Steps p.tables e below (T20.setTop (mkF m 211 #[.val (.int p0), .val (.int p1), .val (.int p2), .val (.int p3), .val (.int p0), .val (.int v15), .val (.int v18), .val (.int v23), .val (.long v24), .second, .val (.long v25), .second, .val (.long v26), .second, .val (.long v27), .second, .val (.int (1 : Int32)), .unset, .unset] [])) _
                  refine XS.iconst X20.here hx rfl (hb hby at_211) ?_
                  show Steps p.tables e below (T20.setTop (mkF m 212 #[.val (.int p0), .val (.int p1), .val (.int p2), .val (.int p3), .val (.int p0), .val (.int v15), .val (.int v18), .val (.int v23), .val (.long v24), .second, .val (.long v25), .second, .val (.long v26), .second, .val (.long v27), .second, .val (.int (1 : Int32)), .unset, .unset] [(.int (0 : Int32))])) _
                  refine XS.istore X20.here hx rfl (hb hby at_212) rfl (l' := #[.val (.int p0), .val (.int p1), .val (.int p2), .val (.int p3), .val (.int p0), .val (.int v15), .val (.int v18), .val (.int v23), .val (.long v24), .second, .val (.long v25), .second, .val (.long v26), .second, .val (.long v27), .second, .val (.int (1 : Int32)), .val (.int (0 : Int32)), .unset]) rfl ?_
                  show Steps p.tables e below (T20.setTop (mkF m 214 #[.val (.int p0), .val (.int p1), .val (.int p2), .val (.int p3), .val (.int p0), .val (.int v15), .val (.int v18), .val (.int v23), .val (.long v24), .second, .val (.long v25), .second, .val (.long v26), .second, .val (.long v27), .second, .val (.int (1 : Int32)), .val (.int (0 : Int32)), .unset] [])) _
                  refine XS.lload X20.here hx rfl (hb hby at_214) rfl ?_
                  show Steps p.tables e below (T20.setTop (mkF m 216 #[.val (.int p0), .val (.int p1), .val (.int p2), .val (.int p3), .val (.int p0), .val (.int v15), .val (.int v18), .val (.int v23), .val (.long v24), .second, .val (.long v25), .second, .val (.long v26), .second, .val (.long v27), .second, .val (.int (1 : Int32)), .val (.int (0 : Int32)), .unset] [(.long v27)])) _
                  refine XS.lconst X20.here hx rfl (hb hby at_216) ?_
                  show Steps p.tables e below (T20.setTop (mkF m 217 #[.val (.int p0), .val (.int p1), .val (.int p2), .val (.int p3), .val (.int p0), .val (.int v15), .val (.int v18), .val (.int v23), .val (.long v24), .second, .val (.long v25), .second, .val (.long v26), .second, .val (.long v27), .second, .val (.int (1 : Int32)), .val (.int (0 : Int32)), .unset] [(.long (0 : Int64)), (.long v27)])) _
                  refine XS.lcmp X20.here hx rfl (hb hby at_217) rfl ?_
                  show Steps p.tables e below (T20.setTop (mkF m 218 #[.val (.int p0), .val (.int p1), .val (.int p2), .val (.int p3), .val (.int p0), .val (.int v15), .val (.int v18), .val (.int v23), .val (.long v24), .second, .val (.long v25), .second, .val (.long v26), .second, .val (.long v27), .second, .val (.int (1 : Int32)), .val (.int (0 : Int32)), .unset] [(.int (lcmpW v27 (0 : Int64)))])) _
                  exact kk)
                by_cases hc109 : v27 = (0 : Int64)
                · exact (own_leaf0_39 p0 p1 p2 p3 v15 hv15 v18 hv18 v23 hv23 v24 hv24 v25 hv25 v26 hv26 v27 hv27 hc29 hc45 hc71 hc73 hc99 hc101 hc107 hc109).elim
                · have pre110 : ∀ t, Steps p.tables e below (T20.setTop (mkF m 228 #[.val (.int p0), .val (.int p1), .val (.int p2), .val (.int p3), .val (.int p0), .val (.int v15), .val (.int v18), .val (.int v23), .val (.long v24), .second, .val (.long v25), .second, .val (.long v26), .second, .val (.long v27), .second, .val (.int (1 : Int32)), .val (.int (0 : Int32)), .unset] [(.int (lcmpW (v27 - (1 : Int64)) v24))])) t → Steps p.tables e below (s₁.setTop (entryFrame m #[(.int p0), (.int p1), (.int p2), (.int p3)] maxLocals)) t := fun t kk => pre108 t (by
                    show Steps p.tables e below (T20.setTop (mkF m 218 #[.val (.int p0), .val (.int p1), .val (.int p2), .val (.int p3), .val (.int p0), .val (.int v15), .val (.int v18), .val (.int v23), .val (.long v24), .second, .val (.long v25), .second, .val (.long v26), .second, .val (.long v27), .second, .val (.int (1 : Int32)), .val (.int (0 : Int32)), .unset] [(.int (lcmpW v27 (0 : Int64)))])) _
                    refine XS.ifNo X20.here hx rfl (hb hby at_218) rfl ((if0 _ _).trans (feq (mt (lw_eq v27 (0 : Int64)).mp hc109)).1) ?_
                    show Steps p.tables e below (T20.setTop (mkF m 221 #[.val (.int p0), .val (.int p1), .val (.int p2), .val (.int p3), .val (.int p0), .val (.int v15), .val (.int v18), .val (.int v23), .val (.long v24), .second, .val (.long v25), .second, .val (.long v26), .second, .val (.long v27), .second, .val (.int (1 : Int32)), .val (.int (0 : Int32)), .unset] [])) _
                    refine XS.lload X20.here hx rfl (hb hby at_221) rfl ?_
                    show Steps p.tables e below (T20.setTop (mkF m 223 #[.val (.int p0), .val (.int p1), .val (.int p2), .val (.int p3), .val (.int p0), .val (.int v15), .val (.int v18), .val (.int v23), .val (.long v24), .second, .val (.long v25), .second, .val (.long v26), .second, .val (.long v27), .second, .val (.int (1 : Int32)), .val (.int (0 : Int32)), .unset] [(.long v27)])) _
                    refine XS.lconst X20.here hx rfl (hb hby at_223) ?_
                    show Steps p.tables e below (T20.setTop (mkF m 224 #[.val (.int p0), .val (.int p1), .val (.int p2), .val (.int p3), .val (.int p0), .val (.int v15), .val (.int v18), .val (.int v23), .val (.long v24), .second, .val (.long v25), .second, .val (.long v26), .second, .val (.long v27), .second, .val (.int (1 : Int32)), .val (.int (0 : Int32)), .unset] [(.long (1 : Int64)), (.long v27)])) _
                    refine XS.lsub X20.here hx rfl (hb hby at_224) rfl ?_
                    show Steps p.tables e below (T20.setTop (mkF m 225 #[.val (.int p0), .val (.int p1), .val (.int p2), .val (.int p3), .val (.int p0), .val (.int v15), .val (.int v18), .val (.int v23), .val (.long v24), .second, .val (.long v25), .second, .val (.long v26), .second, .val (.long v27), .second, .val (.int (1 : Int32)), .val (.int (0 : Int32)), .unset] [(.long (v27 - (1 : Int64)))])) _
                    refine XS.lload X20.here hx rfl (hb hby at_225) rfl ?_
                    show Steps p.tables e below (T20.setTop (mkF m 227 #[.val (.int p0), .val (.int p1), .val (.int p2), .val (.int p3), .val (.int p0), .val (.int v15), .val (.int v18), .val (.int v23), .val (.long v24), .second, .val (.long v25), .second, .val (.long v26), .second, .val (.long v27), .second, .val (.int (1 : Int32)), .val (.int (0 : Int32)), .unset] [(.long v24), (.long (v27 - (1 : Int64)))])) _
                    refine XS.lcmp X20.here hx rfl (hb hby at_227) rfl ?_
                    show Steps p.tables e below (T20.setTop (mkF m 228 #[.val (.int p0), .val (.int p1), .val (.int p2), .val (.int p3), .val (.int p0), .val (.int v15), .val (.int v18), .val (.int v23), .val (.long v24), .second, .val (.long v25), .second, .val (.long v26), .second, .val (.long v27), .second, .val (.int (1 : Int32)), .val (.int (0 : Int32)), .unset] [(.int (lcmpW (v27 - (1 : Int64)) v24))])) _
                    exact kk)
                  by_cases hc111 : (v27 - (1 : Int64)) < v24
                  · exact (own_leaf0_40 p0 p1 p2 p3 v15 hv15 v18 hv18 v23 hv23 v24 hv24 v25 hv25 v26 hv26 v27 hv27 hc29 hc45 hc71 hc73 hc99 hc101 hc107 hc109 hc111).elim
                  · exact (own_leaf0_41 p0 p1 p2 p3 v15 hv15 v18 hv18 v23 hv23 v24 hv24 v25 hv25 v26 hv26 v27 hv27 hc29 hc45 hc71 hc73 hc99 hc101 hc107 hc109 hc111).elim
              · have pre112 : ∀ t, Steps p.tables e below (T20.setTop (mkF m 204 #[.val (.int p0), .val (.int p1), .val (.int p2), .val (.int p3), .val (.int p0), .val (.int v15), .val (.int v18), .val (.int v23), .val (.long v24), .second, .val (.long v25), .second, .val (.long v26), .second, .val (.long v27), .second, .val (.int (1 : Int32)), .unset, .unset] [(.int (lcmpW (v27 + v26) v25))])) t → Steps p.tables e below (s₁.setTop (entryFrame m #[(.int p0), (.int p1), (.int p2), (.int p3)] maxLocals)) t := fun t kk => pre106 t (by
                  show Steps p.tables e below (T20.setTop (mkF m 193 #[.val (.int p0), .val (.int p1), .val (.int p2), .val (.int p3), .val (.int p0), .val (.int v15), .val (.int v18), .val (.int v23), .val (.long v24), .second, .val (.long v25), .second, .val (.long v26), .second, .val (.long v27), .second, .val (.int (1 : Int32)), .unset, .unset] [(.int (lcmpW v27 v24))])) _
                  refine XS.ifNo X20.here hx rfl (hb hby at_193) rfl ((if0 _ _).trans (flt (mt (lw_lt v27 v24).mp hc107)).1) ?_
                  show Steps p.tables e below (T20.setTop (mkF m 196 #[.val (.int p0), .val (.int p1), .val (.int p2), .val (.int p3), .val (.int p0), .val (.int v15), .val (.int v18), .val (.int v23), .val (.long v24), .second, .val (.long v25), .second, .val (.long v26), .second, .val (.long v27), .second, .val (.int (1 : Int32)), .unset, .unset] [])) _
                  refine XS.lload X20.here hx rfl (hb hby at_196) rfl ?_
                  show Steps p.tables e below (T20.setTop (mkF m 198 #[.val (.int p0), .val (.int p1), .val (.int p2), .val (.int p3), .val (.int p0), .val (.int v15), .val (.int v18), .val (.int v23), .val (.long v24), .second, .val (.long v25), .second, .val (.long v26), .second, .val (.long v27), .second, .val (.int (1 : Int32)), .unset, .unset] [(.long v27)])) _
                  refine XS.lload X20.here hx rfl (hb hby at_198) rfl ?_
                  show Steps p.tables e below (T20.setTop (mkF m 200 #[.val (.int p0), .val (.int p1), .val (.int p2), .val (.int p3), .val (.int p0), .val (.int v15), .val (.int v18), .val (.int v23), .val (.long v24), .second, .val (.long v25), .second, .val (.long v26), .second, .val (.long v27), .second, .val (.int (1 : Int32)), .unset, .unset] [(.long v26), (.long v27)])) _
                  refine XS.ladd X20.here hx rfl (hb hby at_200) rfl ?_
                  show Steps p.tables e below (T20.setTop (mkF m 201 #[.val (.int p0), .val (.int p1), .val (.int p2), .val (.int p3), .val (.int p0), .val (.int v15), .val (.int v18), .val (.int v23), .val (.long v24), .second, .val (.long v25), .second, .val (.long v26), .second, .val (.long v27), .second, .val (.int (1 : Int32)), .unset, .unset] [(.long (v27 + v26))])) _
                  refine XS.lload X20.here hx rfl (hb hby at_201) rfl ?_
                  show Steps p.tables e below (T20.setTop (mkF m 203 #[.val (.int p0), .val (.int p1), .val (.int p2), .val (.int p3), .val (.int p0), .val (.int v15), .val (.int v18), .val (.int v23), .val (.long v24), .second, .val (.long v25), .second, .val (.long v26), .second, .val (.long v27), .second, .val (.int (1 : Int32)), .unset, .unset] [(.long v25), (.long (v27 + v26))])) _
                  refine XS.lcmp X20.here hx rfl (hb hby at_203) rfl ?_
                  show Steps p.tables e below (T20.setTop (mkF m 204 #[.val (.int p0), .val (.int p1), .val (.int p2), .val (.int p3), .val (.int p0), .val (.int v15), .val (.int v18), .val (.int v23), .val (.long v24), .second, .val (.long v25), .second, .val (.long v26), .second, .val (.long v27), .second, .val (.int (1 : Int32)), .unset, .unset] [(.int (lcmpW (v27 + v26) v25))])) _
                  exact kk)
                by_cases hc113 : v25 < (v27 + v26)
                · have pre114 : ∀ t, Steps p.tables e below (T20.setTop (mkF m 218 #[.val (.int p0), .val (.int p1), .val (.int p2), .val (.int p3), .val (.int p0), .val (.int v15), .val (.int v18), .val (.int v23), .val (.long v24), .second, .val (.long v25), .second, .val (.long v26), .second, .val (.long v27), .second, .val (.int (1 : Int32)), .val (.int (0 : Int32)), .unset] [(.int (lcmpW v27 (0 : Int64)))])) t → Steps p.tables e below (s₁.setTop (entryFrame m #[(.int p0), (.int p1), (.int p2), (.int p3)] maxLocals)) t := fun t kk => pre112 t (by
                    show Steps p.tables e below (T20.setTop (mkF m 204 #[.val (.int p0), .val (.int p1), .val (.int p2), .val (.int p3), .val (.int p0), .val (.int v15), .val (.int v18), .val (.int v23), .val (.long v24), .second, .val (.long v25), .second, .val (.long v26), .second, .val (.long v27), .second, .val (.int (1 : Int32)), .unset, .unset] [(.int (lcmpW (v27 + v26) v25))])) _
                    refine XS.ifYes X20.here hx rfl (pc0 := 204) (pc' := 211) rfl (hb hby at_204) rfl ((if0 _ _).trans (tlt ((lw_gt (v27 + v26) v25).mpr hc113)).2.2.1) (by decide) (by decide) ?_
                    show Steps p.tables e below (T20.setTop (mkF m 211 #[.val (.int p0), .val (.int p1), .val (.int p2), .val (.int p3), .val (.int p0), .val (.int v15), .val (.int v18), .val (.int v23), .val (.long v24), .second, .val (.long v25), .second, .val (.long v26), .second, .val (.long v27), .second, .val (.int (1 : Int32)), .unset, .unset] [])) _
                    refine XS.iconst X20.here hx rfl (hb hby at_211) ?_
                    show Steps p.tables e below (T20.setTop (mkF m 212 #[.val (.int p0), .val (.int p1), .val (.int p2), .val (.int p3), .val (.int p0), .val (.int v15), .val (.int v18), .val (.int v23), .val (.long v24), .second, .val (.long v25), .second, .val (.long v26), .second, .val (.long v27), .second, .val (.int (1 : Int32)), .unset, .unset] [(.int (0 : Int32))])) _
                    refine XS.istore X20.here hx rfl (hb hby at_212) rfl (l' := #[.val (.int p0), .val (.int p1), .val (.int p2), .val (.int p3), .val (.int p0), .val (.int v15), .val (.int v18), .val (.int v23), .val (.long v24), .second, .val (.long v25), .second, .val (.long v26), .second, .val (.long v27), .second, .val (.int (1 : Int32)), .val (.int (0 : Int32)), .unset]) rfl ?_
                    show Steps p.tables e below (T20.setTop (mkF m 214 #[.val (.int p0), .val (.int p1), .val (.int p2), .val (.int p3), .val (.int p0), .val (.int v15), .val (.int v18), .val (.int v23), .val (.long v24), .second, .val (.long v25), .second, .val (.long v26), .second, .val (.long v27), .second, .val (.int (1 : Int32)), .val (.int (0 : Int32)), .unset] [])) _
                    refine XS.lload X20.here hx rfl (hb hby at_214) rfl ?_
                    show Steps p.tables e below (T20.setTop (mkF m 216 #[.val (.int p0), .val (.int p1), .val (.int p2), .val (.int p3), .val (.int p0), .val (.int v15), .val (.int v18), .val (.int v23), .val (.long v24), .second, .val (.long v25), .second, .val (.long v26), .second, .val (.long v27), .second, .val (.int (1 : Int32)), .val (.int (0 : Int32)), .unset] [(.long v27)])) _
                    refine XS.lconst X20.here hx rfl (hb hby at_216) ?_
                    show Steps p.tables e below (T20.setTop (mkF m 217 #[.val (.int p0), .val (.int p1), .val (.int p2), .val (.int p3), .val (.int p0), .val (.int v15), .val (.int v18), .val (.int v23), .val (.long v24), .second, .val (.long v25), .second, .val (.long v26), .second, .val (.long v27), .second, .val (.int (1 : Int32)), .val (.int (0 : Int32)), .unset] [(.long (0 : Int64)), (.long v27)])) _
                    refine XS.lcmp X20.here hx rfl (hb hby at_217) rfl ?_
                    show Steps p.tables e below (T20.setTop (mkF m 218 #[.val (.int p0), .val (.int p1), .val (.int p2), .val (.int p3), .val (.int p0), .val (.int v15), .val (.int v18), .val (.int v23), .val (.long v24), .second, .val (.long v25), .second, .val (.long v26), .second, .val (.long v27), .second, .val (.int (1 : Int32)), .val (.int (0 : Int32)), .unset] [(.int (lcmpW v27 (0 : Int64)))])) _
                    exact kk)
                  by_cases hc115 : v27 = (0 : Int64)
                  · exact (own_leaf0_42 p0 p1 p2 p3 v15 hv15 v18 hv18 v23 hv23 v24 hv24 v25 hv25 v26 hv26 v27 hv27 hc29 hc45 hc71 hc73 hc99 hc101 hc107 hc113 hc115).elim
                  · have pre116 : ∀ t, Steps p.tables e below (T20.setTop (mkF m 228 #[.val (.int p0), .val (.int p1), .val (.int p2), .val (.int p3), .val (.int p0), .val (.int v15), .val (.int v18), .val (.int v23), .val (.long v24), .second, .val (.long v25), .second, .val (.long v26), .second, .val (.long v27), .second, .val (.int (1 : Int32)), .val (.int (0 : Int32)), .unset] [(.int (lcmpW (v27 - (1 : Int64)) v24))])) t → Steps p.tables e below (s₁.setTop (entryFrame m #[(.int p0), (.int p1), (.int p2), (.int p3)] maxLocals)) t := fun t kk => pre114 t (by
                      show Steps p.tables e below (T20.setTop (mkF m 218 #[.val (.int p0), .val (.int p1), .val (.int p2), .val (.int p3), .val (.int p0), .val (.int v15), .val (.int v18), .val (.int v23), .val (.long v24), .second, .val (.long v25), .second, .val (.long v26), .second, .val (.long v27), .second, .val (.int (1 : Int32)), .val (.int (0 : Int32)), .unset] [(.int (lcmpW v27 (0 : Int64)))])) _
                      refine XS.ifNo X20.here hx rfl (hb hby at_218) rfl ((if0 _ _).trans (feq (mt (lw_eq v27 (0 : Int64)).mp hc115)).1) ?_
                      show Steps p.tables e below (T20.setTop (mkF m 221 #[.val (.int p0), .val (.int p1), .val (.int p2), .val (.int p3), .val (.int p0), .val (.int v15), .val (.int v18), .val (.int v23), .val (.long v24), .second, .val (.long v25), .second, .val (.long v26), .second, .val (.long v27), .second, .val (.int (1 : Int32)), .val (.int (0 : Int32)), .unset] [])) _
                      refine XS.lload X20.here hx rfl (hb hby at_221) rfl ?_
                      show Steps p.tables e below (T20.setTop (mkF m 223 #[.val (.int p0), .val (.int p1), .val (.int p2), .val (.int p3), .val (.int p0), .val (.int v15), .val (.int v18), .val (.int v23), .val (.long v24), .second, .val (.long v25), .second, .val (.long v26), .second, .val (.long v27), .second, .val (.int (1 : Int32)), .val (.int (0 : Int32)), .unset] [(.long v27)])) _
                      refine XS.lconst X20.here hx rfl (hb hby at_223) ?_
                      show Steps p.tables e below (T20.setTop (mkF m 224 #[.val (.int p0), .val (.int p1), .val (.int p2), .val (.int p3), .val (.int p0), .val (.int v15), .val (.int v18), .val (.int v23), .val (.long v24), .second, .val (.long v25), .second, .val (.long v26), .second, .val (.long v27), .second, .val (.int (1 : Int32)), .val (.int (0 : Int32)), .unset] [(.long (1 : Int64)), (.long v27)])) _
                      refine XS.lsub X20.here hx rfl (hb hby at_224) rfl ?_
                      show Steps p.tables e below (T20.setTop (mkF m 225 #[.val (.int p0), .val (.int p1), .val (.int p2), .val (.int p3), .val (.int p0), .val (.int v15), .val (.int v18), .val (.int v23), .val (.long v24), .second, .val (.long v25), .second, .val (.long v26), .second, .val (.long v27), .second, .val (.int (1 : Int32)), .val (.int (0 : Int32)), .unset] [(.long (v27 - (1 : Int64)))])) _
                      refine XS.lload X20.here hx rfl (hb hby at_225) rfl ?_
                      show Steps p.tables e below (T20.setTop (mkF m 227 #[.val (.int p0), .val (.int p1), .val (.int p2), .val (.int p3), .val (.int p0), .val (.int v15), .val (.int v18), .val (.int v23), .val (.long v24), .second, .val (.long v25), .second, .val (.long v26), .second, .val (.long v27), .second, .val (.int (1 : Int32)), .val (.int (0 : Int32)), .unset] [(.long v24), (.long (v27 - (1 : Int64)))])) _
                      refine XS.lcmp X20.here hx rfl (hb hby at_227) rfl ?_
                      show Steps p.tables e below (T20.setTop (mkF m 228 #[.val (.int p0), .val (.int p1), .val (.int p2), .val (.int p3), .val (.int p0), .val (.int v15), .val (.int v18), .val (.int v23), .val (.long v24), .second, .val (.long v25), .second, .val (.long v26), .second, .val (.long v27), .second, .val (.int (1 : Int32)), .val (.int (0 : Int32)), .unset] [(.int (lcmpW (v27 - (1 : Int64)) v24))])) _
                      exact kk)
                    by_cases hc117 : (v27 - (1 : Int64)) < v24
                    · exact (own_leaf0_43 p0 p1 p2 p3 v15 hv15 v18 hv18 v23 hv23 v24 hv24 v25 hv25 v26 hv26 v27 hv27 hc29 hc45 hc71 hc73 hc99 hc101 hc107 hc113 hc115 hc117).elim
                    · exact (own_leaf0_44 p0 p1 p2 p3 v15 hv15 v18 hv18 v23 hv23 v24 hv24 v25 hv25 v26 hv26 v27 hv27 hc29 hc45 hc71 hc73 hc99 hc101 hc107 hc113 hc115 hc117).elim
                · have pre118 : ∀ t, Steps p.tables e below (T20.setTop (mkF m 218 #[.val (.int p0), .val (.int p1), .val (.int p2), .val (.int p3), .val (.int p0), .val (.int v15), .val (.int v18), .val (.int v23), .val (.long v24), .second, .val (.long v25), .second, .val (.long v26), .second, .val (.long v27), .second, .val (.int (1 : Int32)), .val (.int (1 : Int32)), .unset] [(.int (lcmpW v27 (0 : Int64)))])) t → Steps p.tables e below (s₁.setTop (entryFrame m #[(.int p0), (.int p1), (.int p2), (.int p3)] maxLocals)) t := fun t kk => pre112 t (by
                    show Steps p.tables e below (T20.setTop (mkF m 204 #[.val (.int p0), .val (.int p1), .val (.int p2), .val (.int p3), .val (.int p0), .val (.int v15), .val (.int v18), .val (.int v23), .val (.long v24), .second, .val (.long v25), .second, .val (.long v26), .second, .val (.long v27), .second, .val (.int (1 : Int32)), .unset, .unset] [(.int (lcmpW (v27 + v26) v25))])) _
                    refine XS.ifNo X20.here hx rfl (hb hby at_204) rfl ((if0 _ _).trans (flt (mt (lw_gt (v27 + v26) v25).mp hc113)).2.2.1) ?_
                    show Steps p.tables e below (T20.setTop (mkF m 207 #[.val (.int p0), .val (.int p1), .val (.int p2), .val (.int p3), .val (.int p0), .val (.int v15), .val (.int v18), .val (.int v23), .val (.long v24), .second, .val (.long v25), .second, .val (.long v26), .second, .val (.long v27), .second, .val (.int (1 : Int32)), .unset, .unset] [])) _
                    refine XS.iconst X20.here hx rfl (hb hby at_207) ?_
                    show Steps p.tables e below (T20.setTop (mkF m 208 #[.val (.int p0), .val (.int p1), .val (.int p2), .val (.int p3), .val (.int p0), .val (.int v15), .val (.int v18), .val (.int v23), .val (.long v24), .second, .val (.long v25), .second, .val (.long v26), .second, .val (.long v27), .second, .val (.int (1 : Int32)), .unset, .unset] [(.int (1 : Int32))])) _
                    refine XS.goto X20.here hx rfl (pc0 := 208) (pc' := 212) rfl (hb hby at_208) (by decide) (by decide) ?_
                    show Steps p.tables e below (T20.setTop (mkF m 212 #[.val (.int p0), .val (.int p1), .val (.int p2), .val (.int p3), .val (.int p0), .val (.int v15), .val (.int v18), .val (.int v23), .val (.long v24), .second, .val (.long v25), .second, .val (.long v26), .second, .val (.long v27), .second, .val (.int (1 : Int32)), .unset, .unset] [(.int (1 : Int32))])) _
                    refine XS.istore X20.here hx rfl (hb hby at_212) rfl (l' := #[.val (.int p0), .val (.int p1), .val (.int p2), .val (.int p3), .val (.int p0), .val (.int v15), .val (.int v18), .val (.int v23), .val (.long v24), .second, .val (.long v25), .second, .val (.long v26), .second, .val (.long v27), .second, .val (.int (1 : Int32)), .val (.int (1 : Int32)), .unset]) rfl ?_
                    show Steps p.tables e below (T20.setTop (mkF m 214 #[.val (.int p0), .val (.int p1), .val (.int p2), .val (.int p3), .val (.int p0), .val (.int v15), .val (.int v18), .val (.int v23), .val (.long v24), .second, .val (.long v25), .second, .val (.long v26), .second, .val (.long v27), .second, .val (.int (1 : Int32)), .val (.int (1 : Int32)), .unset] [])) _
                    refine XS.lload X20.here hx rfl (hb hby at_214) rfl ?_
                    show Steps p.tables e below (T20.setTop (mkF m 216 #[.val (.int p0), .val (.int p1), .val (.int p2), .val (.int p3), .val (.int p0), .val (.int v15), .val (.int v18), .val (.int v23), .val (.long v24), .second, .val (.long v25), .second, .val (.long v26), .second, .val (.long v27), .second, .val (.int (1 : Int32)), .val (.int (1 : Int32)), .unset] [(.long v27)])) _
                    refine XS.lconst X20.here hx rfl (hb hby at_216) ?_
                    show Steps p.tables e below (T20.setTop (mkF m 217 #[.val (.int p0), .val (.int p1), .val (.int p2), .val (.int p3), .val (.int p0), .val (.int v15), .val (.int v18), .val (.int v23), .val (.long v24), .second, .val (.long v25), .second, .val (.long v26), .second, .val (.long v27), .second, .val (.int (1 : Int32)), .val (.int (1 : Int32)), .unset] [(.long (0 : Int64)), (.long v27)])) _
                    refine XS.lcmp X20.here hx rfl (hb hby at_217) rfl ?_
                    show Steps p.tables e below (T20.setTop (mkF m 218 #[.val (.int p0), .val (.int p1), .val (.int p2), .val (.int p3), .val (.int p0), .val (.int v15), .val (.int v18), .val (.int v23), .val (.long v24), .second, .val (.long v25), .second, .val (.long v26), .second, .val (.long v27), .second, .val (.int (1 : Int32)), .val (.int (1 : Int32)), .unset] [(.int (lcmpW v27 (0 : Int64)))])) _
                    exact kk)
                  by_cases hc119 : v27 = (0 : Int64)
                  · obtain ⟨fs, hr, hrun, hended, hW, hsame⟩ := X20.leave (v := some (.int (1 : Int32))) (fun h => by rw [Bd.returns] at h; cases h)
                    refine ⟨_, _, pre118 _ ?_, hrun, hended, _, _, rfl, ?_, ⟨_, rfl⟩, hW, hsame.mono (by decide) (by decide)⟩
                    · show Steps p.tables e below (T20.setTop (mkF m 218 #[.val (.int p0), .val (.int p1), .val (.int p2), .val (.int p3), .val (.int p0), .val (.int v15), .val (.int v18), .val (.int v23), .val (.long v24), .second, .val (.long v25), .second, .val (.long v26), .second, .val (.long v27), .second, .val (.int (1 : Int32)), .val (.int (1 : Int32)), .unset] [(.int (lcmpW v27 (0 : Int64)))])) _
                      refine XS.ifYes X20.here hx rfl (pc0 := 218) (pc' := 231) rfl (hb hby at_218) rfl ((if0 _ _).trans (teq ((lw_eq v27 (0 : Int64)).mpr hc119)).1) (by decide) (by decide) ?_
                      show Steps p.tables e below (T20.setTop (mkF m 231 #[.val (.int p0), .val (.int p1), .val (.int p2), .val (.int p3), .val (.int p0), .val (.int v15), .val (.int v18), .val (.int v23), .val (.long v24), .second, .val (.long v25), .second, .val (.long v26), .second, .val (.long v27), .second, .val (.int (1 : Int32)), .val (.int (1 : Int32)), .unset] [])) _
                      refine XS.iconst X20.here hx rfl (hb hby at_231) ?_
                      show Steps p.tables e below (T20.setTop (mkF m 232 #[.val (.int p0), .val (.int p1), .val (.int p2), .val (.int p3), .val (.int p0), .val (.int v15), .val (.int v18), .val (.int v23), .val (.long v24), .second, .val (.long v25), .second, .val (.long v26), .second, .val (.long v27), .second, .val (.int (1 : Int32)), .val (.int (1 : Int32)), .unset] [(.int (1 : Int32))])) _
                      refine XS.goto X20.here hx rfl (pc0 := 232) (pc' := 236) rfl (hb hby at_232) (by decide) (by decide) ?_
                      show Steps p.tables e below (T20.setTop (mkF m 236 #[.val (.int p0), .val (.int p1), .val (.int p2), .val (.int p3), .val (.int p0), .val (.int v15), .val (.int v18), .val (.int v23), .val (.long v24), .second, .val (.long v25), .second, .val (.long v26), .second, .val (.long v27), .second, .val (.int (1 : Int32)), .val (.int (1 : Int32)), .unset] [(.int (1 : Int32))])) _
                      refine XS.istore X20.here hx rfl (hb hby at_236) rfl (l' := #[.val (.int p0), .val (.int p1), .val (.int p2), .val (.int p3), .val (.int p0), .val (.int v15), .val (.int v18), .val (.int v23), .val (.long v24), .second, .val (.long v25), .second, .val (.long v26), .second, .val (.long v27), .second, .val (.int (1 : Int32)), .val (.int (1 : Int32)), .val (.int (1 : Int32))]) rfl ?_
                      show Steps p.tables e below (T20.setTop (mkF m 238 #[.val (.int p0), .val (.int p1), .val (.int p2), .val (.int p3), .val (.int p0), .val (.int v15), .val (.int v18), .val (.int v23), .val (.long v24), .second, .val (.long v25), .second, .val (.long v26), .second, .val (.long v27), .second, .val (.int (1 : Int32)), .val (.int (1 : Int32)), .val (.int (1 : Int32))] [])) _
                      refine XS.iload X20.here hx rfl (hb hby at_238) rfl ?_
                      show Steps p.tables e below (T20.setTop (mkF m 240 #[.val (.int p0), .val (.int p1), .val (.int p2), .val (.int p3), .val (.int p0), .val (.int v15), .val (.int v18), .val (.int v23), .val (.long v24), .second, .val (.long v25), .second, .val (.long v26), .second, .val (.long v27), .second, .val (.int (1 : Int32)), .val (.int (1 : Int32)), .val (.int (1 : Int32))] [(.int (1 : Int32))])) _
                      refine XS.ifNo X20.here hx rfl (hb hby at_240) rfl ((if0 _ _).trans (feq (by decide : ¬ ((1 : Int32) = (0 : Int32)))).1) ?_
                      show Steps p.tables e below (T20.setTop (mkF m 243 #[.val (.int p0), .val (.int p1), .val (.int p2), .val (.int p3), .val (.int p0), .val (.int v15), .val (.int v18), .val (.int v23), .val (.long v24), .second, .val (.long v25), .second, .val (.long v26), .second, .val (.long v27), .second, .val (.int (1 : Int32)), .val (.int (1 : Int32)), .val (.int (1 : Int32))] [])) _
                      refine XS.iload X20.here hx rfl (hb hby at_243) rfl ?_
                      show Steps p.tables e below (T20.setTop (mkF m 245 #[.val (.int p0), .val (.int p1), .val (.int p2), .val (.int p3), .val (.int p0), .val (.int v15), .val (.int v18), .val (.int v23), .val (.long v24), .second, .val (.long v25), .second, .val (.long v26), .second, .val (.long v27), .second, .val (.int (1 : Int32)), .val (.int (1 : Int32)), .val (.int (1 : Int32))] [(.int (1 : Int32))])) _
                      refine XS.ifNo X20.here hx rfl (hb hby at_245) rfl ((if0 _ _).trans (feq (by decide : ¬ ((1 : Int32) = (0 : Int32)))).1) ?_
                      show Steps p.tables e below (T20.setTop (mkF m 248 #[.val (.int p0), .val (.int p1), .val (.int p2), .val (.int p3), .val (.int p0), .val (.int v15), .val (.int v18), .val (.int v23), .val (.long v24), .second, .val (.long v25), .second, .val (.long v26), .second, .val (.long v27), .second, .val (.int (1 : Int32)), .val (.int (1 : Int32)), .val (.int (1 : Int32))] [])) _
                      refine XS.iload X20.here hx rfl (hb hby at_248) rfl ?_
                      show Steps p.tables e below (T20.setTop (mkF m 250 #[.val (.int p0), .val (.int p1), .val (.int p2), .val (.int p3), .val (.int p0), .val (.int v15), .val (.int v18), .val (.int v23), .val (.long v24), .second, .val (.long v25), .second, .val (.long v26), .second, .val (.long v27), .second, .val (.int (1 : Int32)), .val (.int (1 : Int32)), .val (.int (1 : Int32))] [(.int (1 : Int32))])) _
                      refine XS.ifNo X20.here hx rfl (hb hby at_250) rfl ((if0 _ _).trans (feq (by decide : ¬ ((1 : Int32) = (0 : Int32)))).1) ?_
                      show Steps p.tables e below (T20.setTop (mkF m 253 #[.val (.int p0), .val (.int p1), .val (.int p2), .val (.int p3), .val (.int p0), .val (.int v15), .val (.int v18), .val (.int v23), .val (.long v24), .second, .val (.long v25), .second, .val (.long v26), .second, .val (.long v27), .second, .val (.int (1 : Int32)), .val (.int (1 : Int32)), .val (.int (1 : Int32))] [])) _
                      refine XS.iconst X20.here hx rfl (hb hby at_253) ?_
                      show Steps p.tables e below (T20.setTop (mkF m 254 #[.val (.int p0), .val (.int p1), .val (.int p2), .val (.int p3), .val (.int p0), .val (.int v15), .val (.int v18), .val (.int v23), .val (.long v24), .second, .val (.long v25), .second, .val (.long v26), .second, .val (.long v27), .second, .val (.int (1 : Int32)), .val (.int (1 : Int32)), .val (.int (1 : Int32))] [(.int (1 : Int32))])) _
                      refine XS.goto X20.here hx rfl (pc0 := 254) (pc' := 258) rfl (hb hby at_254) (by decide) (by decide) ?_
                      show Steps p.tables e below (T20.setTop (mkF m 258 #[.val (.int p0), .val (.int p1), .val (.int p2), .val (.int p3), .val (.int p0), .val (.int v15), .val (.int v18), .val (.int v23), .val (.long v24), .second, .val (.long v25), .second, .val (.long v26), .second, .val (.long v27), .second, .val (.int (1 : Int32)), .val (.int (1 : Int32)), .val (.int (1 : Int32))] [(.int (1 : Int32))])) _
                      exact retN X20 hx (t := .boolean) Bd.returns (by simp) (hb hby at_258) hr
                    · show own_Q0 Z p0 p1 p2 p3 h0 n0 _ T20.heap _
                      rw [e22]
                      exact ⟨rfl, N21⟩
                  · have pre120 : ∀ t, Steps p.tables e below (T20.setTop (mkF m 228 #[.val (.int p0), .val (.int p1), .val (.int p2), .val (.int p3), .val (.int p0), .val (.int v15), .val (.int v18), .val (.int v23), .val (.long v24), .second, .val (.long v25), .second, .val (.long v26), .second, .val (.long v27), .second, .val (.int (1 : Int32)), .val (.int (1 : Int32)), .unset] [(.int (lcmpW (v27 - (1 : Int64)) v24))])) t → Steps p.tables e below (s₁.setTop (entryFrame m #[(.int p0), (.int p1), (.int p2), (.int p3)] maxLocals)) t := fun t kk => pre118 t (by
                      show Steps p.tables e below (T20.setTop (mkF m 218 #[.val (.int p0), .val (.int p1), .val (.int p2), .val (.int p3), .val (.int p0), .val (.int v15), .val (.int v18), .val (.int v23), .val (.long v24), .second, .val (.long v25), .second, .val (.long v26), .second, .val (.long v27), .second, .val (.int (1 : Int32)), .val (.int (1 : Int32)), .unset] [(.int (lcmpW v27 (0 : Int64)))])) _
                      refine XS.ifNo X20.here hx rfl (hb hby at_218) rfl ((if0 _ _).trans (feq (mt (lw_eq v27 (0 : Int64)).mp hc119)).1) ?_
                      show Steps p.tables e below (T20.setTop (mkF m 221 #[.val (.int p0), .val (.int p1), .val (.int p2), .val (.int p3), .val (.int p0), .val (.int v15), .val (.int v18), .val (.int v23), .val (.long v24), .second, .val (.long v25), .second, .val (.long v26), .second, .val (.long v27), .second, .val (.int (1 : Int32)), .val (.int (1 : Int32)), .unset] [])) _
                      refine XS.lload X20.here hx rfl (hb hby at_221) rfl ?_
                      show Steps p.tables e below (T20.setTop (mkF m 223 #[.val (.int p0), .val (.int p1), .val (.int p2), .val (.int p3), .val (.int p0), .val (.int v15), .val (.int v18), .val (.int v23), .val (.long v24), .second, .val (.long v25), .second, .val (.long v26), .second, .val (.long v27), .second, .val (.int (1 : Int32)), .val (.int (1 : Int32)), .unset] [(.long v27)])) _
                      refine XS.lconst X20.here hx rfl (hb hby at_223) ?_
                      show Steps p.tables e below (T20.setTop (mkF m 224 #[.val (.int p0), .val (.int p1), .val (.int p2), .val (.int p3), .val (.int p0), .val (.int v15), .val (.int v18), .val (.int v23), .val (.long v24), .second, .val (.long v25), .second, .val (.long v26), .second, .val (.long v27), .second, .val (.int (1 : Int32)), .val (.int (1 : Int32)), .unset] [(.long (1 : Int64)), (.long v27)])) _
                      refine XS.lsub X20.here hx rfl (hb hby at_224) rfl ?_
                      show Steps p.tables e below (T20.setTop (mkF m 225 #[.val (.int p0), .val (.int p1), .val (.int p2), .val (.int p3), .val (.int p0), .val (.int v15), .val (.int v18), .val (.int v23), .val (.long v24), .second, .val (.long v25), .second, .val (.long v26), .second, .val (.long v27), .second, .val (.int (1 : Int32)), .val (.int (1 : Int32)), .unset] [(.long (v27 - (1 : Int64)))])) _
                      refine XS.lload X20.here hx rfl (hb hby at_225) rfl ?_
                      show Steps p.tables e below (T20.setTop (mkF m 227 #[.val (.int p0), .val (.int p1), .val (.int p2), .val (.int p3), .val (.int p0), .val (.int v15), .val (.int v18), .val (.int v23), .val (.long v24), .second, .val (.long v25), .second, .val (.long v26), .second, .val (.long v27), .second, .val (.int (1 : Int32)), .val (.int (1 : Int32)), .unset] [(.long v24), (.long (v27 - (1 : Int64)))])) _
                      refine XS.lcmp X20.here hx rfl (hb hby at_227) rfl ?_
                      show Steps p.tables e below (T20.setTop (mkF m 228 #[.val (.int p0), .val (.int p1), .val (.int p2), .val (.int p3), .val (.int p0), .val (.int v15), .val (.int v18), .val (.int v23), .val (.long v24), .second, .val (.long v25), .second, .val (.long v26), .second, .val (.long v27), .second, .val (.int (1 : Int32)), .val (.int (1 : Int32)), .unset] [(.int (lcmpW (v27 - (1 : Int64)) v24))])) _
                      exact kk)
                    by_cases hc121 : (v27 - (1 : Int64)) < v24
                    · obtain ⟨fs, hr, hrun, hended, hW, hsame⟩ := X20.leave (v := some (.int (1 : Int32))) (fun h => by rw [Bd.returns] at h; cases h)
                      refine ⟨_, _, pre120 _ ?_, hrun, hended, _, _, rfl, ?_, ⟨_, rfl⟩, hW, hsame.mono (by decide) (by decide)⟩
                      · show Steps p.tables e below (T20.setTop (mkF m 228 #[.val (.int p0), .val (.int p1), .val (.int p2), .val (.int p3), .val (.int p0), .val (.int v15), .val (.int v18), .val (.int v23), .val (.long v24), .second, .val (.long v25), .second, .val (.long v26), .second, .val (.long v27), .second, .val (.int (1 : Int32)), .val (.int (1 : Int32)), .unset] [(.int (lcmpW (v27 - (1 : Int64)) v24))])) _
                        refine XS.ifNo X20.here hx rfl (hb hby at_228) rfl ((if0 _ _).trans (tlt ((lw_lt (v27 - (1 : Int64)) v24).mpr hc121)).2.1) ?_
                        show Steps p.tables e below (T20.setTop (mkF m 231 #[.val (.int p0), .val (.int p1), .val (.int p2), .val (.int p3), .val (.int p0), .val (.int v15), .val (.int v18), .val (.int v23), .val (.long v24), .second, .val (.long v25), .second, .val (.long v26), .second, .val (.long v27), .second, .val (.int (1 : Int32)), .val (.int (1 : Int32)), .unset] [])) _
                        refine XS.iconst X20.here hx rfl (hb hby at_231) ?_
                        show Steps p.tables e below (T20.setTop (mkF m 232 #[.val (.int p0), .val (.int p1), .val (.int p2), .val (.int p3), .val (.int p0), .val (.int v15), .val (.int v18), .val (.int v23), .val (.long v24), .second, .val (.long v25), .second, .val (.long v26), .second, .val (.long v27), .second, .val (.int (1 : Int32)), .val (.int (1 : Int32)), .unset] [(.int (1 : Int32))])) _
                        refine XS.goto X20.here hx rfl (pc0 := 232) (pc' := 236) rfl (hb hby at_232) (by decide) (by decide) ?_
                        show Steps p.tables e below (T20.setTop (mkF m 236 #[.val (.int p0), .val (.int p1), .val (.int p2), .val (.int p3), .val (.int p0), .val (.int v15), .val (.int v18), .val (.int v23), .val (.long v24), .second, .val (.long v25), .second, .val (.long v26), .second, .val (.long v27), .second, .val (.int (1 : Int32)), .val (.int (1 : Int32)), .unset] [(.int (1 : Int32))])) _
                        refine XS.istore X20.here hx rfl (hb hby at_236) rfl (l' := #[.val (.int p0), .val (.int p1), .val (.int p2), .val (.int p3), .val (.int p0), .val (.int v15), .val (.int v18), .val (.int v23), .val (.long v24), .second, .val (.long v25), .second, .val (.long v26), .second, .val (.long v27), .second, .val (.int (1 : Int32)), .val (.int (1 : Int32)), .val (.int (1 : Int32))]) rfl ?_
                        show Steps p.tables e below (T20.setTop (mkF m 238 #[.val (.int p0), .val (.int p1), .val (.int p2), .val (.int p3), .val (.int p0), .val (.int v15), .val (.int v18), .val (.int v23), .val (.long v24), .second, .val (.long v25), .second, .val (.long v26), .second, .val (.long v27), .second, .val (.int (1 : Int32)), .val (.int (1 : Int32)), .val (.int (1 : Int32))] [])) _
                        refine XS.iload X20.here hx rfl (hb hby at_238) rfl ?_
                        show Steps p.tables e below (T20.setTop (mkF m 240 #[.val (.int p0), .val (.int p1), .val (.int p2), .val (.int p3), .val (.int p0), .val (.int v15), .val (.int v18), .val (.int v23), .val (.long v24), .second, .val (.long v25), .second, .val (.long v26), .second, .val (.long v27), .second, .val (.int (1 : Int32)), .val (.int (1 : Int32)), .val (.int (1 : Int32))] [(.int (1 : Int32))])) _
                        refine XS.ifNo X20.here hx rfl (hb hby at_240) rfl ((if0 _ _).trans (feq (by decide : ¬ ((1 : Int32) = (0 : Int32)))).1) ?_
                        show Steps p.tables e below (T20.setTop (mkF m 243 #[.val (.int p0), .val (.int p1), .val (.int p2), .val (.int p3), .val (.int p0), .val (.int v15), .val (.int v18), .val (.int v23), .val (.long v24), .second, .val (.long v25), .second, .val (.long v26), .second, .val (.long v27), .second, .val (.int (1 : Int32)), .val (.int (1 : Int32)), .val (.int (1 : Int32))] [])) _
                        refine XS.iload X20.here hx rfl (hb hby at_243) rfl ?_
                        show Steps p.tables e below (T20.setTop (mkF m 245 #[.val (.int p0), .val (.int p1), .val (.int p2), .val (.int p3), .val (.int p0), .val (.int v15), .val (.int v18), .val (.int v23), .val (.long v24), .second, .val (.long v25), .second, .val (.long v26), .second, .val (.long v27), .second, .val (.int (1 : Int32)), .val (.int (1 : Int32)), .val (.int (1 : Int32))] [(.int (1 : Int32))])) _
                        refine XS.ifNo X20.here hx rfl (hb hby at_245) rfl ((if0 _ _).trans (feq (by decide : ¬ ((1 : Int32) = (0 : Int32)))).1) ?_
                        show Steps p.tables e below (T20.setTop (mkF m 248 #[.val (.int p0), .val (.int p1), .val (.int p2), .val (.int p3), .val (.int p0), .val (.int v15), .val (.int v18), .val (.int v23), .val (.long v24), .second, .val (.long v25), .second, .val (.long v26), .second, .val (.long v27), .second, .val (.int (1 : Int32)), .val (.int (1 : Int32)), .val (.int (1 : Int32))] [])) _
                        refine XS.iload X20.here hx rfl (hb hby at_248) rfl ?_
                        show Steps p.tables e below (T20.setTop (mkF m 250 #[.val (.int p0), .val (.int p1), .val (.int p2), .val (.int p3), .val (.int p0), .val (.int v15), .val (.int v18), .val (.int v23), .val (.long v24), .second, .val (.long v25), .second, .val (.long v26), .second, .val (.long v27), .second, .val (.int (1 : Int32)), .val (.int (1 : Int32)), .val (.int (1 : Int32))] [(.int (1 : Int32))])) _
                        refine XS.ifNo X20.here hx rfl (hb hby at_250) rfl ((if0 _ _).trans (feq (by decide : ¬ ((1 : Int32) = (0 : Int32)))).1) ?_
                        show Steps p.tables e below (T20.setTop (mkF m 253 #[.val (.int p0), .val (.int p1), .val (.int p2), .val (.int p3), .val (.int p0), .val (.int v15), .val (.int v18), .val (.int v23), .val (.long v24), .second, .val (.long v25), .second, .val (.long v26), .second, .val (.long v27), .second, .val (.int (1 : Int32)), .val (.int (1 : Int32)), .val (.int (1 : Int32))] [])) _
                        refine XS.iconst X20.here hx rfl (hb hby at_253) ?_
                        show Steps p.tables e below (T20.setTop (mkF m 254 #[.val (.int p0), .val (.int p1), .val (.int p2), .val (.int p3), .val (.int p0), .val (.int v15), .val (.int v18), .val (.int v23), .val (.long v24), .second, .val (.long v25), .second, .val (.long v26), .second, .val (.long v27), .second, .val (.int (1 : Int32)), .val (.int (1 : Int32)), .val (.int (1 : Int32))] [(.int (1 : Int32))])) _
                        refine XS.goto X20.here hx rfl (pc0 := 254) (pc' := 258) rfl (hb hby at_254) (by decide) (by decide) ?_
                        show Steps p.tables e below (T20.setTop (mkF m 258 #[.val (.int p0), .val (.int p1), .val (.int p2), .val (.int p3), .val (.int p0), .val (.int v15), .val (.int v18), .val (.int v23), .val (.long v24), .second, .val (.long v25), .second, .val (.long v26), .second, .val (.long v27), .second, .val (.int (1 : Int32)), .val (.int (1 : Int32)), .val (.int (1 : Int32))] [(.int (1 : Int32))])) _
                        exact retN X20 hx (t := .boolean) Bd.returns (by simp) (hb hby at_258) hr
                      · show own_Q0 Z p0 p1 p2 p3 h0 n0 _ T20.heap _
                        rw [e22]
                        exact ⟨rfl, N21⟩
                    · exact (own_leaf0_47 p0 p1 p2 p3 v15 hv15 v18 hv18 v23 hv23 v24 hv24 v25 hv25 v26 hv26 v27 hv27 hc29 hc45 hc71 hc73 hc99 hc101 hc107 hc113 hc119 hc121).elim
      · have pre122 : ∀ t, Steps p.tables e below (T20.setTop (mkF m 167 #[.val (.int p0), .val (.int p1), .val (.int p2), .val (.int p3), .val (.int p0), .val (.int v15), .val (.int v18), .val (.int v23), .val (.long v24), .second, .val (.long v25), .second, .val (.long v26), .second, .val (.long v27), .second, .val (.int (1 : Int32)), .unset, .unset] [(.int (-1 : Int32)), (.int v23)])) t → Steps p.tables e below (s₁.setTop (entryFrame m #[(.int p0), (.int p1), (.int p2), (.int p3)] maxLocals)) t := fun t kk => pre70 t (by
          show Steps p.tables e below (T20.setTop (mkF m 143 #[.val (.int p0), .val (.int p1), .val (.int p2), .val (.int p3), .val (.int p0), .val (.int v15), .val (.int v18), .val (.int v23), .val (.long v24), .second, .val (.long v25), .second, .val (.long v26), .second, .val (.long v27), .second, .unset, .unset, .unset] [(.int (lcmpW v24 (0 : Int64)))])) _
          refine XS.ifYes X20.here hx rfl (pc0 := 143) (pc' := 157) rfl (hb hby at_143) rfl ((if0 _ _).trans (flt (mt (lw_gt v24 (0 : Int64)).mp hc71)).2.2.2) (by decide) (by decide) ?_
          show Steps p.tables e below (T20.setTop (mkF m 157 #[.val (.int p0), .val (.int p1), .val (.int p2), .val (.int p3), .val (.int p0), .val (.int v15), .val (.int v18), .val (.int v23), .val (.long v24), .second, .val (.long v25), .second, .val (.long v26), .second, .val (.long v27), .second, .unset, .unset, .unset] [])) _
          refine XS.iconst X20.here hx rfl (hb hby at_157) ?_
          show Steps p.tables e below (T20.setTop (mkF m 158 #[.val (.int p0), .val (.int p1), .val (.int p2), .val (.int p3), .val (.int p0), .val (.int v15), .val (.int v18), .val (.int v23), .val (.long v24), .second, .val (.long v25), .second, .val (.long v26), .second, .val (.long v27), .second, .unset, .unset, .unset] [(.int (1 : Int32))])) _
          refine XS.goto X20.here hx rfl (pc0 := 158) (pc' := 162) rfl (hb hby at_158) (by decide) (by decide) ?_
          show Steps p.tables e below (T20.setTop (mkF m 162 #[.val (.int p0), .val (.int p1), .val (.int p2), .val (.int p3), .val (.int p0), .val (.int v15), .val (.int v18), .val (.int v23), .val (.long v24), .second, .val (.long v25), .second, .val (.long v26), .second, .val (.long v27), .second, .unset, .unset, .unset] [(.int (1 : Int32))])) _
          refine XS.istore X20.here hx rfl (hb hby at_162) rfl (l' := #[.val (.int p0), .val (.int p1), .val (.int p2), .val (.int p3), .val (.int p0), .val (.int v15), .val (.int v18), .val (.int v23), .val (.long v24), .second, .val (.long v25), .second, .val (.long v26), .second, .val (.long v27), .second, .val (.int (1 : Int32)), .unset, .unset]) rfl ?_
          show Steps p.tables e below (T20.setTop (mkF m 164 #[.val (.int p0), .val (.int p1), .val (.int p2), .val (.int p3), .val (.int p0), .val (.int v15), .val (.int v18), .val (.int v23), .val (.long v24), .second, .val (.long v25), .second, .val (.long v26), .second, .val (.long v27), .second, .val (.int (1 : Int32)), .unset, .unset] [])) _
          refine XS.iload X20.here hx rfl (hb hby at_164) rfl ?_
          show Steps p.tables e below (T20.setTop (mkF m 166 #[.val (.int p0), .val (.int p1), .val (.int p2), .val (.int p3), .val (.int p0), .val (.int v15), .val (.int v18), .val (.int v23), .val (.long v24), .second, .val (.long v25), .second, .val (.long v26), .second, .val (.long v27), .second, .val (.int (1 : Int32)), .unset, .unset] [(.int v23)])) _
          refine XS.iconst X20.here hx rfl (hb hby at_166) ?_
          show Steps p.tables e below (T20.setTop (mkF m 167 #[.val (.int p0), .val (.int p1), .val (.int p2), .val (.int p3), .val (.int p0), .val (.int v15), .val (.int v18), .val (.int v23), .val (.long v24), .second, .val (.long v25), .second, .val (.long v26), .second, .val (.long v27), .second, .val (.int (1 : Int32)), .unset, .unset] [(.int (-1 : Int32)), (.int v23)])) _
          exact kk)
        by_cases hc123 : v23 = (-1 : Int32)
        · exact (own_leaf0_48 p0 p1 p2 p3 v15 hv15 v18 hv18 v23 hv23 v24 hv24 v25 hv25 v26 hv26 v27 hv27 hc29 hc45 hc71 hc123).elim
        · have pre124 : ∀ t, Steps p.tables e below (T20.setTop (mkF m 185 #[.val (.int p0), .val (.int p1), .val (.int p2), .val (.int p3), .val (.int p0), .val (.int v15), .val (.int v18), .val (.int v23), .val (.long v24), .second, .val (.long v25), .second, .val (.long v26), .second, .val (.long v27), .second, .val (.int (1 : Int32)), .unset, .unset] [(.int (lcmpW v27 (0 : Int64)))])) t → Steps p.tables e below (s₁.setTop (entryFrame m #[(.int p0), (.int p1), (.int p2), (.int p3)] maxLocals)) t := fun t kk => pre122 t (by
            show Steps p.tables e below (T20.setTop (mkF m 167 #[.val (.int p0), .val (.int p1), .val (.int p2), .val (.int p3), .val (.int p0), .val (.int v15), .val (.int v18), .val (.int v23), .val (.long v24), .second, .val (.long v25), .second, .val (.long v26), .second, .val (.long v27), .second, .val (.int (1 : Int32)), .unset, .unset] [(.int (-1 : Int32)), (.int v23)])) _
            refine XS.icmpYes X20.here hx rfl (pc0 := 167) (pc' := 181) rfl (hb hby at_167) rfl (feq hc123).2 (by decide) (by decide) ?_
            show Steps p.tables e below (T20.setTop (mkF m 181 #[.val (.int p0), .val (.int p1), .val (.int p2), .val (.int p3), .val (.int p0), .val (.int v15), .val (.int v18), .val (.int v23), .val (.long v24), .second, .val (.long v25), .second, .val (.long v26), .second, .val (.long v27), .second, .val (.int (1 : Int32)), .unset, .unset] [])) _
            refine XS.lload X20.here hx rfl (hb hby at_181) rfl ?_
            show Steps p.tables e below (T20.setTop (mkF m 183 #[.val (.int p0), .val (.int p1), .val (.int p2), .val (.int p3), .val (.int p0), .val (.int v15), .val (.int v18), .val (.int v23), .val (.long v24), .second, .val (.long v25), .second, .val (.long v26), .second, .val (.long v27), .second, .val (.int (1 : Int32)), .unset, .unset] [(.long v27)])) _
            refine XS.lconst X20.here hx rfl (hb hby at_183) ?_
            show Steps p.tables e below (T20.setTop (mkF m 184 #[.val (.int p0), .val (.int p1), .val (.int p2), .val (.int p3), .val (.int p0), .val (.int v15), .val (.int v18), .val (.int v23), .val (.long v24), .second, .val (.long v25), .second, .val (.long v26), .second, .val (.long v27), .second, .val (.int (1 : Int32)), .unset, .unset] [(.long (0 : Int64)), (.long v27)])) _
            refine XS.lcmp X20.here hx rfl (hb hby at_184) rfl ?_
            show Steps p.tables e below (T20.setTop (mkF m 185 #[.val (.int p0), .val (.int p1), .val (.int p2), .val (.int p3), .val (.int p0), .val (.int v15), .val (.int v18), .val (.int v23), .val (.long v24), .second, .val (.long v25), .second, .val (.long v26), .second, .val (.long v27), .second, .val (.int (1 : Int32)), .unset, .unset] [(.int (lcmpW v27 (0 : Int64)))])) _
            exact kk)
          by_cases hc125 : v27 < (0 : Int64)
          · have pre126 : ∀ t, Steps p.tables e below (T20.setTop (mkF m 218 #[.val (.int p0), .val (.int p1), .val (.int p2), .val (.int p3), .val (.int p0), .val (.int v15), .val (.int v18), .val (.int v23), .val (.long v24), .second, .val (.long v25), .second, .val (.long v26), .second, .val (.long v27), .second, .val (.int (1 : Int32)), .val (.int (0 : Int32)), .unset] [(.int (lcmpW v27 (0 : Int64)))])) t → Steps p.tables e below (s₁.setTop (entryFrame m #[(.int p0), (.int p1), (.int p2), (.int p3)] maxLocals)) t := fun t kk => pre124 t (by
              show Steps p.tables e below (T20.setTop (mkF m 185 #[.val (.int p0), .val (.int p1), .val (.int p2), .val (.int p3), .val (.int p0), .val (.int v15), .val (.int v18), .val (.int v23), .val (.long v24), .second, .val (.long v25), .second, .val (.long v26), .second, .val (.long v27), .second, .val (.int (1 : Int32)), .unset, .unset] [(.int (lcmpW v27 (0 : Int64)))])) _
              refine XS.ifYes X20.here hx rfl (pc0 := 185) (pc' := 211) rfl (hb hby at_185) rfl ((if0 _ _).trans (tlt ((lw_lt v27 (0 : Int64)).mpr hc125)).1) (by decide) (by decide) ?_
              show Steps p.tables e below (T20.setTop (mkF m 211 #[.val (.int p0), .val (.int p1), .val (.int p2), .val (.int p3), .val (.int p0), .val (.int v15), .val (.int v18), .val (.int v23), .val (.long v24), .second, .val (.long v25), .second, .val (.long v26), .second, .val (.long v27), .second, .val (.int (1 : Int32)), .unset, .unset] [])) _
              refine XS.iconst X20.here hx rfl (hb hby at_211) ?_
              show Steps p.tables e below (T20.setTop (mkF m 212 #[.val (.int p0), .val (.int p1), .val (.int p2), .val (.int p3), .val (.int p0), .val (.int v15), .val (.int v18), .val (.int v23), .val (.long v24), .second, .val (.long v25), .second, .val (.long v26), .second, .val (.long v27), .second, .val (.int (1 : Int32)), .unset, .unset] [(.int (0 : Int32))])) _
              refine XS.istore X20.here hx rfl (hb hby at_212) rfl (l' := #[.val (.int p0), .val (.int p1), .val (.int p2), .val (.int p3), .val (.int p0), .val (.int v15), .val (.int v18), .val (.int v23), .val (.long v24), .second, .val (.long v25), .second, .val (.long v26), .second, .val (.long v27), .second, .val (.int (1 : Int32)), .val (.int (0 : Int32)), .unset]) rfl ?_
              show Steps p.tables e below (T20.setTop (mkF m 214 #[.val (.int p0), .val (.int p1), .val (.int p2), .val (.int p3), .val (.int p0), .val (.int v15), .val (.int v18), .val (.int v23), .val (.long v24), .second, .val (.long v25), .second, .val (.long v26), .second, .val (.long v27), .second, .val (.int (1 : Int32)), .val (.int (0 : Int32)), .unset] [])) _
              refine XS.lload X20.here hx rfl (hb hby at_214) rfl ?_
              show Steps p.tables e below (T20.setTop (mkF m 216 #[.val (.int p0), .val (.int p1), .val (.int p2), .val (.int p3), .val (.int p0), .val (.int v15), .val (.int v18), .val (.int v23), .val (.long v24), .second, .val (.long v25), .second, .val (.long v26), .second, .val (.long v27), .second, .val (.int (1 : Int32)), .val (.int (0 : Int32)), .unset] [(.long v27)])) _
              refine XS.lconst X20.here hx rfl (hb hby at_216) ?_
              show Steps p.tables e below (T20.setTop (mkF m 217 #[.val (.int p0), .val (.int p1), .val (.int p2), .val (.int p3), .val (.int p0), .val (.int v15), .val (.int v18), .val (.int v23), .val (.long v24), .second, .val (.long v25), .second, .val (.long v26), .second, .val (.long v27), .second, .val (.int (1 : Int32)), .val (.int (0 : Int32)), .unset] [(.long (0 : Int64)), (.long v27)])) _
              refine XS.lcmp X20.here hx rfl (hb hby at_217) rfl ?_
              show Steps p.tables e below (T20.setTop (mkF m 218 #[.val (.int p0), .val (.int p1), .val (.int p2), .val (.int p3), .val (.int p0), .val (.int v15), .val (.int v18), .val (.int v23), .val (.long v24), .second, .val (.long v25), .second, .val (.long v26), .second, .val (.long v27), .second, .val (.int (1 : Int32)), .val (.int (0 : Int32)), .unset] [(.int (lcmpW v27 (0 : Int64)))])) _
              exact kk)
            by_cases hc127 : v27 = (0 : Int64)
            · exact (own_leaf0_49 p0 p1 p2 p3 v15 hv15 v18 hv18 v23 hv23 v24 hv24 v25 hv25 v26 hv26 v27 hv27 hc29 hc45 hc71 hc123 hc125 hc127).elim
            · have pre128 : ∀ t, Steps p.tables e below (T20.setTop (mkF m 228 #[.val (.int p0), .val (.int p1), .val (.int p2), .val (.int p3), .val (.int p0), .val (.int v15), .val (.int v18), .val (.int v23), .val (.long v24), .second, .val (.long v25), .second, .val (.long v26), .second, .val (.long v27), .second, .val (.int (1 : Int32)), .val (.int (0 : Int32)), .unset] [(.int (lcmpW (v27 - (1 : Int64)) v24))])) t → Steps p.tables e below (s₁.setTop (entryFrame m #[(.int p0), (.int p1), (.int p2), (.int p3)] maxLocals)) t := fun t kk => pre126 t (by
                show Steps p.tables e below (T20.setTop (mkF m 218 #[.val (.int p0), .val (.int p1), .val (.int p2), .val (.int p3), .val (.int p0), .val (.int v15), .val (.int v18), .val (.int v23), .val (.long v24), .second, .val (.long v25), .second, .val (.long v26), .second, .val (.long v27), .second, .val (.int (1 : Int32)), .val (.int (0 : Int32)), .unset] [(.int (lcmpW v27 (0 : Int64)))])) _
                refine XS.ifNo X20.here hx rfl (hb hby at_218) rfl ((if0 _ _).trans (feq (mt (lw_eq v27 (0 : Int64)).mp hc127)).1) ?_
                show Steps p.tables e below (T20.setTop (mkF m 221 #[.val (.int p0), .val (.int p1), .val (.int p2), .val (.int p3), .val (.int p0), .val (.int v15), .val (.int v18), .val (.int v23), .val (.long v24), .second, .val (.long v25), .second, .val (.long v26), .second, .val (.long v27), .second, .val (.int (1 : Int32)), .val (.int (0 : Int32)), .unset] [])) _
                refine XS.lload X20.here hx rfl (hb hby at_221) rfl ?_
                show Steps p.tables e below (T20.setTop (mkF m 223 #[.val (.int p0), .val (.int p1), .val (.int p2), .val (.int p3), .val (.int p0), .val (.int v15), .val (.int v18), .val (.int v23), .val (.long v24), .second, .val (.long v25), .second, .val (.long v26), .second, .val (.long v27), .second, .val (.int (1 : Int32)), .val (.int (0 : Int32)), .unset] [(.long v27)])) _
                refine XS.lconst X20.here hx rfl (hb hby at_223) ?_
                show Steps p.tables e below (T20.setTop (mkF m 224 #[.val (.int p0), .val (.int p1), .val (.int p2), .val (.int p3), .val (.int p0), .val (.int v15), .val (.int v18), .val (.int v23), .val (.long v24), .second, .val (.long v25), .second, .val (.long v26), .second, .val (.long v27), .second, .val (.int (1 : Int32)), .val (.int (0 : Int32)), .unset] [(.long (1 : Int64)), (.long v27)])) _
                refine XS.lsub X20.here hx rfl (hb hby at_224) rfl ?_
                show Steps p.tables e below (T20.setTop (mkF m 225 #[.val (.int p0), .val (.int p1), .val (.int p2), .val (.int p3), .val (.int p0), .val (.int v15), .val (.int v18), .val (.int v23), .val (.long v24), .second, .val (.long v25), .second, .val (.long v26), .second, .val (.long v27), .second, .val (.int (1 : Int32)), .val (.int (0 : Int32)), .unset] [(.long (v27 - (1 : Int64)))])) _
                refine XS.lload X20.here hx rfl (hb hby at_225) rfl ?_
                show Steps p.tables e below (T20.setTop (mkF m 227 #[.val (.int p0), .val (.int p1), .val (.int p2), .val (.int p3), .val (.int p0), .val (.int v15), .val (.int v18), .val (.int v23), .val (.long v24), .second, .val (.long v25), .second, .val (.long v26), .second, .val (.long v27), .second, .val (.int (1 : Int32)), .val (.int (0 : Int32)), .unset] [(.long v24), (.long (v27 - (1 : Int64)))])) _
                refine XS.lcmp X20.here hx rfl (hb hby at_227) rfl ?_
                show Steps p.tables e below (T20.setTop (mkF m 228 #[.val (.int p0), .val (.int p1), .val (.int p2), .val (.int p3), .val (.int p0), .val (.int v15), .val (.int v18), .val (.int v23), .val (.long v24), .second, .val (.long v25), .second, .val (.long v26), .second, .val (.long v27), .second, .val (.int (1 : Int32)), .val (.int (0 : Int32)), .unset] [(.int (lcmpW (v27 - (1 : Int64)) v24))])) _
                exact kk)
              by_cases hc129 : (v27 - (1 : Int64)) < v24
              · exact (own_leaf0_50 p0 p1 p2 p3 v15 hv15 v18 hv18 v23 hv23 v24 hv24 v25 hv25 v26 hv26 v27 hv27 hc29 hc45 hc71 hc123 hc125 hc127 hc129).elim
              · exact (own_leaf0_51 p0 p1 p2 p3 v15 hv15 v18 hv18 v23 hv23 v24 hv24 v25 hv25 v26 hv26 v27 hv27 hc29 hc45 hc71 hc123 hc125 hc127 hc129).elim
          · have pre130 : ∀ t, Steps p.tables e below (T20.setTop (mkF m 193 #[.val (.int p0), .val (.int p1), .val (.int p2), .val (.int p3), .val (.int p0), .val (.int v15), .val (.int v18), .val (.int v23), .val (.long v24), .second, .val (.long v25), .second, .val (.long v26), .second, .val (.long v27), .second, .val (.int (1 : Int32)), .unset, .unset] [(.int (lcmpW v27 v24))])) t → Steps p.tables e below (s₁.setTop (entryFrame m #[(.int p0), (.int p1), (.int p2), (.int p3)] maxLocals)) t := fun t kk => pre124 t (by
              show Steps p.tables e below (T20.setTop (mkF m 185 #[.val (.int p0), .val (.int p1), .val (.int p2), .val (.int p3), .val (.int p0), .val (.int v15), .val (.int v18), .val (.int v23), .val (.long v24), .second, .val (.long v25), .second, .val (.long v26), .second, .val (.long v27), .second, .val (.int (1 : Int32)), .unset, .unset] [(.int (lcmpW v27 (0 : Int64)))])) _
              refine XS.ifNo X20.here hx rfl (hb hby at_185) rfl ((if0 _ _).trans (flt (mt (lw_lt v27 (0 : Int64)).mp hc125)).1) ?_
              show Steps p.tables e below (T20.setTop (mkF m 188 #[.val (.int p0), .val (.int p1), .val (.int p2), .val (.int p3), .val (.int p0), .val (.int v15), .val (.int v18), .val (.int v23), .val (.long v24), .second, .val (.long v25), .second, .val (.long v26), .second, .val (.long v27), .second, .val (.int (1 : Int32)), .unset, .unset] [])) _
              refine XS.lload X20.here hx rfl (hb hby at_188) rfl ?_
              show Steps p.tables e below (T20.setTop (mkF m 190 #[.val (.int p0), .val (.int p1), .val (.int p2), .val (.int p3), .val (.int p0), .val (.int v15), .val (.int v18), .val (.int v23), .val (.long v24), .second, .val (.long v25), .second, .val (.long v26), .second, .val (.long v27), .second, .val (.int (1 : Int32)), .unset, .unset] [(.long v27)])) _
              refine XS.lload X20.here hx rfl (hb hby at_190) rfl ?_
              show Steps p.tables e below (T20.setTop (mkF m 192 #[.val (.int p0), .val (.int p1), .val (.int p2), .val (.int p3), .val (.int p0), .val (.int v15), .val (.int v18), .val (.int v23), .val (.long v24), .second, .val (.long v25), .second, .val (.long v26), .second, .val (.long v27), .second, .val (.int (1 : Int32)), .unset, .unset] [(.long v24), (.long v27)])) _
              refine XS.lcmp X20.here hx rfl (hb hby at_192) rfl ?_
              show Steps p.tables e below (T20.setTop (mkF m 193 #[.val (.int p0), .val (.int p1), .val (.int p2), .val (.int p3), .val (.int p0), .val (.int v15), .val (.int v18), .val (.int v23), .val (.long v24), .second, .val (.long v25), .second, .val (.long v26), .second, .val (.long v27), .second, .val (.int (1 : Int32)), .unset, .unset] [(.int (lcmpW v27 v24))])) _
              exact kk)
            by_cases hc131 : v27 < v24
            · have pre132 : ∀ t, Steps p.tables e below (T20.setTop (mkF m 218 #[.val (.int p0), .val (.int p1), .val (.int p2), .val (.int p3), .val (.int p0), .val (.int v15), .val (.int v18), .val (.int v23), .val (.long v24), .second, .val (.long v25), .second, .val (.long v26), .second, .val (.long v27), .second, .val (.int (1 : Int32)), .val (.int (0 : Int32)), .unset] [(.int (lcmpW v27 (0 : Int64)))])) t → Steps p.tables e below (s₁.setTop (entryFrame m #[(.int p0), (.int p1), (.int p2), (.int p3)] maxLocals)) t := fun t kk => pre130 t (by
                show Steps p.tables e below (T20.setTop (mkF m 193 #[.val (.int p0), .val (.int p1), .val (.int p2), .val (.int p3), .val (.int p0), .val (.int v15), .val (.int v18), .val (.int v23), .val (.long v24), .second, .val (.long v25), .second, .val (.long v26), .second, .val (.long v27), .second, .val (.int (1 : Int32)), .unset, .unset] [(.int (lcmpW v27 v24))])) _
                refine XS.ifYes X20.here hx rfl (pc0 := 193) (pc' := 211) rfl (hb hby at_193) rfl ((if0 _ _).trans (tlt ((lw_lt v27 v24).mpr hc131)).1) (by decide) (by decide) ?_
                show Steps p.tables e below (T20.setTop (mkF m 211 #[.val (.int p0), .val (.int p1), .val (.int p2), .val (.int p3), .val (.int p0), .val (.int v15), .val (.int v18), .val (.int v23), .val (.long v24), .second, .val (.long v25), .second, .val (.long v26), .second, .val (.long v27), .second, .val (.int (1 : Int32)), .unset, .unset] [])) _
                refine XS.iconst X20.here hx rfl (hb hby at_211) ?_
                show Steps p.tables e below (T20.setTop (mkF m 212 #[.val (.int p0), .val (.int p1), .val (.int p2), .val (.int p3), .val (.int p0), .val (.int v15), .val (.int v18), .val (.int v23), .val (.long v24), .second, .val (.long v25), .second, .val (.long v26), .second, .val (.long v27), .second, .val (.int (1 : Int32)), .unset, .unset] [(.int (0 : Int32))])) _
                refine XS.istore X20.here hx rfl (hb hby at_212) rfl (l' := #[.val (.int p0), .val (.int p1), .val (.int p2), .val (.int p3), .val (.int p0), .val (.int v15), .val (.int v18), .val (.int v23), .val (.long v24), .second, .val (.long v25), .second, .val (.long v26), .second, .val (.long v27), .second, .val (.int (1 : Int32)), .val (.int (0 : Int32)), .unset]) rfl ?_
                show Steps p.tables e below (T20.setTop (mkF m 214 #[.val (.int p0), .val (.int p1), .val (.int p2), .val (.int p3), .val (.int p0), .val (.int v15), .val (.int v18), .val (.int v23), .val (.long v24), .second, .val (.long v25), .second, .val (.long v26), .second, .val (.long v27), .second, .val (.int (1 : Int32)), .val (.int (0 : Int32)), .unset] [])) _
                refine XS.lload X20.here hx rfl (hb hby at_214) rfl ?_
                show Steps p.tables e below (T20.setTop (mkF m 216 #[.val (.int p0), .val (.int p1), .val (.int p2), .val (.int p3), .val (.int p0), .val (.int v15), .val (.int v18), .val (.int v23), .val (.long v24), .second, .val (.long v25), .second, .val (.long v26), .second, .val (.long v27), .second, .val (.int (1 : Int32)), .val (.int (0 : Int32)), .unset] [(.long v27)])) _
                refine XS.lconst X20.here hx rfl (hb hby at_216) ?_
                show Steps p.tables e below (T20.setTop (mkF m 217 #[.val (.int p0), .val (.int p1), .val (.int p2), .val (.int p3), .val (.int p0), .val (.int v15), .val (.int v18), .val (.int v23), .val (.long v24), .second, .val (.long v25), .second, .val (.long v26), .second, .val (.long v27), .second, .val (.int (1 : Int32)), .val (.int (0 : Int32)), .unset] [(.long (0 : Int64)), (.long v27)])) _
                refine XS.lcmp X20.here hx rfl (hb hby at_217) rfl ?_
                show Steps p.tables e below (T20.setTop (mkF m 218 #[.val (.int p0), .val (.int p1), .val (.int p2), .val (.int p3), .val (.int p0), .val (.int v15), .val (.int v18), .val (.int v23), .val (.long v24), .second, .val (.long v25), .second, .val (.long v26), .second, .val (.long v27), .second, .val (.int (1 : Int32)), .val (.int (0 : Int32)), .unset] [(.int (lcmpW v27 (0 : Int64)))])) _
                exact kk)
              by_cases hc133 : v27 = (0 : Int64)
              · exact (own_leaf0_52 p0 p1 p2 p3 v15 hv15 v18 hv18 v23 hv23 v24 hv24 v25 hv25 v26 hv26 v27 hv27 hc29 hc45 hc71 hc123 hc125 hc131 hc133).elim
              · have pre134 : ∀ t, Steps p.tables e below (T20.setTop (mkF m 228 #[.val (.int p0), .val (.int p1), .val (.int p2), .val (.int p3), .val (.int p0), .val (.int v15), .val (.int v18), .val (.int v23), .val (.long v24), .second, .val (.long v25), .second, .val (.long v26), .second, .val (.long v27), .second, .val (.int (1 : Int32)), .val (.int (0 : Int32)), .unset] [(.int (lcmpW (v27 - (1 : Int64)) v24))])) t → Steps p.tables e below (s₁.setTop (entryFrame m #[(.int p0), (.int p1), (.int p2), (.int p3)] maxLocals)) t := fun t kk => pre132 t (by
                  show Steps p.tables e below (T20.setTop (mkF m 218 #[.val (.int p0), .val (.int p1), .val (.int p2), .val (.int p3), .val (.int p0), .val (.int v15), .val (.int v18), .val (.int v23), .val (.long v24), .second, .val (.long v25), .second, .val (.long v26), .second, .val (.long v27), .second, .val (.int (1 : Int32)), .val (.int (0 : Int32)), .unset] [(.int (lcmpW v27 (0 : Int64)))])) _
                  refine XS.ifNo X20.here hx rfl (hb hby at_218) rfl ((if0 _ _).trans (feq (mt (lw_eq v27 (0 : Int64)).mp hc133)).1) ?_
                  show Steps p.tables e below (T20.setTop (mkF m 221 #[.val (.int p0), .val (.int p1), .val (.int p2), .val (.int p3), .val (.int p0), .val (.int v15), .val (.int v18), .val (.int v23), .val (.long v24), .second, .val (.long v25), .second, .val (.long v26), .second, .val (.long v27), .second, .val (.int (1 : Int32)), .val (.int (0 : Int32)), .unset] [])) _
                  refine XS.lload X20.here hx rfl (hb hby at_221) rfl ?_
                  show Steps p.tables e below (T20.setTop (mkF m 223 #[.val (.int p0), .val (.int p1), .val (.int p2), .val (.int p3), .val (.int p0), .val (.int v15), .val (.int v18), .val (.int v23), .val (.long v24), .second, .val (.long v25), .second, .val (.long v26), .second, .val (.long v27), .second, .val (.int (1 : Int32)), .val (.int (0 : Int32)), .unset] [(.long v27)])) _
                  refine XS.lconst X20.here hx rfl (hb hby at_223) ?_
                  show Steps p.tables e below (T20.setTop (mkF m 224 #[.val (.int p0), .val (.int p1), .val (.int p2), .val (.int p3), .val (.int p0), .val (.int v15), .val (.int v18), .val (.int v23), .val (.long v24), .second, .val (.long v25), .second, .val (.long v26), .second, .val (.long v27), .second, .val (.int (1 : Int32)), .val (.int (0 : Int32)), .unset] [(.long (1 : Int64)), (.long v27)])) _
                  refine XS.lsub X20.here hx rfl (hb hby at_224) rfl ?_
                  show Steps p.tables e below (T20.setTop (mkF m 225 #[.val (.int p0), .val (.int p1), .val (.int p2), .val (.int p3), .val (.int p0), .val (.int v15), .val (.int v18), .val (.int v23), .val (.long v24), .second, .val (.long v25), .second, .val (.long v26), .second, .val (.long v27), .second, .val (.int (1 : Int32)), .val (.int (0 : Int32)), .unset] [(.long (v27 - (1 : Int64)))])) _
                  refine XS.lload X20.here hx rfl (hb hby at_225) rfl ?_
                  show Steps p.tables e below (T20.setTop (mkF m 227 #[.val (.int p0), .val (.int p1), .val (.int p2), .val (.int p3), .val (.int p0), .val (.int v15), .val (.int v18), .val (.int v23), .val (.long v24), .second, .val (.long v25), .second, .val (.long v26), .second, .val (.long v27), .second, .val (.int (1 : Int32)), .val (.int (0 : Int32)), .unset] [(.long v24), (.long (v27 - (1 : Int64)))])) _
                  refine XS.lcmp X20.here hx rfl (hb hby at_227) rfl ?_
                  show Steps p.tables e below (T20.setTop (mkF m 228 #[.val (.int p0), .val (.int p1), .val (.int p2), .val (.int p3), .val (.int p0), .val (.int v15), .val (.int v18), .val (.int v23), .val (.long v24), .second, .val (.long v25), .second, .val (.long v26), .second, .val (.long v27), .second, .val (.int (1 : Int32)), .val (.int (0 : Int32)), .unset] [(.int (lcmpW (v27 - (1 : Int64)) v24))])) _
                  exact kk)
                by_cases hc135 : (v27 - (1 : Int64)) < v24
                · exact (own_leaf0_53 p0 p1 p2 p3 v15 hv15 v18 hv18 v23 hv23 v24 hv24 v25 hv25 v26 hv26 v27 hv27 hc29 hc45 hc71 hc123 hc125 hc131 hc133 hc135).elim
                · exact (own_leaf0_54 p0 p1 p2 p3 v15 hv15 v18 hv18 v23 hv23 v24 hv24 v25 hv25 v26 hv26 v27 hv27 hc29 hc45 hc71 hc123 hc125 hc131 hc133 hc135).elim
            · have pre136 : ∀ t, Steps p.tables e below (T20.setTop (mkF m 204 #[.val (.int p0), .val (.int p1), .val (.int p2), .val (.int p3), .val (.int p0), .val (.int v15), .val (.int v18), .val (.int v23), .val (.long v24), .second, .val (.long v25), .second, .val (.long v26), .second, .val (.long v27), .second, .val (.int (1 : Int32)), .unset, .unset] [(.int (lcmpW (v27 + v26) v25))])) t → Steps p.tables e below (s₁.setTop (entryFrame m #[(.int p0), (.int p1), (.int p2), (.int p3)] maxLocals)) t := fun t kk => pre130 t (by
                show Steps p.tables e below (T20.setTop (mkF m 193 #[.val (.int p0), .val (.int p1), .val (.int p2), .val (.int p3), .val (.int p0), .val (.int v15), .val (.int v18), .val (.int v23), .val (.long v24), .second, .val (.long v25), .second, .val (.long v26), .second, .val (.long v27), .second, .val (.int (1 : Int32)), .unset, .unset] [(.int (lcmpW v27 v24))])) _
                refine XS.ifNo X20.here hx rfl (hb hby at_193) rfl ((if0 _ _).trans (flt (mt (lw_lt v27 v24).mp hc131)).1) ?_
                show Steps p.tables e below (T20.setTop (mkF m 196 #[.val (.int p0), .val (.int p1), .val (.int p2), .val (.int p3), .val (.int p0), .val (.int v15), .val (.int v18), .val (.int v23), .val (.long v24), .second, .val (.long v25), .second, .val (.long v26), .second, .val (.long v27), .second, .val (.int (1 : Int32)), .unset, .unset] [])) _
                refine XS.lload X20.here hx rfl (hb hby at_196) rfl ?_
                show Steps p.tables e below (T20.setTop (mkF m 198 #[.val (.int p0), .val (.int p1), .val (.int p2), .val (.int p3), .val (.int p0), .val (.int v15), .val (.int v18), .val (.int v23), .val (.long v24), .second, .val (.long v25), .second, .val (.long v26), .second, .val (.long v27), .second, .val (.int (1 : Int32)), .unset, .unset] [(.long v27)])) _
                refine XS.lload X20.here hx rfl (hb hby at_198) rfl ?_
                show Steps p.tables e below (T20.setTop (mkF m 200 #[.val (.int p0), .val (.int p1), .val (.int p2), .val (.int p3), .val (.int p0), .val (.int v15), .val (.int v18), .val (.int v23), .val (.long v24), .second, .val (.long v25), .second, .val (.long v26), .second, .val (.long v27), .second, .val (.int (1 : Int32)), .unset, .unset] [(.long v26), (.long v27)])) _
                refine XS.ladd X20.here hx rfl (hb hby at_200) rfl ?_
                show Steps p.tables e below (T20.setTop (mkF m 201 #[.val (.int p0), .val (.int p1), .val (.int p2), .val (.int p3), .val (.int p0), .val (.int v15), .val (.int v18), .val (.int v23), .val (.long v24), .second, .val (.long v25), .second, .val (.long v26), .second, .val (.long v27), .second, .val (.int (1 : Int32)), .unset, .unset] [(.long (v27 + v26))])) _
                refine XS.lload X20.here hx rfl (hb hby at_201) rfl ?_
                show Steps p.tables e below (T20.setTop (mkF m 203 #[.val (.int p0), .val (.int p1), .val (.int p2), .val (.int p3), .val (.int p0), .val (.int v15), .val (.int v18), .val (.int v23), .val (.long v24), .second, .val (.long v25), .second, .val (.long v26), .second, .val (.long v27), .second, .val (.int (1 : Int32)), .unset, .unset] [(.long v25), (.long (v27 + v26))])) _
                refine XS.lcmp X20.here hx rfl (hb hby at_203) rfl ?_
                show Steps p.tables e below (T20.setTop (mkF m 204 #[.val (.int p0), .val (.int p1), .val (.int p2), .val (.int p3), .val (.int p0), .val (.int v15), .val (.int v18), .val (.int v23), .val (.long v24), .second, .val (.long v25), .second, .val (.long v26), .second, .val (.long v27), .second, .val (.int (1 : Int32)), .unset, .unset] [(.int (lcmpW (v27 + v26) v25))])) _
                exact kk)
              by_cases hc137 : v25 < (v27 + v26)
              · have pre138 : ∀ t, Steps p.tables e below (T20.setTop (mkF m 218 #[.val (.int p0), .val (.int p1), .val (.int p2), .val (.int p3), .val (.int p0), .val (.int v15), .val (.int v18), .val (.int v23), .val (.long v24), .second, .val (.long v25), .second, .val (.long v26), .second, .val (.long v27), .second, .val (.int (1 : Int32)), .val (.int (0 : Int32)), .unset] [(.int (lcmpW v27 (0 : Int64)))])) t → Steps p.tables e below (s₁.setTop (entryFrame m #[(.int p0), (.int p1), (.int p2), (.int p3)] maxLocals)) t := fun t kk => pre136 t (by
                  show Steps p.tables e below (T20.setTop (mkF m 204 #[.val (.int p0), .val (.int p1), .val (.int p2), .val (.int p3), .val (.int p0), .val (.int v15), .val (.int v18), .val (.int v23), .val (.long v24), .second, .val (.long v25), .second, .val (.long v26), .second, .val (.long v27), .second, .val (.int (1 : Int32)), .unset, .unset] [(.int (lcmpW (v27 + v26) v25))])) _
                  refine XS.ifYes X20.here hx rfl (pc0 := 204) (pc' := 211) rfl (hb hby at_204) rfl ((if0 _ _).trans (tlt ((lw_gt (v27 + v26) v25).mpr hc137)).2.2.1) (by decide) (by decide) ?_
                  show Steps p.tables e below (T20.setTop (mkF m 211 #[.val (.int p0), .val (.int p1), .val (.int p2), .val (.int p3), .val (.int p0), .val (.int v15), .val (.int v18), .val (.int v23), .val (.long v24), .second, .val (.long v25), .second, .val (.long v26), .second, .val (.long v27), .second, .val (.int (1 : Int32)), .unset, .unset] [])) _
                  refine XS.iconst X20.here hx rfl (hb hby at_211) ?_
                  show Steps p.tables e below (T20.setTop (mkF m 212 #[.val (.int p0), .val (.int p1), .val (.int p2), .val (.int p3), .val (.int p0), .val (.int v15), .val (.int v18), .val (.int v23), .val (.long v24), .second, .val (.long v25), .second, .val (.long v26), .second, .val (.long v27), .second, .val (.int (1 : Int32)), .unset, .unset] [(.int (0 : Int32))])) _
                  refine XS.istore X20.here hx rfl (hb hby at_212) rfl (l' := #[.val (.int p0), .val (.int p1), .val (.int p2), .val (.int p3), .val (.int p0), .val (.int v15), .val (.int v18), .val (.int v23), .val (.long v24), .second, .val (.long v25), .second, .val (.long v26), .second, .val (.long v27), .second, .val (.int (1 : Int32)), .val (.int (0 : Int32)), .unset]) rfl ?_
                  show Steps p.tables e below (T20.setTop (mkF m 214 #[.val (.int p0), .val (.int p1), .val (.int p2), .val (.int p3), .val (.int p0), .val (.int v15), .val (.int v18), .val (.int v23), .val (.long v24), .second, .val (.long v25), .second, .val (.long v26), .second, .val (.long v27), .second, .val (.int (1 : Int32)), .val (.int (0 : Int32)), .unset] [])) _
                  refine XS.lload X20.here hx rfl (hb hby at_214) rfl ?_
                  show Steps p.tables e below (T20.setTop (mkF m 216 #[.val (.int p0), .val (.int p1), .val (.int p2), .val (.int p3), .val (.int p0), .val (.int v15), .val (.int v18), .val (.int v23), .val (.long v24), .second, .val (.long v25), .second, .val (.long v26), .second, .val (.long v27), .second, .val (.int (1 : Int32)), .val (.int (0 : Int32)), .unset] [(.long v27)])) _
                  refine XS.lconst X20.here hx rfl (hb hby at_216) ?_
                  show Steps p.tables e below (T20.setTop (mkF m 217 #[.val (.int p0), .val (.int p1), .val (.int p2), .val (.int p3), .val (.int p0), .val (.int v15), .val (.int v18), .val (.int v23), .val (.long v24), .second, .val (.long v25), .second, .val (.long v26), .second, .val (.long v27), .second, .val (.int (1 : Int32)), .val (.int (0 : Int32)), .unset] [(.long (0 : Int64)), (.long v27)])) _
                  refine XS.lcmp X20.here hx rfl (hb hby at_217) rfl ?_
                  show Steps p.tables e below (T20.setTop (mkF m 218 #[.val (.int p0), .val (.int p1), .val (.int p2), .val (.int p3), .val (.int p0), .val (.int v15), .val (.int v18), .val (.int v23), .val (.long v24), .second, .val (.long v25), .second, .val (.long v26), .second, .val (.long v27), .second, .val (.int (1 : Int32)), .val (.int (0 : Int32)), .unset] [(.int (lcmpW v27 (0 : Int64)))])) _
                  exact kk)
                by_cases hc139 : v27 = (0 : Int64)
                · exact (own_leaf0_55 p0 p1 p2 p3 v15 hv15 v18 hv18 v23 hv23 v24 hv24 v25 hv25 v26 hv26 v27 hv27 hc29 hc45 hc71 hc123 hc125 hc131 hc137 hc139).elim
                · have pre140 : ∀ t, Steps p.tables e below (T20.setTop (mkF m 228 #[.val (.int p0), .val (.int p1), .val (.int p2), .val (.int p3), .val (.int p0), .val (.int v15), .val (.int v18), .val (.int v23), .val (.long v24), .second, .val (.long v25), .second, .val (.long v26), .second, .val (.long v27), .second, .val (.int (1 : Int32)), .val (.int (0 : Int32)), .unset] [(.int (lcmpW (v27 - (1 : Int64)) v24))])) t → Steps p.tables e below (s₁.setTop (entryFrame m #[(.int p0), (.int p1), (.int p2), (.int p3)] maxLocals)) t := fun t kk => pre138 t (by
                    show Steps p.tables e below (T20.setTop (mkF m 218 #[.val (.int p0), .val (.int p1), .val (.int p2), .val (.int p3), .val (.int p0), .val (.int v15), .val (.int v18), .val (.int v23), .val (.long v24), .second, .val (.long v25), .second, .val (.long v26), .second, .val (.long v27), .second, .val (.int (1 : Int32)), .val (.int (0 : Int32)), .unset] [(.int (lcmpW v27 (0 : Int64)))])) _
                    refine XS.ifNo X20.here hx rfl (hb hby at_218) rfl ((if0 _ _).trans (feq (mt (lw_eq v27 (0 : Int64)).mp hc139)).1) ?_
                    show Steps p.tables e below (T20.setTop (mkF m 221 #[.val (.int p0), .val (.int p1), .val (.int p2), .val (.int p3), .val (.int p0), .val (.int v15), .val (.int v18), .val (.int v23), .val (.long v24), .second, .val (.long v25), .second, .val (.long v26), .second, .val (.long v27), .second, .val (.int (1 : Int32)), .val (.int (0 : Int32)), .unset] [])) _
                    refine XS.lload X20.here hx rfl (hb hby at_221) rfl ?_
                    show Steps p.tables e below (T20.setTop (mkF m 223 #[.val (.int p0), .val (.int p1), .val (.int p2), .val (.int p3), .val (.int p0), .val (.int v15), .val (.int v18), .val (.int v23), .val (.long v24), .second, .val (.long v25), .second, .val (.long v26), .second, .val (.long v27), .second, .val (.int (1 : Int32)), .val (.int (0 : Int32)), .unset] [(.long v27)])) _
                    refine XS.lconst X20.here hx rfl (hb hby at_223) ?_
                    show Steps p.tables e below (T20.setTop (mkF m 224 #[.val (.int p0), .val (.int p1), .val (.int p2), .val (.int p3), .val (.int p0), .val (.int v15), .val (.int v18), .val (.int v23), .val (.long v24), .second, .val (.long v25), .second, .val (.long v26), .second, .val (.long v27), .second, .val (.int (1 : Int32)), .val (.int (0 : Int32)), .unset] [(.long (1 : Int64)), (.long v27)])) _
                    refine XS.lsub X20.here hx rfl (hb hby at_224) rfl ?_
                    show Steps p.tables e below (T20.setTop (mkF m 225 #[.val (.int p0), .val (.int p1), .val (.int p2), .val (.int p3), .val (.int p0), .val (.int v15), .val (.int v18), .val (.int v23), .val (.long v24), .second, .val (.long v25), .second, .val (.long v26), .second, .val (.long v27), .second, .val (.int (1 : Int32)), .val (.int (0 : Int32)), .unset] [(.long (v27 - (1 : Int64)))])) _
                    refine XS.lload X20.here hx rfl (hb hby at_225) rfl ?_
                    show Steps p.tables e below (T20.setTop (mkF m 227 #[.val (.int p0), .val (.int p1), .val (.int p2), .val (.int p3), .val (.int p0), .val (.int v15), .val (.int v18), .val (.int v23), .val (.long v24), .second, .val (.long v25), .second, .val (.long v26), .second, .val (.long v27), .second, .val (.int (1 : Int32)), .val (.int (0 : Int32)), .unset] [(.long v24), (.long (v27 - (1 : Int64)))])) _
                    refine XS.lcmp X20.here hx rfl (hb hby at_227) rfl ?_
                    show Steps p.tables e below (T20.setTop (mkF m 228 #[.val (.int p0), .val (.int p1), .val (.int p2), .val (.int p3), .val (.int p0), .val (.int v15), .val (.int v18), .val (.int v23), .val (.long v24), .second, .val (.long v25), .second, .val (.long v26), .second, .val (.long v27), .second, .val (.int (1 : Int32)), .val (.int (0 : Int32)), .unset] [(.int (lcmpW (v27 - (1 : Int64)) v24))])) _
                    exact kk)
                  by_cases hc141 : (v27 - (1 : Int64)) < v24
                  · exact (own_leaf0_56 p0 p1 p2 p3 v15 hv15 v18 hv18 v23 hv23 v24 hv24 v25 hv25 v26 hv26 v27 hv27 hc29 hc45 hc71 hc123 hc125 hc131 hc137 hc139 hc141).elim
                  · exact (own_leaf0_57 p0 p1 p2 p3 v15 hv15 v18 hv18 v23 hv23 v24 hv24 v25 hv25 v26 hv26 v27 hv27 hc29 hc45 hc71 hc123 hc125 hc131 hc137 hc139 hc141).elim
              · have pre142 : ∀ t, Steps p.tables e below (T20.setTop (mkF m 218 #[.val (.int p0), .val (.int p1), .val (.int p2), .val (.int p3), .val (.int p0), .val (.int v15), .val (.int v18), .val (.int v23), .val (.long v24), .second, .val (.long v25), .second, .val (.long v26), .second, .val (.long v27), .second, .val (.int (1 : Int32)), .val (.int (1 : Int32)), .unset] [(.int (lcmpW v27 (0 : Int64)))])) t → Steps p.tables e below (s₁.setTop (entryFrame m #[(.int p0), (.int p1), (.int p2), (.int p3)] maxLocals)) t := fun t kk => pre136 t (by
                  show Steps p.tables e below (T20.setTop (mkF m 204 #[.val (.int p0), .val (.int p1), .val (.int p2), .val (.int p3), .val (.int p0), .val (.int v15), .val (.int v18), .val (.int v23), .val (.long v24), .second, .val (.long v25), .second, .val (.long v26), .second, .val (.long v27), .second, .val (.int (1 : Int32)), .unset, .unset] [(.int (lcmpW (v27 + v26) v25))])) _
                  refine XS.ifNo X20.here hx rfl (hb hby at_204) rfl ((if0 _ _).trans (flt (mt (lw_gt (v27 + v26) v25).mp hc137)).2.2.1) ?_
                  show Steps p.tables e below (T20.setTop (mkF m 207 #[.val (.int p0), .val (.int p1), .val (.int p2), .val (.int p3), .val (.int p0), .val (.int v15), .val (.int v18), .val (.int v23), .val (.long v24), .second, .val (.long v25), .second, .val (.long v26), .second, .val (.long v27), .second, .val (.int (1 : Int32)), .unset, .unset] [])) _
                  refine XS.iconst X20.here hx rfl (hb hby at_207) ?_
                  show Steps p.tables e below (T20.setTop (mkF m 208 #[.val (.int p0), .val (.int p1), .val (.int p2), .val (.int p3), .val (.int p0), .val (.int v15), .val (.int v18), .val (.int v23), .val (.long v24), .second, .val (.long v25), .second, .val (.long v26), .second, .val (.long v27), .second, .val (.int (1 : Int32)), .unset, .unset] [(.int (1 : Int32))])) _
                  refine XS.goto X20.here hx rfl (pc0 := 208) (pc' := 212) rfl (hb hby at_208) (by decide) (by decide) ?_
                  show Steps p.tables e below (T20.setTop (mkF m 212 #[.val (.int p0), .val (.int p1), .val (.int p2), .val (.int p3), .val (.int p0), .val (.int v15), .val (.int v18), .val (.int v23), .val (.long v24), .second, .val (.long v25), .second, .val (.long v26), .second, .val (.long v27), .second, .val (.int (1 : Int32)), .unset, .unset] [(.int (1 : Int32))])) _
                  refine XS.istore X20.here hx rfl (hb hby at_212) rfl (l' := #[.val (.int p0), .val (.int p1), .val (.int p2), .val (.int p3), .val (.int p0), .val (.int v15), .val (.int v18), .val (.int v23), .val (.long v24), .second, .val (.long v25), .second, .val (.long v26), .second, .val (.long v27), .second, .val (.int (1 : Int32)), .val (.int (1 : Int32)), .unset]) rfl ?_
                  show Steps p.tables e below (T20.setTop (mkF m 214 #[.val (.int p0), .val (.int p1), .val (.int p2), .val (.int p3), .val (.int p0), .val (.int v15), .val (.int v18), .val (.int v23), .val (.long v24), .second, .val (.long v25), .second, .val (.long v26), .second, .val (.long v27), .second, .val (.int (1 : Int32)), .val (.int (1 : Int32)), .unset] [])) _
                  refine XS.lload X20.here hx rfl (hb hby at_214) rfl ?_
                  show Steps p.tables e below (T20.setTop (mkF m 216 #[.val (.int p0), .val (.int p1), .val (.int p2), .val (.int p3), .val (.int p0), .val (.int v15), .val (.int v18), .val (.int v23), .val (.long v24), .second, .val (.long v25), .second, .val (.long v26), .second, .val (.long v27), .second, .val (.int (1 : Int32)), .val (.int (1 : Int32)), .unset] [(.long v27)])) _
                  refine XS.lconst X20.here hx rfl (hb hby at_216) ?_
                  show Steps p.tables e below (T20.setTop (mkF m 217 #[.val (.int p0), .val (.int p1), .val (.int p2), .val (.int p3), .val (.int p0), .val (.int v15), .val (.int v18), .val (.int v23), .val (.long v24), .second, .val (.long v25), .second, .val (.long v26), .second, .val (.long v27), .second, .val (.int (1 : Int32)), .val (.int (1 : Int32)), .unset] [(.long (0 : Int64)), (.long v27)])) _
                  refine XS.lcmp X20.here hx rfl (hb hby at_217) rfl ?_
                  show Steps p.tables e below (T20.setTop (mkF m 218 #[.val (.int p0), .val (.int p1), .val (.int p2), .val (.int p3), .val (.int p0), .val (.int v15), .val (.int v18), .val (.int v23), .val (.long v24), .second, .val (.long v25), .second, .val (.long v26), .second, .val (.long v27), .second, .val (.int (1 : Int32)), .val (.int (1 : Int32)), .unset] [(.int (lcmpW v27 (0 : Int64)))])) _
                  exact kk)
                by_cases hc143 : v27 = (0 : Int64)
                · obtain ⟨fs, hr, hrun, hended, hW, hsame⟩ := X20.leave (v := some (.int (1 : Int32))) (fun h => by rw [Bd.returns] at h; cases h)
                  refine ⟨_, _, pre142 _ ?_, hrun, hended, _, _, rfl, ?_, ⟨_, rfl⟩, hW, hsame.mono (by decide) (by decide)⟩
                  · show Steps p.tables e below (T20.setTop (mkF m 218 #[.val (.int p0), .val (.int p1), .val (.int p2), .val (.int p3), .val (.int p0), .val (.int v15), .val (.int v18), .val (.int v23), .val (.long v24), .second, .val (.long v25), .second, .val (.long v26), .second, .val (.long v27), .second, .val (.int (1 : Int32)), .val (.int (1 : Int32)), .unset] [(.int (lcmpW v27 (0 : Int64)))])) _
                    refine XS.ifYes X20.here hx rfl (pc0 := 218) (pc' := 231) rfl (hb hby at_218) rfl ((if0 _ _).trans (teq ((lw_eq v27 (0 : Int64)).mpr hc143)).1) (by decide) (by decide) ?_
                    show Steps p.tables e below (T20.setTop (mkF m 231 #[.val (.int p0), .val (.int p1), .val (.int p2), .val (.int p3), .val (.int p0), .val (.int v15), .val (.int v18), .val (.int v23), .val (.long v24), .second, .val (.long v25), .second, .val (.long v26), .second, .val (.long v27), .second, .val (.int (1 : Int32)), .val (.int (1 : Int32)), .unset] [])) _
                    refine XS.iconst X20.here hx rfl (hb hby at_231) ?_
                    show Steps p.tables e below (T20.setTop (mkF m 232 #[.val (.int p0), .val (.int p1), .val (.int p2), .val (.int p3), .val (.int p0), .val (.int v15), .val (.int v18), .val (.int v23), .val (.long v24), .second, .val (.long v25), .second, .val (.long v26), .second, .val (.long v27), .second, .val (.int (1 : Int32)), .val (.int (1 : Int32)), .unset] [(.int (1 : Int32))])) _
                    refine XS.goto X20.here hx rfl (pc0 := 232) (pc' := 236) rfl (hb hby at_232) (by decide) (by decide) ?_
                    show Steps p.tables e below (T20.setTop (mkF m 236 #[.val (.int p0), .val (.int p1), .val (.int p2), .val (.int p3), .val (.int p0), .val (.int v15), .val (.int v18), .val (.int v23), .val (.long v24), .second, .val (.long v25), .second, .val (.long v26), .second, .val (.long v27), .second, .val (.int (1 : Int32)), .val (.int (1 : Int32)), .unset] [(.int (1 : Int32))])) _
                    refine XS.istore X20.here hx rfl (hb hby at_236) rfl (l' := #[.val (.int p0), .val (.int p1), .val (.int p2), .val (.int p3), .val (.int p0), .val (.int v15), .val (.int v18), .val (.int v23), .val (.long v24), .second, .val (.long v25), .second, .val (.long v26), .second, .val (.long v27), .second, .val (.int (1 : Int32)), .val (.int (1 : Int32)), .val (.int (1 : Int32))]) rfl ?_
                    show Steps p.tables e below (T20.setTop (mkF m 238 #[.val (.int p0), .val (.int p1), .val (.int p2), .val (.int p3), .val (.int p0), .val (.int v15), .val (.int v18), .val (.int v23), .val (.long v24), .second, .val (.long v25), .second, .val (.long v26), .second, .val (.long v27), .second, .val (.int (1 : Int32)), .val (.int (1 : Int32)), .val (.int (1 : Int32))] [])) _
                    refine XS.iload X20.here hx rfl (hb hby at_238) rfl ?_
                    show Steps p.tables e below (T20.setTop (mkF m 240 #[.val (.int p0), .val (.int p1), .val (.int p2), .val (.int p3), .val (.int p0), .val (.int v15), .val (.int v18), .val (.int v23), .val (.long v24), .second, .val (.long v25), .second, .val (.long v26), .second, .val (.long v27), .second, .val (.int (1 : Int32)), .val (.int (1 : Int32)), .val (.int (1 : Int32))] [(.int (1 : Int32))])) _
                    refine XS.ifNo X20.here hx rfl (hb hby at_240) rfl ((if0 _ _).trans (feq (by decide : ¬ ((1 : Int32) = (0 : Int32)))).1) ?_
                    show Steps p.tables e below (T20.setTop (mkF m 243 #[.val (.int p0), .val (.int p1), .val (.int p2), .val (.int p3), .val (.int p0), .val (.int v15), .val (.int v18), .val (.int v23), .val (.long v24), .second, .val (.long v25), .second, .val (.long v26), .second, .val (.long v27), .second, .val (.int (1 : Int32)), .val (.int (1 : Int32)), .val (.int (1 : Int32))] [])) _
                    refine XS.iload X20.here hx rfl (hb hby at_243) rfl ?_
                    show Steps p.tables e below (T20.setTop (mkF m 245 #[.val (.int p0), .val (.int p1), .val (.int p2), .val (.int p3), .val (.int p0), .val (.int v15), .val (.int v18), .val (.int v23), .val (.long v24), .second, .val (.long v25), .second, .val (.long v26), .second, .val (.long v27), .second, .val (.int (1 : Int32)), .val (.int (1 : Int32)), .val (.int (1 : Int32))] [(.int (1 : Int32))])) _
                    refine XS.ifNo X20.here hx rfl (hb hby at_245) rfl ((if0 _ _).trans (feq (by decide : ¬ ((1 : Int32) = (0 : Int32)))).1) ?_
                    show Steps p.tables e below (T20.setTop (mkF m 248 #[.val (.int p0), .val (.int p1), .val (.int p2), .val (.int p3), .val (.int p0), .val (.int v15), .val (.int v18), .val (.int v23), .val (.long v24), .second, .val (.long v25), .second, .val (.long v26), .second, .val (.long v27), .second, .val (.int (1 : Int32)), .val (.int (1 : Int32)), .val (.int (1 : Int32))] [])) _
                    refine XS.iload X20.here hx rfl (hb hby at_248) rfl ?_
                    show Steps p.tables e below (T20.setTop (mkF m 250 #[.val (.int p0), .val (.int p1), .val (.int p2), .val (.int p3), .val (.int p0), .val (.int v15), .val (.int v18), .val (.int v23), .val (.long v24), .second, .val (.long v25), .second, .val (.long v26), .second, .val (.long v27), .second, .val (.int (1 : Int32)), .val (.int (1 : Int32)), .val (.int (1 : Int32))] [(.int (1 : Int32))])) _
                    refine XS.ifNo X20.here hx rfl (hb hby at_250) rfl ((if0 _ _).trans (feq (by decide : ¬ ((1 : Int32) = (0 : Int32)))).1) ?_
                    show Steps p.tables e below (T20.setTop (mkF m 253 #[.val (.int p0), .val (.int p1), .val (.int p2), .val (.int p3), .val (.int p0), .val (.int v15), .val (.int v18), .val (.int v23), .val (.long v24), .second, .val (.long v25), .second, .val (.long v26), .second, .val (.long v27), .second, .val (.int (1 : Int32)), .val (.int (1 : Int32)), .val (.int (1 : Int32))] [])) _
                    refine XS.iconst X20.here hx rfl (hb hby at_253) ?_
                    show Steps p.tables e below (T20.setTop (mkF m 254 #[.val (.int p0), .val (.int p1), .val (.int p2), .val (.int p3), .val (.int p0), .val (.int v15), .val (.int v18), .val (.int v23), .val (.long v24), .second, .val (.long v25), .second, .val (.long v26), .second, .val (.long v27), .second, .val (.int (1 : Int32)), .val (.int (1 : Int32)), .val (.int (1 : Int32))] [(.int (1 : Int32))])) _
                    refine XS.goto X20.here hx rfl (pc0 := 254) (pc' := 258) rfl (hb hby at_254) (by decide) (by decide) ?_
                    show Steps p.tables e below (T20.setTop (mkF m 258 #[.val (.int p0), .val (.int p1), .val (.int p2), .val (.int p3), .val (.int p0), .val (.int v15), .val (.int v18), .val (.int v23), .val (.long v24), .second, .val (.long v25), .second, .val (.long v26), .second, .val (.long v27), .second, .val (.int (1 : Int32)), .val (.int (1 : Int32)), .val (.int (1 : Int32))] [(.int (1 : Int32))])) _
                    exact retN X20 hx (t := .boolean) Bd.returns (by simp) (hb hby at_258) hr
                  · show own_Q0 Z p0 p1 p2 p3 h0 n0 _ T20.heap _
                    rw [e22]
                    exact ⟨rfl, N21⟩
                · have pre144 : ∀ t, Steps p.tables e below (T20.setTop (mkF m 228 #[.val (.int p0), .val (.int p1), .val (.int p2), .val (.int p3), .val (.int p0), .val (.int v15), .val (.int v18), .val (.int v23), .val (.long v24), .second, .val (.long v25), .second, .val (.long v26), .second, .val (.long v27), .second, .val (.int (1 : Int32)), .val (.int (1 : Int32)), .unset] [(.int (lcmpW (v27 - (1 : Int64)) v24))])) t → Steps p.tables e below (s₁.setTop (entryFrame m #[(.int p0), (.int p1), (.int p2), (.int p3)] maxLocals)) t := fun t kk => pre142 t (by
                    show Steps p.tables e below (T20.setTop (mkF m 218 #[.val (.int p0), .val (.int p1), .val (.int p2), .val (.int p3), .val (.int p0), .val (.int v15), .val (.int v18), .val (.int v23), .val (.long v24), .second, .val (.long v25), .second, .val (.long v26), .second, .val (.long v27), .second, .val (.int (1 : Int32)), .val (.int (1 : Int32)), .unset] [(.int (lcmpW v27 (0 : Int64)))])) _
                    refine XS.ifNo X20.here hx rfl (hb hby at_218) rfl ((if0 _ _).trans (feq (mt (lw_eq v27 (0 : Int64)).mp hc143)).1) ?_
                    show Steps p.tables e below (T20.setTop (mkF m 221 #[.val (.int p0), .val (.int p1), .val (.int p2), .val (.int p3), .val (.int p0), .val (.int v15), .val (.int v18), .val (.int v23), .val (.long v24), .second, .val (.long v25), .second, .val (.long v26), .second, .val (.long v27), .second, .val (.int (1 : Int32)), .val (.int (1 : Int32)), .unset] [])) _
                    refine XS.lload X20.here hx rfl (hb hby at_221) rfl ?_
                    show Steps p.tables e below (T20.setTop (mkF m 223 #[.val (.int p0), .val (.int p1), .val (.int p2), .val (.int p3), .val (.int p0), .val (.int v15), .val (.int v18), .val (.int v23), .val (.long v24), .second, .val (.long v25), .second, .val (.long v26), .second, .val (.long v27), .second, .val (.int (1 : Int32)), .val (.int (1 : Int32)), .unset] [(.long v27)])) _
                    refine XS.lconst X20.here hx rfl (hb hby at_223) ?_
                    show Steps p.tables e below (T20.setTop (mkF m 224 #[.val (.int p0), .val (.int p1), .val (.int p2), .val (.int p3), .val (.int p0), .val (.int v15), .val (.int v18), .val (.int v23), .val (.long v24), .second, .val (.long v25), .second, .val (.long v26), .second, .val (.long v27), .second, .val (.int (1 : Int32)), .val (.int (1 : Int32)), .unset] [(.long (1 : Int64)), (.long v27)])) _
                    refine XS.lsub X20.here hx rfl (hb hby at_224) rfl ?_
                    show Steps p.tables e below (T20.setTop (mkF m 225 #[.val (.int p0), .val (.int p1), .val (.int p2), .val (.int p3), .val (.int p0), .val (.int v15), .val (.int v18), .val (.int v23), .val (.long v24), .second, .val (.long v25), .second, .val (.long v26), .second, .val (.long v27), .second, .val (.int (1 : Int32)), .val (.int (1 : Int32)), .unset] [(.long (v27 - (1 : Int64)))])) _
                    refine XS.lload X20.here hx rfl (hb hby at_225) rfl ?_
                    show Steps p.tables e below (T20.setTop (mkF m 227 #[.val (.int p0), .val (.int p1), .val (.int p2), .val (.int p3), .val (.int p0), .val (.int v15), .val (.int v18), .val (.int v23), .val (.long v24), .second, .val (.long v25), .second, .val (.long v26), .second, .val (.long v27), .second, .val (.int (1 : Int32)), .val (.int (1 : Int32)), .unset] [(.long v24), (.long (v27 - (1 : Int64)))])) _
                    refine XS.lcmp X20.here hx rfl (hb hby at_227) rfl ?_
                    show Steps p.tables e below (T20.setTop (mkF m 228 #[.val (.int p0), .val (.int p1), .val (.int p2), .val (.int p3), .val (.int p0), .val (.int v15), .val (.int v18), .val (.int v23), .val (.long v24), .second, .val (.long v25), .second, .val (.long v26), .second, .val (.long v27), .second, .val (.int (1 : Int32)), .val (.int (1 : Int32)), .unset] [(.int (lcmpW (v27 - (1 : Int64)) v24))])) _
                    exact kk)
                  by_cases hc145 : (v27 - (1 : Int64)) < v24
                  · obtain ⟨fs, hr, hrun, hended, hW, hsame⟩ := X20.leave (v := some (.int (1 : Int32))) (fun h => by rw [Bd.returns] at h; cases h)
                    refine ⟨_, _, pre144 _ ?_, hrun, hended, _, _, rfl, ?_, ⟨_, rfl⟩, hW, hsame.mono (by decide) (by decide)⟩
                    · show Steps p.tables e below (T20.setTop (mkF m 228 #[.val (.int p0), .val (.int p1), .val (.int p2), .val (.int p3), .val (.int p0), .val (.int v15), .val (.int v18), .val (.int v23), .val (.long v24), .second, .val (.long v25), .second, .val (.long v26), .second, .val (.long v27), .second, .val (.int (1 : Int32)), .val (.int (1 : Int32)), .unset] [(.int (lcmpW (v27 - (1 : Int64)) v24))])) _
                      refine XS.ifNo X20.here hx rfl (hb hby at_228) rfl ((if0 _ _).trans (tlt ((lw_lt (v27 - (1 : Int64)) v24).mpr hc145)).2.1) ?_
                      show Steps p.tables e below (T20.setTop (mkF m 231 #[.val (.int p0), .val (.int p1), .val (.int p2), .val (.int p3), .val (.int p0), .val (.int v15), .val (.int v18), .val (.int v23), .val (.long v24), .second, .val (.long v25), .second, .val (.long v26), .second, .val (.long v27), .second, .val (.int (1 : Int32)), .val (.int (1 : Int32)), .unset] [])) _
                      refine XS.iconst X20.here hx rfl (hb hby at_231) ?_
                      show Steps p.tables e below (T20.setTop (mkF m 232 #[.val (.int p0), .val (.int p1), .val (.int p2), .val (.int p3), .val (.int p0), .val (.int v15), .val (.int v18), .val (.int v23), .val (.long v24), .second, .val (.long v25), .second, .val (.long v26), .second, .val (.long v27), .second, .val (.int (1 : Int32)), .val (.int (1 : Int32)), .unset] [(.int (1 : Int32))])) _
                      refine XS.goto X20.here hx rfl (pc0 := 232) (pc' := 236) rfl (hb hby at_232) (by decide) (by decide) ?_
                      show Steps p.tables e below (T20.setTop (mkF m 236 #[.val (.int p0), .val (.int p1), .val (.int p2), .val (.int p3), .val (.int p0), .val (.int v15), .val (.int v18), .val (.int v23), .val (.long v24), .second, .val (.long v25), .second, .val (.long v26), .second, .val (.long v27), .second, .val (.int (1 : Int32)), .val (.int (1 : Int32)), .unset] [(.int (1 : Int32))])) _
                      refine XS.istore X20.here hx rfl (hb hby at_236) rfl (l' := #[.val (.int p0), .val (.int p1), .val (.int p2), .val (.int p3), .val (.int p0), .val (.int v15), .val (.int v18), .val (.int v23), .val (.long v24), .second, .val (.long v25), .second, .val (.long v26), .second, .val (.long v27), .second, .val (.int (1 : Int32)), .val (.int (1 : Int32)), .val (.int (1 : Int32))]) rfl ?_
                      show Steps p.tables e below (T20.setTop (mkF m 238 #[.val (.int p0), .val (.int p1), .val (.int p2), .val (.int p3), .val (.int p0), .val (.int v15), .val (.int v18), .val (.int v23), .val (.long v24), .second, .val (.long v25), .second, .val (.long v26), .second, .val (.long v27), .second, .val (.int (1 : Int32)), .val (.int (1 : Int32)), .val (.int (1 : Int32))] [])) _
                      refine XS.iload X20.here hx rfl (hb hby at_238) rfl ?_
                      show Steps p.tables e below (T20.setTop (mkF m 240 #[.val (.int p0), .val (.int p1), .val (.int p2), .val (.int p3), .val (.int p0), .val (.int v15), .val (.int v18), .val (.int v23), .val (.long v24), .second, .val (.long v25), .second, .val (.long v26), .second, .val (.long v27), .second, .val (.int (1 : Int32)), .val (.int (1 : Int32)), .val (.int (1 : Int32))] [(.int (1 : Int32))])) _
                      refine XS.ifNo X20.here hx rfl (hb hby at_240) rfl ((if0 _ _).trans (feq (by decide : ¬ ((1 : Int32) = (0 : Int32)))).1) ?_
                      show Steps p.tables e below (T20.setTop (mkF m 243 #[.val (.int p0), .val (.int p1), .val (.int p2), .val (.int p3), .val (.int p0), .val (.int v15), .val (.int v18), .val (.int v23), .val (.long v24), .second, .val (.long v25), .second, .val (.long v26), .second, .val (.long v27), .second, .val (.int (1 : Int32)), .val (.int (1 : Int32)), .val (.int (1 : Int32))] [])) _
                      refine XS.iload X20.here hx rfl (hb hby at_243) rfl ?_
                      show Steps p.tables e below (T20.setTop (mkF m 245 #[.val (.int p0), .val (.int p1), .val (.int p2), .val (.int p3), .val (.int p0), .val (.int v15), .val (.int v18), .val (.int v23), .val (.long v24), .second, .val (.long v25), .second, .val (.long v26), .second, .val (.long v27), .second, .val (.int (1 : Int32)), .val (.int (1 : Int32)), .val (.int (1 : Int32))] [(.int (1 : Int32))])) _
                      refine XS.ifNo X20.here hx rfl (hb hby at_245) rfl ((if0 _ _).trans (feq (by decide : ¬ ((1 : Int32) = (0 : Int32)))).1) ?_
                      show Steps p.tables e below (T20.setTop (mkF m 248 #[.val (.int p0), .val (.int p1), .val (.int p2), .val (.int p3), .val (.int p0), .val (.int v15), .val (.int v18), .val (.int v23), .val (.long v24), .second, .val (.long v25), .second, .val (.long v26), .second, .val (.long v27), .second, .val (.int (1 : Int32)), .val (.int (1 : Int32)), .val (.int (1 : Int32))] [])) _
                      refine XS.iload X20.here hx rfl (hb hby at_248) rfl ?_
                      show Steps p.tables e below (T20.setTop (mkF m 250 #[.val (.int p0), .val (.int p1), .val (.int p2), .val (.int p3), .val (.int p0), .val (.int v15), .val (.int v18), .val (.int v23), .val (.long v24), .second, .val (.long v25), .second, .val (.long v26), .second, .val (.long v27), .second, .val (.int (1 : Int32)), .val (.int (1 : Int32)), .val (.int (1 : Int32))] [(.int (1 : Int32))])) _
                      refine XS.ifNo X20.here hx rfl (hb hby at_250) rfl ((if0 _ _).trans (feq (by decide : ¬ ((1 : Int32) = (0 : Int32)))).1) ?_
                      show Steps p.tables e below (T20.setTop (mkF m 253 #[.val (.int p0), .val (.int p1), .val (.int p2), .val (.int p3), .val (.int p0), .val (.int v15), .val (.int v18), .val (.int v23), .val (.long v24), .second, .val (.long v25), .second, .val (.long v26), .second, .val (.long v27), .second, .val (.int (1 : Int32)), .val (.int (1 : Int32)), .val (.int (1 : Int32))] [])) _
                      refine XS.iconst X20.here hx rfl (hb hby at_253) ?_
                      show Steps p.tables e below (T20.setTop (mkF m 254 #[.val (.int p0), .val (.int p1), .val (.int p2), .val (.int p3), .val (.int p0), .val (.int v15), .val (.int v18), .val (.int v23), .val (.long v24), .second, .val (.long v25), .second, .val (.long v26), .second, .val (.long v27), .second, .val (.int (1 : Int32)), .val (.int (1 : Int32)), .val (.int (1 : Int32))] [(.int (1 : Int32))])) _
                      refine XS.goto X20.here hx rfl (pc0 := 254) (pc' := 258) rfl (hb hby at_254) (by decide) (by decide) ?_
                      show Steps p.tables e below (T20.setTop (mkF m 258 #[.val (.int p0), .val (.int p1), .val (.int p2), .val (.int p3), .val (.int p0), .val (.int v15), .val (.int v18), .val (.int v23), .val (.long v24), .second, .val (.long v25), .second, .val (.long v26), .second, .val (.long v27), .second, .val (.int (1 : Int32)), .val (.int (1 : Int32)), .val (.int (1 : Int32))] [(.int (1 : Int32))])) _
                      exact retN X20 hx (t := .boolean) Bd.returns (by simp) (hb hby at_258) hr
                    · show own_Q0 Z p0 p1 p2 p3 h0 n0 _ T20.heap _
                      rw [e22]
                      exact ⟨rfl, N21⟩
                  · exact (own_leaf0_60 p0 p1 p2 p3 v15 hv15 v18 hv18 v23 hv23 v24 hv24 v25 hv25 v26 hv26 v27 hv27 hc29 hc45 hc71 hc123 hc125 hc131 hc137 hc143 hc145).elim
set_option maxRecDepth 65536 in
set_option maxHeartbeats 40000000 in
theorem comes_1 {Post : Tables → Env → Array Value → State → Outcome → State → Prop} (hpost : ∀ tb e args s v u, (limb_1_1.after args s (.returned v) u = true ∧ limb_1_2.after args s (.returned v) u = true ∧ True) → FrameEnd s (.returned v) u (Jvm.fieldLocs frame_1_writes args s ++ Jvm.arrayLocs frame_1_arrays args s ++ Jvm.staticLocs frame_1_statics s) 0 0 → Post tb e args s (.returned v) u) :
    ArmFor flags0 classFile x code maxLocals ret World_1 tables_1 room_1 Calls_1 rest_1 Pre_1 Post := by
  intro l hfl _ _ p e ha hc hk s m args below hf hA hF happ hP
  obtain ⟨hcalls, hrest, hpre⟩ := hP
  obtain ⟨-, -, -, hnamed, -, -, -, hat⟩ := (Spec.applies_iff hf).mp happ
  obtain ⟨hg, hn⟩ := and_e (Cond.before_iff.mp (show (Jvm.Cond.and given_1 narrow_1).before args s = true from hpre))
  obtain ⟨gg1, gg2⟩ := and_e hg
  obtain ⟨gg3, gg4⟩ := and_e gg2
  obtain ⟨gg5, gg6⟩ := and_e gg4
  obtain ⟨gg7, gg8⟩ := and_e gg6
  obtain ⟨w0, w1, w2, w3, rfl⟩ : ∃ w0 w1 w2 w3 : Value, args = #[w0, w1, w2, w3] := by
    have hs : args.size = 4 := by simpa [Cond.value, given_1] using gg1
    obtain ⟨L⟩ := args
    match L, hs with
    | [w0, w1, w2, w3], _ => exact ⟨w0, w1, w2, w3, rfl⟩
  have hw := fun d (hd : d ∈ tables_1) => atoms_spec (ws := Jvm.Cond.code x code maxLocals ret :: tables_1) hat d (List.mem_cons_of_mem _ hd)
  have hfit : Fit s := fun {y c} hc i hi => by
    obtain ⟨ha, rfl⟩ := Array.getElem?_eq_some_iff.mp hc
    have q := List.all_eq_true.mp ((Array.all_eq_true_iff_forall_mem.mp hF) _ (Array.getElem_mem ha)) i (List.mem_range.mpr hi)
    simpa [Array.getElem?_eq_getElem hi] using q
  obtain ⟨i0, ei0⟩ := is_v gg3
  obtain rfl : w0 = (.int i0) := Option.some.inj ei0
  obtain ⟨i1, ei1⟩ := is_v gg5
  obtain rfl : w1 = (.int i1) := Option.some.inj ei1
  obtain ⟨i2, ei2⟩ := is_v gg7
  obtain rfl : w2 = (.int i2) := Option.some.inj ei2
  obtain ⟨i3, ei3⟩ := is_v gg8
  obtain rfl : w3 = (.int i3) := Option.some.inj ei3
  obtain ⟨n, o, h1, h2, h3, _, L, rfl, ⟨rfl, N⟩, hq⟩ := own_rm0 l s _ hw tables_1 i0 i1 i2 i3 s.heap s.heap.size (Nat.le_refl _)  p e ha hc hk s m _ below hf ((Spec.applies_iff_loose hf).mp happ).1 ⟨rfl, State.Warmed39.refl s, rfl⟩ trivial
  refine ⟨n, _, h1, h2, h3, hpost _ _ _ _ _ _ ⟨Cond.after_iff.mpr rfl, Cond.after_iff.mpr (eq_i res_at (Term.int_eval (1)) rfl), trivial⟩ ⟨hq.1, hq.2.1, (hq.2.2.sift fun y hy => Or.inr (N y hy)).mono (by decide) (by decide)⟩⟩
theorem main_1_1 : Claimed_1_1 := comes_1 fun _ _ _ _ _ _ h hF => ⟨h.1, hF⟩
theorem main_1_2 : Claimed_1_2 := comes_1 fun _ _ _ _ _ _ h hF => ⟨h.2.1, hF⟩
end Jvm.Pilot.@@N@@
namespace Jvm.Pilot.@@N@@
open Jvm Jvm.ClassFile Sem Op Lib Jvm.Free Jvm.Stand Jvm.Pilot.@@N@@.Jvm.D
/-! MADE BY PROGRAM (witnessworld.py) out of the Statement's table words and the real class files: 10 classes; the members and pool entries that the words name. The judged class is class 1, her method 1. -/
namespace start1
open Jvm.ClassFile
def u (s : String) : CpInfo := .utf8 (stringToUtf16 s)
/-- a pool by its gaps: so many unusable entries, then the entry; so many at the end -/
def gap : Nat → List CpInfo → List CpInfo
  | 0, r => r
  | n + 1, r => .unusable :: gap n r
def poolList (es : List (Nat × CpInfo)) (last : Nat) : List CpInfo := es.foldr (fun e r => gap e.1 (e.2 :: r)) (gap last [])
def pool (es : List (Nat × CpInfo)) (last : Nat) : Array CpInfo := ⟨poolList es last⟩
def fileOf (pool : Array CpInfo) (this : Nat) (attrs : Array Attribute := #[]) (ms : Array MethodInfo := #[]) (fl : Nat := 33) (sup : Nat := 0) (ifs : Array Nat := #[]) (fds : Array FieldInfo := #[]) : ClassFile where
  minorVersion := 0
  majorVersion := 65
  constantPool := pool
  accessFlags := fl
  thisClass := this
  superClass := sup
  interfaces := ifs
  fields := fds
  methods := ms
  attributes := attrs
def plain (name : String) (sup : Option ClassId) : Class where
  name := name
  kind := .ordinary
  loader := none
  accessFlags := 33
  super := sup
  interfaces := #[]
  cf := none
  fields := #[]
  methods := #[]
  instanceTypes := #[]
  staticTypes := #[]
  resolved := #[]
  callSites := []
  init := .initialized
  statics := none
  mirror := none

def pool0 : Array CpInfo := pool [(5, u "<init>"), (0, u "()V"), (1, .class_ 10), (1, u "java/lang/Object")] 113

def k0m0 : Method := { name := "<init>", desc := "()V", sig := { parameters := [], returnType := none }, accessFlags := 1, code := none }
/-- java/lang/Object -/
def k0 : Class := { plain "java/lang/Object" none with
  accessFlags := 33
  interfaces := #[]
  cf := some (fileOf pool0 8 #[] #[{ accessFlags := 1, nameIndex := 5, descriptorIndex := 6, attributes := #[] }] 33 0 #[] #[])
  fields := #[]
  methods := #[k0m0]
  instanceTypes := #[]
  staticTypes := #[]
  resolved := Array.replicate 124 none
  statics := none }

def pool1 : Array CpInfo := pool [(2, .class_ 4), (1, u "java/lang/Object"), (0, u "<init>"), (0, u "()V"), (0, .integer 2147483647), (0, .methodref 9 10), (0, .class_ 11), (0, .nameAndType 12 13), (0, u "com/example/needlework/needlework/internal/SearchRange"), (0, u "firstStart"), (0, u "(III)I"), (0, .class_ 15), (0, u "com/example/needlework/needlework/internal/SearchRangeFirstStartPinLaw"), (2, u "law"), (0, u "(IIII)Z")] 3

def k1m0 : Method := { name := "<init>", desc := "()V", sig := { parameters := [], returnType := none }, accessFlags := 2, code := none }
def k1c1 : Code := { maxStack := 4, maxLocals := 19, code := code, exceptionTable := #[], attributes := #[] }
def k1m1 : Method := { name := "law", desc := "(IIII)Z", sig := { parameters := [.int, .int, .int, .int], returnType := some .boolean }, accessFlags := 9, code := some k1c1 }
/-- com/example/needlework/needlework/internal/SearchRangeFirstStartPinLaw -/
def k1 : Class := { plain "com/example/needlework/needlework/internal/SearchRangeFirstStartPinLaw" (some 0) with
  accessFlags := 49
  interfaces := #[]
  cf := some (fileOf pool1 14 #[] #[{ accessFlags := 2, nameIndex := 5, descriptorIndex := 6, attributes := #[] }, { accessFlags := 9, nameIndex := 18, descriptorIndex := 19, attributes := #[] }] 49 2 #[] #[])
  fields := #[]
  methods := #[k1m0, k1m1]
  instanceTypes := #[]
  staticTypes := #[]
  resolved := Array.replicate 23 none
  statics := none }

def pool2 : Array CpInfo := pool [(2, .class_ 4), (1, u "java/lang/Object"), (0, u "<init>"), (0, u "()V"), (0, .methodref 8 9), (0, .class_ 10), (0, .nameAndType 11 12), (0, u "java/lang/Math"), (0, u "max"), (0, u "(II)I"), (0, .methodref 8 14), (0, .nameAndType 15 12), (0, u "min"), (0, .class_ 17), (0, u "com/example/needlework/needlework/internal/SearchRange"), (0, u "NONE"), (0, u "I"), (4, u "firstStart"), (0, u "(III)I")] 3

def k2m0 : Method := { name := "<init>", desc := "()V", sig := { parameters := [], returnType := none }, accessFlags := 2, code := none }
def k2c1 : Code := { maxStack := 3, maxLocals := 4, code := prog_9_method_2_code, exceptionTable := #[], attributes := #[] }
def k2m1 : Method := { name := "firstStart", desc := "(III)I", sig := { parameters := [.int, .int, .int], returnType := some .int }, accessFlags := 9, code := some k2c1 }
/-- com/example/needlework/needlework/internal/SearchRange -/
def k2 : Class := { plain "com/example/needlework/needlework/internal/SearchRange" (some 0) with
  accessFlags := 49
  interfaces := #[]
  cf := some (fileOf pool2 16 #[] #[{ accessFlags := 2, nameIndex := 5, descriptorIndex := 6, attributes := #[] }, { accessFlags := 9, nameIndex := 24, descriptorIndex := 25, attributes := #[] }] 49 2 #[] #[{ accessFlags := 25, nameIndex := 18, descriptorIndex := 19, attributes := #[] }])
  fields := #[{ name := "NONE", type := .int, accessFlags := 25, slot := 0, constantValue := 0 }]
  methods := #[k2m0, k2m1]
  instanceTypes := #[]
  staticTypes := #[.int]
  resolved := Array.replicate 29 none
  statics := none }

def pool3 : Array CpInfo := pool [(1, .class_ 2), (0, u "java/lang/Math"), (1, .class_ 6), (1, u "java/lang/Object"), (0, u "<init>"), (0, u "()V"), (89, .class_ 100), (1, u "java/lang/Math$RandomNumberGeneratorHolder"), (71, u "negativeZeroFloatBits"), (0, u "J"), (2, u "negativeZeroDoubleBits"), (21, u "max"), (2, u "min"), (43, u "$assertionsDisabled"), (0, u "Z"), (88, u "(II)I"), (2, u "twoToTheDoubleScaleDown"), (0, u "D"), (4, u "twoToTheDoubleScaleUp"), (9, u "E"), (3, u "PI"), (2, u "TAU"), (2, u "DEGREES_TO_RADIANS"), (0, u "RADIANS_TO_DEGREES")] 94

def k3m0 : Method := { name := "<init>", desc := "()V", sig := { parameters := [], returnType := none }, accessFlags := 2, code := none }
def k3c1 : Code := { maxStack := 2, maxLocals := 2, code := jdk_29_method_65_code, exceptionTable := #[], attributes := #[] }
def k3m1 : Method := { name := "max", desc := "(II)I", sig := { parameters := [.int, .int], returnType := some .int }, accessFlags := 9, code := some k3c1 }
def k3c2 : Code := { maxStack := 2, maxLocals := 2, code := jdk_29_method_69_code, exceptionTable := #[], attributes := #[] }
def k3m2 : Method := { name := "min", desc := "(II)I", sig := { parameters := [.int, .int], returnType := some .int }, accessFlags := 9, code := some k3c2 }
/-- java/lang/Math -/
def k3 : Class := { plain "java/lang/Math" (some 0) with
  accessFlags := 49
  interfaces := #[]
  cf := some (fileOf pool3 1 #[.nestMembers #[98]] #[{ accessFlags := 2, nameIndex := 7, descriptorIndex := 8, attributes := #[] }, { accessFlags := 9, nameIndex := 198, descriptorIndex := 335, attributes := #[] }, { accessFlags := 9, nameIndex := 201, descriptorIndex := 335, attributes := #[] }] 49 4 #[] #[{ accessFlags := 25, nameIndex := 354, descriptorIndex := 339, attributes := #[] }, { accessFlags := 25, nameIndex := 358, descriptorIndex := 339, attributes := #[] }, { accessFlags := 25, nameIndex := 361, descriptorIndex := 339, attributes := #[] }, { accessFlags := 26, nameIndex := 364, descriptorIndex := 339, attributes := #[] }, { accessFlags := 26, nameIndex := 365, descriptorIndex := 339, attributes := #[] }, { accessFlags := 26, nameIndex := 172, descriptorIndex := 173, attributes := #[] }, { accessFlags := 26, nameIndex := 176, descriptorIndex := 173, attributes := #[] }, { accessFlags := 8, nameIndex := 344, descriptorIndex := 339, attributes := #[] }, { accessFlags := 8, nameIndex := 338, descriptorIndex := 339, attributes := #[] }, { accessFlags := 4120, nameIndex := 245, descriptorIndex := 246, attributes := #[] }])
  fields := #[{ name := "E", type := .double, accessFlags := 25, slot := 0, constantValue := 0 }, { name := "PI", type := .double, accessFlags := 25, slot := 1, constantValue := 0 }, { name := "TAU", type := .double, accessFlags := 25, slot := 2, constantValue := 0 }, { name := "DEGREES_TO_RADIANS", type := .double, accessFlags := 26, slot := 3, constantValue := 0 }, { name := "RADIANS_TO_DEGREES", type := .double, accessFlags := 26, slot := 4, constantValue := 0 }, { name := "negativeZeroFloatBits", type := .long, accessFlags := 26, slot := 5, constantValue := 0 }, { name := "negativeZeroDoubleBits", type := .long, accessFlags := 26, slot := 6, constantValue := 0 }, { name := "twoToTheDoubleScaleUp", type := .double, accessFlags := 8, slot := 7, constantValue := 0 }, { name := "twoToTheDoubleScaleDown", type := .double, accessFlags := 8, slot := 8, constantValue := 0 }, { name := "$assertionsDisabled", type := .boolean, accessFlags := 4120, slot := 9, constantValue := 0 }]
  methods := #[k3m0, k3m1, k3m2]
  instanceTypes := #[]
  staticTypes := #[.double, .double, .double, .double, .double, .long, .long, .double, .double, .boolean]
  resolved := Array.replicate 460 none
  statics := none }

def pool4 : Array CpInfo := pool [(1, u "java/lang/Cloneable"), (0, .class_ 1), (0, u "java/lang/Object"), (0, .class_ 3)] 3

/-- java/lang/Cloneable -/
def k4 : Class := { plain "java/lang/Cloneable" (some 0) with
  accessFlags := 1537
  interfaces := #[]
  cf := some (fileOf pool4 2 #[] #[] 1537 4 #[] #[])
  fields := #[]
  methods := #[]
  instanceTypes := #[]
  staticTypes := #[]
  resolved := Array.replicate 8 none
  statics := none }

def pool5 : Array CpInfo := pool [(1, u "java/io/Serializable"), (0, .class_ 1), (0, u "java/lang/Object"), (0, .class_ 3)] 3

/-- java/io/Serializable -/
def k5 : Class := { plain "java/io/Serializable" (some 0) with
  accessFlags := 1537
  interfaces := #[]
  cf := some (fileOf pool5 2 #[] #[] 1537 4 #[] #[])
  fields := #[]
  methods := #[]
  instanceTypes := #[]
  staticTypes := #[]
  resolved := Array.replicate 8 none
  statics := none }

/-- the primitive byte -/
def k6 : Class := { plain "byte" none with kind := .primitive 'B', accessFlags := 0x411 }
/-- [B -/
def k7 : Class := { plain "[B" (some 0) with kind := .array 6 .byte, interfaces := #[4, 5], accessFlags := 1041 }

/-- the primitive int -/
def k8 : Class := { plain "int" none with kind := .primitive 'I', accessFlags := 0x411 }
/-- [I -/
def k9 : Class := { plain "[I" (some 0) with kind := .array 8 .int, interfaces := #[4, 5], accessFlags := 1041 }

def heap : Heap := #[]
def classes : Array Class := #[k0, k1, k2, k3, k4, k5, k6, k7, k8, k9]
def interned : List (Array UInt16 × Addr) := []
def slotsUsed : Nat := 0
def theMethod : MethodId := ⟨1, 1⟩
def args0 : Array Value := #[.int 5, .int 7, .int 1, .int 3]
def aboutOver (below : List Frame) : State where
  vm := { classes := classes, interned := interned.toArray }
  heap := heap
  slotsUsed := slotsUsed
  threads := #[{ frames := .invoking theMethod args0 :: below }]
def below0 : List Frame := [.native { method := ⟨0, 0⟩, args := #[] }]
def about1 : State := aboutOver below0
def p0 : Program := .bare "" "" ""
def e0 : Env := launch0.env 0 0 0
theorem w_frames : about1.frames = Frame.invoking theMethod args0 :: below0 := rfl
set_option maxRecDepth 65536 in
theorem w_args : argsFit about1.vm theMethod args0 = true := by decide +kernel
set_option maxRecDepth 65536 in
theorem w_heap : heapFits about1 = true := by decide +kernel
set_option maxRecDepth 65536 in
theorem w_runnable : about1.curStatus? = some .runnable := by decide +kernel
set_option maxRecDepth 65536 in
theorem w_alone : about1.alone = true := by decide +kernel
set_option maxRecDepth 65536 in
theorem w_named : about1.methodNamed? x = some theMethod := by decide +kernel
set_option maxRecDepth 65536 in
theorem w_hears : about1.hears theMethod below0 = true := by decide +kernel
set_option maxRecDepth 65536 in
theorem w_ripe : about1.ripe theMethod args0 below0 = true := by decide +kernel
theorem w_running : about1.status = .running := rfl
set_option maxRecDepth 65536 in
theorem w_room : about1.hasRoom e0.platform room_1 = true :=
  launch0.hasRoom_least _ room_1 (by decide +kernel) (by decide +kernel) (by decide +kernel) (by decide +kernel) (by decide +kernel) (by decide +kernel)
theorem allAtoms_all (ts : List Jvm.Cond) (a : Array Jvm.Value) (st : Jvm.State) : (allAtoms ts).before a st = ts.all (fun c => c.before a st) := by
  induction ts with
  | nil => rfl
  | cons c t ih =>
    show (Jvm.Cond.and c (allAtoms t)).before a st = _
    rw [Jvm.Cond.before_and, ih, List.all_cons]
def words1 : List Jvm.Cond := Jvm.Cond.code x code maxLocals ret :: tables_1
/-- a 'code' word, met by the world's own term for the bytes: nothing is compared byte by byte -/
theorem code_word {y : MethodName} {bytes : ByteArray} {mx : Nat} {rt : Option FieldType} {a : Array Value} {s : State} {m : MethodId} {meth : Method} {c : Code} (h1 : s.methodNamed? y = some m) (h2 : s.vm.method? m = some meth) (h3 : meth.code = some c) (h4 : c.code = bytes)
    (h5 : (c.maxLocals == mx && c.exceptionTable.isEmpty && decide (c.maxStack ≤ mostOperands) && decide (meth.sig.returnType = rt) && !meth.locks && decide (parseMethodDescriptor y.desc = some meth.sig)) = true) : (Jvm.Cond.code y bytes mx rt).before a s = true := by
  simp only [Bool.and_eq_true, beq_iff_eq, Bool.not_eq_true', decide_eq_true_eq] at h5
  obtain ⟨⟨⟨⟨⟨g1, g2⟩, g3⟩, g4⟩, g5⟩, g6⟩ := h5
  simp [Cond.before, Cond.holds, Cond.value, h1, h2, h3, h4, g1, g2, g3, g4, g5, g6]
def isCode : Jvm.Cond → Bool
  | .code _ _ _ _ => true
  | _ => false
theorem all_split {L : List Jvm.Cond} {P : Jvm.Cond → Bool} (h1 : L.all (fun c => isCode c || P c) = true) (h2 : ∀ c ∈ L.filter isCode, P c = true) : L.all P = true := by
  refine List.all_eq_true.mpr fun c hc => ?_
  have h := List.all_eq_true.mp h1 c hc
  rcases Bool.eq_false_or_eq_true (isCode c) with hi | hi
  · exact h2 c (List.mem_filter.mpr ⟨hc, hi⟩)
  · simpa [hi] using h
set_option maxRecDepth 65536 in
theorem w_c0 : (Jvm.Cond.code x code maxLocals ret).before args0 about1 = true := code_word (m := ⟨1, 1⟩) (meth := k1m1) (c := k1c1) (by decide +kernel) rfl rfl rfl (by decide +kernel)
set_option maxRecDepth 65536 in
theorem w_c1 : (Jvm.Cond.code ({ cls := "com/example/needlework/needlework/internal/SearchRange", name := "firstStart", desc := "(III)I" } : Jvm.MethodName) prog_9_method_2_code (4 : Nat) (Option.some Jvm.ClassFile.FieldType.int)).before args0 about1 = true := code_word (m := ⟨2, 1⟩) (meth := k2m1) (c := k2c1) (by decide +kernel) rfl rfl rfl (by decide +kernel)
set_option maxRecDepth 65536 in
theorem w_c2 : (Jvm.Cond.code ({ cls := "java/lang/Math", name := "max", desc := "(II)I" } : Jvm.MethodName) jdk_29_method_65_code (2 : Nat) (Option.some Jvm.ClassFile.FieldType.int)).before args0 about1 = true := code_word (m := ⟨3, 1⟩) (meth := k3m1) (c := k3c1) (by decide +kernel) rfl rfl rfl (by decide +kernel)
set_option maxRecDepth 65536 in
theorem w_c3 : (Jvm.Cond.code ({ cls := "java/lang/Math", name := "min", desc := "(II)I" } : Jvm.MethodName) jdk_29_method_69_code (2 : Nat) (Option.some Jvm.ClassFile.FieldType.int)).before args0 about1 = true := code_word (m := ⟨3, 2⟩) (meth := k3m2) (c := k3c2) (by decide +kernel) rfl rfl rfl (by decide +kernel)
def codes1 : List Jvm.Cond := [Jvm.Cond.code x code maxLocals ret, Jvm.Cond.code ({ cls := "com/example/needlework/needlework/internal/SearchRange", name := "firstStart", desc := "(III)I" } : Jvm.MethodName) prog_9_method_2_code (4 : Nat) (Option.some Jvm.ClassFile.FieldType.int), Jvm.Cond.code ({ cls := "java/lang/Math", name := "max", desc := "(II)I" } : Jvm.MethodName) jdk_29_method_65_code (2 : Nat) (Option.some Jvm.ClassFile.FieldType.int), Jvm.Cond.code ({ cls := "java/lang/Math", name := "min", desc := "(II)I" } : Jvm.MethodName) jdk_29_method_69_code (2 : Nat) (Option.some Jvm.ClassFile.FieldType.int)]
set_option maxRecDepth 65536 in
theorem codes_eq : words1.filter isCode = codes1 := rfl
theorem w_codes : ∀ c ∈ words1.filter isCode, c.before args0 about1 = true := by
  rw [codes_eq]
  intro c hc
  simp only [codes1, List.mem_cons, List.not_mem_nil, or_false] at hc
  rcases hc with rfl | rfl | rfl | rfl
  · exact w_c0
  · exact w_c1
  · exact w_c2
  · exact w_c3
set_option maxRecDepth 65536 in
theorem w_t1 : words1.all (fun c => isCode c || c.before args0 about1) = true := by decide +kernel
theorem w_tables : (allAtoms (Jvm.Cond.code x code maxLocals ret :: tables_1)).before args0 about1 = true := by
  rw [allAtoms_all]
  show words1.all (fun c => c.before args0 about1) = true
  refine all_split ?_ w_codes
  rw [w_t1]
set_option maxRecDepth 65536 in
theorem w_case : (Jvm.Cond.and given_1 narrow_1).before args0 about1 = true := by decide +kernel
theorem w_applies : (headSpec (Jvm.Cond.code x code maxLocals ret :: tables_1) room_1).applies x e0.platform about1 = true :=
  (Spec.applies_iff w_frames).mpr ⟨w_running, w_runnable, w_alone, w_named, w_hears, w_ripe, w_room, w_tables⟩
theorem atStart : AtStart classFile x code maxLocals ret World_1 tables_1 room_1 Calls_1 rest_1 Pre_1 launch0 p0 e0 about1 theMethod args0 below0 :=
  ⟨lists_1, trivial, launch0.admits_env _ _ _, launch0.least_env, fairChoices_fair.cas, fairChoices_fair.clock, w_frames, w_args, w_heap, w_applies, trivial, trivial, w_case⟩
end start1
theorem witness_1 : WitnessClaimed_1 := ⟨start1.p0, start1.e0, start1.about1, start1.theMethod, start1.args0, start1.below0, start1.atStart⟩
end Jvm.Pilot.@@N@@
