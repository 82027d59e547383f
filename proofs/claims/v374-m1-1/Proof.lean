import JvmDerived
import JvmDerived.Pilot.@@N@@Statement
import JvmDerived.Pilot.@@N@@Code
set_option linter.unusedVariables false
set_option linter.unusedSimpArgs false
namespace Jvm.RoadKit
open Sem ClassFile Op Lib Jvm.Stand Jvm.Free Jvm.LawKit
section New
variable {p : Program} {l : Launch} {e : Env} {R : Room} {s : State} {m : MethodId} {args : Array Value} {below : List Frame} {meth : Method} {c : Code} {T : State} {locs : List Loc} {cells slots : Nat}
theorem retI (X : Stand p l e R s m args below meth c T locs cells slots) (hx : p.tables.exec = Jvm.exec) {pc : Nat} {Ls : Array Slot} {z : Int32} {rest : List Value} (hret : meth.sig.returnType = some .int) (hd : decode c.code pc = .ok (.ireturn, 1)) {fs : List Frame}
    (hl : ∀ (f : JFrame) (acts : List Action), f.method = m → f.locked = none → f.entered = [] → (doReturn e (T.setTop f) acts (some (.int z))).1 = T.setFrames fs) : Steps p.tables e below (T.setTop (mkF m pc Ls (.int z :: rest))) (T.setFrames fs) := by
  have hm' : T.vm.method? m = some meth := X.method'
  have hn : narrow .int (.int z) = .int z := rfl
  show Steps p.tables e below (T.setTop { method := m, pc := pc, locals := Ls, stack := _ :: rest, locked := none }) _
  jvm_step X.here [X.here.top, hx, hd, hm', hret, hn]
  first | (intro acts; rw [hl _ acts rfl rfl rfl]) | rw [hl _ _ rfl rfl rfl]
  exact Steps.refl _
end New
end Jvm.RoadKit
namespace Jvm.Pilot.@@N@@
open Jvm Jvm.ClassFile Sem Op Lib Jvm.Free Jvm.Stand Jvm.LawKit Jvm.RoadKit Bundle Jvm.Pilot.@@N@@.Jvm.D
theorem own_lrem (x y : Int64) : 0 ≤ x.toInt → 0 < y.toInt → 0 ≤ (x - (x / y) * y).toInt ∧ (x - (x / y) * y).toInt < y.toInt ∧ (x - (x / y) * y).toInt ≤ x.toInt := by
  intro h1 h2
  rw [(c_lrem x y y.toInt rfl).1 h1]
  have a1 := Int.emod_nonneg x.toInt (show y.toInt ≠ 0 by omega)
  have a2 := Int.emod_lt_of_pos x.toInt h2
  refine ⟨a1, a2, ?_⟩
  by_cases q : x.toInt < y.toInt
  · rw [Int.emod_eq_of_lt h1 q]; exact Int.le_refl _
  · omega
theorem own_d1_0 : decode prog_17_method_6_code 0 = .ok (.iload_n 1, 1) := by decide +kernel
theorem own_d1_1 : decode prog_17_method_6_code 1 = .ok (.iload_n 2, 1) := by decide +kernel
theorem own_d1_2 : decode prog_17_method_6_code 2 = .ok (.if_icmp .lt 11, 3) := by decide +kernel
theorem own_d1_13 : decode prog_17_method_6_code 13 = .ok (.iload_n 0, 1) := by decide +kernel
theorem own_d1_14 : decode prog_17_method_6_code 14 = .ok (.iload_n 1, 1) := by decide +kernel
theorem own_d1_15 : decode prog_17_method_6_code 15 = .ok (.isub, 1) := by decide +kernel
theorem own_d1_16 : decode prog_17_method_6_code 16 = .ok (.ireturn, 1) := by decide +kernel
theorem own_d1_5 : decode prog_17_method_6_code 5 = .ok (.iload_n 0, 1) := by decide +kernel
theorem own_d1_6 : decode prog_17_method_6_code 6 = .ok (.iload_n 1, 1) := by decide +kernel
theorem own_d1_7 : decode prog_17_method_6_code 7 = .ok (.isub, 1) := by decide +kernel
theorem own_d1_8 : decode prog_17_method_6_code 8 = .ok (.iconst 1, 1) := by decide +kernel
theorem own_d1_9 : decode prog_17_method_6_code 9 = .ok (.iadd, 1) := by decide +kernel
theorem own_d1_10 : decode prog_17_method_6_code 10 = .ok (.goto 6, 3) := by decide +kernel
def own_f1 (p0 : Int32) (p1 : Int32) (p2 : Int32) : Int32 := if p1 < p2 then (p0 - p1) else ((p0 - p1) + (1 : Int32))
theorem own_pn13 : plainName "com/example/needlework/needlework/single/PatternSearcher" = true := by first | (simp [plainName, overriddenIn]; done) | decide +kernel
theorem own_ef1 (m : MethodId) (p0 : Int32) (p1 : Int32) (p2 : Int32) : entryFrame m #[(.int p0), (.int p1), (.int p2)] 3 = mkF m 0 #[.val (.int p0), .val (.int p1), .val (.int p2)] [] := by first | (simp [entryFrame, mkF, argsToLocals, Value.category]; done) | rfl
def own_Q1 (Z : State) (p0 : Int32) (p1 : Int32) (p2 : Int32) (h0 : Heap) (n0 : Nat) (v : Option Value) (h : Heap) (L : List Loc) : Prop := v = some (.int (own_f1 p0 p1 p2)) ∧ Fr n0 L ∧ h = h0
set_option maxRecDepth 65536 in
set_option maxHeartbeats 40000000 in
theorem own_rm1 (l : Launch) (Z : State) (av : Array Value) (hw : ∀ d ∈ tables_1, d.before av Z = true) (ws : List Jvm.Cond) (p0 : Int32) (p1 : Int32) (p2 : Int32) (h0 : Heap) (n0 : Nat) (Z0 : n0 ≤ h0.size) :
    MetFree l (⟨"com/example/needlework/needlework/single/PatternSearcher", "testsFromRight", "(III)I"⟩ : MethodName) (head1 (Jvm.Cond.code (⟨"com/example/needlework/needlework/single/PatternSearcher", "testsFromRight", "(III)I"⟩ : MethodName) prog_17_method_6_code 3 (some .int) :: ws) ({ frames := 0, cells := 0, slots := 0, locals := 0 } : Room)) (fun a U => a = #[(.int p0), (.int p1), (.int p2)] ∧ Z.Warmed39 U.vm ∧ U.heap = h0) (fun _ _ _ _ _ => True) (fun _ U o U' => ∃ v L, o = .returned v ∧ own_Q1 Z p0 p1 p2 h0 n0 v U'.heap L ∧ FrameEnd U o U' L ({ frames := 0, cells := 0, slots := 0, locals := 0 } : Room).cells ({ frames := 0, cells := 0, slots := 0, locals := 0 } : Room).slots) := by
  refine MetFree.of_bodySF (plainFor_of_name own_pn13) hisR ?_
  intro p e s m args below meth c s₁ Bd hml0 hP hK
  obtain ⟨rfl, hZ, hh⟩ := hP
  have hx := Bd.exec
  have hby := Bd.bytes
  have hml : c.maxLocals = 3 := hml0
  have hown : s.vm.findClass "com/example/needlework/needlework/single/PatternSearcher" = some m.cls := findClass_of_methodNamed Bd.named
  have hnm := (name_of_methodNamed Bd.named Bd.method).1
  have X0 : Stand p l e ({ frames := 0, cells := 0, slots := 0, locals := 0 } : Room) s m #[(.int p0), (.int p1), (.int p2)] below meth c s₁ [] 0 0 := Stand.of_body Bd
  have e0 : s₁.heap = h0 := by rw [← hh, Bd.state]; rfl
  have N0 := Fr.nil n0
  have pre0 : ∀ t, Steps p.tables e below (s₁.setTop (mkF m 0 #[.val (.int p0), .val (.int p1), .val (.int p2)] [])) t → Steps p.tables e below (s₁.setTop (entryFrame m #[(.int p0), (.int p1), (.int p2)] 3)) t := fun t k => castTop (own_ef1 m p0 p1 p2) k
  have pre1 : ∀ t, Steps p.tables e below (s₁.setTop (mkF m 2 #[.val (.int p0), .val (.int p1), .val (.int p2)] [(.int p2), (.int p1)])) t → Steps p.tables e below (s₁.setTop (entryFrame m #[(.int p0), (.int p1), (.int p2)] 3)) t := fun t kk => pre0 t (by
    show Steps p.tables e below (s₁.setTop (mkF m 0 #[.val (.int p0), .val (.int p1), .val (.int p2)] [])) _
    refine XS.iloadN X0.here hx rfl (hb hby own_d1_0) rfl ?_
    show Steps p.tables e below (s₁.setTop (mkF m 1 #[.val (.int p0), .val (.int p1), .val (.int p2)] [(.int p1)])) _
    refine XS.iloadN X0.here hx rfl (hb hby own_d1_1) rfl ?_
    show Steps p.tables e below (s₁.setTop (mkF m 2 #[.val (.int p0), .val (.int p1), .val (.int p2)] [(.int p2), (.int p1)])) _
    exact kk)
  by_cases hc2 : p1 < p2
  · obtain ⟨fs, hr, hrun, hended, hW, hsame⟩ := X0.leave (v := some (.int (p0 - p1))) (fun h => by rw [Bd.returns] at h; cases h)
    refine ⟨_, _, pre1 _ ?_, hrun, hended, _, _, rfl, ?_, ⟨_, rfl⟩, hW, hsame.mono (by decide) (by decide)⟩
    · show Steps p.tables e below (s₁.setTop (mkF m 2 #[.val (.int p0), .val (.int p1), .val (.int p2)] [(.int p2), (.int p1)])) _
      refine XS.icmpYes X0.here hx rfl (pc0 := 2) (pc' := 13) rfl (hb hby own_d1_2) rfl (tlt hc2).1 (by decide) (by decide) ?_
      show Steps p.tables e below (s₁.setTop (mkF m 13 #[.val (.int p0), .val (.int p1), .val (.int p2)] [])) _
      refine XS.iloadN X0.here hx rfl (hb hby own_d1_13) rfl ?_
      show Steps p.tables e below (s₁.setTop (mkF m 14 #[.val (.int p0), .val (.int p1), .val (.int p2)] [(.int p0)])) _
      refine XS.iloadN X0.here hx rfl (hb hby own_d1_14) rfl ?_
      show Steps p.tables e below (s₁.setTop (mkF m 15 #[.val (.int p0), .val (.int p1), .val (.int p2)] [(.int p1), (.int p0)])) _
      refine XS.isub X0.here hx rfl (hb hby own_d1_15) rfl ?_
      show Steps p.tables e below (s₁.setTop (mkF m 16 #[.val (.int p0), .val (.int p1), .val (.int p2)] [(.int (p0 - p1))])) _
      exact retI X0 hx Bd.returns (hb hby own_d1_16) hr
    · show own_Q1 Z p0 p1 p2 h0 n0 _ s₁.heap _
      rw [e0]
      have hv : own_f1 p0 p1 p2 = (p0 - p1) := by unfold own_f1; rw [if_pos hc2]
      exact ⟨by rw [hv], N0, rfl⟩
  · obtain ⟨fs, hr, hrun, hended, hW, hsame⟩ := X0.leave (v := some (.int ((p0 - p1) + (1 : Int32)))) (fun h => by rw [Bd.returns] at h; cases h)
    refine ⟨_, _, pre1 _ ?_, hrun, hended, _, _, rfl, ?_, ⟨_, rfl⟩, hW, hsame.mono (by decide) (by decide)⟩
    · show Steps p.tables e below (s₁.setTop (mkF m 2 #[.val (.int p0), .val (.int p1), .val (.int p2)] [(.int p2), (.int p1)])) _
      refine XS.icmpNo X0.here hx rfl (hb hby own_d1_2) rfl (flt hc2).1 ?_
      show Steps p.tables e below (s₁.setTop (mkF m 5 #[.val (.int p0), .val (.int p1), .val (.int p2)] [])) _
      refine XS.iloadN X0.here hx rfl (hb hby own_d1_5) rfl ?_
      show Steps p.tables e below (s₁.setTop (mkF m 6 #[.val (.int p0), .val (.int p1), .val (.int p2)] [(.int p0)])) _
      refine XS.iloadN X0.here hx rfl (hb hby own_d1_6) rfl ?_
      show Steps p.tables e below (s₁.setTop (mkF m 7 #[.val (.int p0), .val (.int p1), .val (.int p2)] [(.int p1), (.int p0)])) _
      refine XS.isub X0.here hx rfl (hb hby own_d1_7) rfl ?_
      show Steps p.tables e below (s₁.setTop (mkF m 8 #[.val (.int p0), .val (.int p1), .val (.int p2)] [(.int (p0 - p1))])) _
      refine XS.iconst X0.here hx rfl (hb hby own_d1_8) ?_
      show Steps p.tables e below (s₁.setTop (mkF m 9 #[.val (.int p0), .val (.int p1), .val (.int p2)] [(.int (1 : Int32)), (.int (p0 - p1))])) _
      refine XS.iadd X0.here hx rfl (hb hby own_d1_9) rfl ?_
      show Steps p.tables e below (s₁.setTop (mkF m 10 #[.val (.int p0), .val (.int p1), .val (.int p2)] [(.int ((p0 - p1) + (1 : Int32)))])) _
      refine XS.goto X0.here hx rfl (pc0 := 10) (pc' := 16) rfl (hb hby own_d1_10) (by decide) (by decide) ?_
      show Steps p.tables e below (s₁.setTop (mkF m 16 #[.val (.int p0), .val (.int p1), .val (.int p2)] [(.int ((p0 - p1) + (1 : Int32)))])) _
      exact retI X0 hx Bd.returns (hb hby own_d1_16) hr
    · show own_Q1 Z p0 p1 p2 h0 n0 _ s₁.heap _
      rw [e0]
      have hv : own_f1 p0 p1 p2 = ((p0 - p1) + (1 : Int32)) := by unfold own_f1; rw [if_neg hc2]
      exact ⟨by rw [hv], N0, rfl⟩
theorem own_f1_cases (p0 : Int32) (p1 : Int32) (p2 : Int32) : (p1 < p2 ∧ (own_f1 p0 p1 p2 = (p0 - p1))) ∨ (¬ (p1 < p2) ∧ (own_f1 p0 p1 p2 = ((p0 - p1) + (1 : Int32)))) := by
  by_cases cs0 : p1 < p2
  · refine Or.inl ⟨cs0, ?_⟩
    unfold own_f1; rw [if_pos cs0]
  · refine Or.inr ⟨cs0, ?_⟩
    unfold own_f1; rw [if_neg cs0]
theorem own_pd0 : parseMethodDescriptor "(III)I" = some ⟨[.int, .int, .int], some .int⟩ := by decide +kernel
set_option maxRecDepth 65536 in
set_option maxHeartbeats 40000000 in
theorem own_side5 (p0 : Int32) (v3 : Int32) (hv3 : v3 = (p0 &&& (2147483647 : Int32))) (v4 : Int64) (hv4 : v4 = (((2147483647 : Int64) - (v3.toInt64)) + (1 : Int64))) : ¬ (v4 = (0 : Int64)) := by
  generalize hex1 : (p0 &&& (2147483647 : Int32)) = ex1 at *
  generalize hex2 : (v3.toInt64) = ex2 at *
  generalize hex3 : ((2147483647 : Int64) - ex2) = ex3 at *
  generalize hex4 : (ex3 + (1 : Int64)) = ex4 at *
  try simp only [Int32.lt_iff_toInt_lt, Int64.lt_iff_toInt_lt, ← Int32.toInt_inj, ← Int64.toInt_inj, Int32.reduceToInt, Int64.reduceToInt, not_true_eq_false, not_false_eq_true, false_and, and_false, true_and, and_true, false_or, or_false, true_or, or_true] at hv3
  try simp only [Int32.lt_iff_toInt_lt, Int64.lt_iff_toInt_lt, ← Int32.toInt_inj, ← Int64.toInt_inj, Int32.reduceToInt, Int64.reduceToInt, not_true_eq_false, not_false_eq_true, false_and, and_false, true_and, and_true, false_or, or_false, true_or, or_true] at hv4
  try simp only [Int32.lt_iff_toInt_lt, Int64.lt_iff_toInt_lt, ← Int32.toInt_inj, ← Int64.toInt_inj, Int32.reduceToInt, Int64.reduceToInt, not_true_eq_false, not_false_eq_true, false_and, and_false, true_and, and_true, false_or, or_false, true_or, or_true]
  have := Int32.le_toInt p0; have := Int32.toInt_lt p0
  have := Int32.le_toInt v3; have := Int32.toInt_lt v3
  have := Int64.le_toInt v4; have := Int64.toInt_lt v4
  have bl1 := Int32.le_toInt ex1; have bu1 := Int32.toInt_lt ex1
  have fa1 := c_mask p0 (2147483647 : Int32) 31 (by decide) (by decide); rw [hex1] at fa1; try simp only [Int32.reduceToInt, Int64.reduceToInt] at fa1
  clear hex1
  have bl2 := Int64.le_toInt ex2; have bu2 := Int64.toInt_lt ex2
  have fa2 := c_i2l v3; rw [hex2] at fa2; try simp only [Int32.reduceToInt, Int64.reduceToInt] at fa2
  clear hex2
  have bl3 := Int64.le_toInt ex3; have bu3 := Int64.toInt_lt ex3
  have fa3 := c_lsub (2147483647 : Int64) ex2; rw [hex3] at fa3; try simp only [Int32.reduceToInt, Int64.reduceToInt] at fa3
  clear hex3
  have bl4 := Int64.le_toInt ex4; have bu4 := Int64.toInt_lt ex4
  have fa4 := c_ladd ex3 (1 : Int64); rw [hex4] at fa4; try simp only [Int32.reduceToInt, Int64.reduceToInt] at fa4
  clear hex4
  all_goals omega
set_option maxRecDepth 65536 in
set_option maxHeartbeats 40000000 in
theorem own_side9 (p0 : Int32) (p1 : Int32) (v3 : Int32) (hv3 : v3 = (p0 &&& (2147483647 : Int32))) (v4 : Int64) (hv4 : v4 = (((2147483647 : Int64) - (v3.toInt64)) + (1 : Int64))) (v6 : Int64) (hv6 : v6 = (((p1.toInt64) &&& (2147483647 : Int64)) - (((p1.toInt64) &&& (2147483647 : Int64)) / v4) * v4)) (v7 : Int32) (hv7 : v7 = ((((v3.toInt64) - (1 : Int64)) + v6).toInt32)) (v8 : Int64) (hv8 : v8 = (((v7.toInt64) - (v3.toInt64)) + (2 : Int64))) : ¬ (v8 = (0 : Int64)) := by
  generalize hex1 : (p0 &&& (2147483647 : Int32)) = ex1 at *
  generalize hex2 : (v3.toInt64) = ex2 at *
  generalize hex3 : ((2147483647 : Int64) - ex2) = ex3 at *
  generalize hex4 : (ex3 + (1 : Int64)) = ex4 at *
  generalize hex5 : (p1.toInt64) = ex5 at *
  generalize hex6 : (ex5 &&& (2147483647 : Int64)) = ex6 at *
  generalize hex7 : (ex6 - (ex6 / v4) * v4) = ex7 at *
  generalize hex8 : (ex2 - (1 : Int64)) = ex8 at *
  generalize hex9 : (ex8 + v6) = ex9 at *
  generalize hex10 : (ex9.toInt32) = ex10 at *
  generalize hex11 : (v7.toInt64) = ex11 at *
  generalize hex12 : (ex11 - ex2) = ex12 at *
  generalize hex13 : (ex12 + (2 : Int64)) = ex13 at *
  try simp only [Int32.lt_iff_toInt_lt, Int64.lt_iff_toInt_lt, ← Int32.toInt_inj, ← Int64.toInt_inj, Int32.reduceToInt, Int64.reduceToInt, not_true_eq_false, not_false_eq_true, false_and, and_false, true_and, and_true, false_or, or_false, true_or, or_true] at hv3
  try simp only [Int32.lt_iff_toInt_lt, Int64.lt_iff_toInt_lt, ← Int32.toInt_inj, ← Int64.toInt_inj, Int32.reduceToInt, Int64.reduceToInt, not_true_eq_false, not_false_eq_true, false_and, and_false, true_and, and_true, false_or, or_false, true_or, or_true] at hv4
  try simp only [Int32.lt_iff_toInt_lt, Int64.lt_iff_toInt_lt, ← Int32.toInt_inj, ← Int64.toInt_inj, Int32.reduceToInt, Int64.reduceToInt, not_true_eq_false, not_false_eq_true, false_and, and_false, true_and, and_true, false_or, or_false, true_or, or_true] at hv6
  try simp only [Int32.lt_iff_toInt_lt, Int64.lt_iff_toInt_lt, ← Int32.toInt_inj, ← Int64.toInt_inj, Int32.reduceToInt, Int64.reduceToInt, not_true_eq_false, not_false_eq_true, false_and, and_false, true_and, and_true, false_or, or_false, true_or, or_true] at hv7
  try simp only [Int32.lt_iff_toInt_lt, Int64.lt_iff_toInt_lt, ← Int32.toInt_inj, ← Int64.toInt_inj, Int32.reduceToInt, Int64.reduceToInt, not_true_eq_false, not_false_eq_true, false_and, and_false, true_and, and_true, false_or, or_false, true_or, or_true] at hv8
  try simp only [Int32.lt_iff_toInt_lt, Int64.lt_iff_toInt_lt, ← Int32.toInt_inj, ← Int64.toInt_inj, Int32.reduceToInt, Int64.reduceToInt, not_true_eq_false, not_false_eq_true, false_and, and_false, true_and, and_true, false_or, or_false, true_or, or_true]
  have := Int32.le_toInt p0; have := Int32.toInt_lt p0
  have := Int32.le_toInt p1; have := Int32.toInt_lt p1
  have := Int32.le_toInt v3; have := Int32.toInt_lt v3
  have := Int64.le_toInt v4; have := Int64.toInt_lt v4
  have := Int64.le_toInt v6; have := Int64.toInt_lt v6
  have := Int32.le_toInt v7; have := Int32.toInt_lt v7
  have := Int64.le_toInt v8; have := Int64.toInt_lt v8
  have bl1 := Int32.le_toInt ex1; have bu1 := Int32.toInt_lt ex1
  have fa1 := c_mask p0 (2147483647 : Int32) 31 (by decide) (by decide); rw [hex1] at fa1; try simp only [Int32.reduceToInt, Int64.reduceToInt] at fa1
  clear hex1
  have bl2 := Int64.le_toInt ex2; have bu2 := Int64.toInt_lt ex2
  have fa2 := c_i2l v3; rw [hex2] at fa2; try simp only [Int32.reduceToInt, Int64.reduceToInt] at fa2
  clear hex2
  have bl3 := Int64.le_toInt ex3; have bu3 := Int64.toInt_lt ex3
  have fa3 := c_lsub (2147483647 : Int64) ex2; rw [hex3] at fa3; try simp only [Int32.reduceToInt, Int64.reduceToInt] at fa3
  clear hex3
  have bl4 := Int64.le_toInt ex4; have bu4 := Int64.toInt_lt ex4
  have fa4 := c_ladd ex3 (1 : Int64); rw [hex4] at fa4; try simp only [Int32.reduceToInt, Int64.reduceToInt] at fa4
  clear hex4
  have bl5 := Int64.le_toInt ex5; have bu5 := Int64.toInt_lt ex5
  have fa5 := c_i2l p1; rw [hex5] at fa5; try simp only [Int32.reduceToInt, Int64.reduceToInt] at fa5
  clear hex5
  have bl6 := Int64.le_toInt ex6; have bu6 := Int64.toInt_lt ex6
  have fa6 := c_maskL ex5 (2147483647 : Int64) 31 (by decide) (by decide); rw [hex6] at fa6; try simp only [Int32.reduceToInt, Int64.reduceToInt] at fa6
  clear hex6
  have bl7 := Int64.le_toInt ex7; have bu7 := Int64.toInt_lt ex7
  have fa7 := own_lrem ex6 v4; rw [hex7] at fa7; try simp only [Int32.reduceToInt, Int64.reduceToInt] at fa7
  first | (have fb7 := fa7 (by omega) (by omega); clear fa7) | skip
  clear hex7
  have bl8 := Int64.le_toInt ex8; have bu8 := Int64.toInt_lt ex8
  have fa8 := c_lsub ex2 (1 : Int64); rw [hex8] at fa8; try simp only [Int32.reduceToInt, Int64.reduceToInt] at fa8
  clear hex8
  have bl9 := Int64.le_toInt ex9; have bu9 := Int64.toInt_lt ex9
  have fa9 := c_ladd ex8 v6; rw [hex9] at fa9; try simp only [Int32.reduceToInt, Int64.reduceToInt] at fa9
  clear hex9
  have bl10 := Int32.le_toInt ex10; have bu10 := Int32.toInt_lt ex10
  have fa10 := c_l2i ex9; rw [hex10] at fa10; try simp only [Int32.reduceToInt, Int64.reduceToInt] at fa10
  clear hex10
  have bl11 := Int64.le_toInt ex11; have bu11 := Int64.toInt_lt ex11
  have fa11 := c_i2l v7; rw [hex11] at fa11; try simp only [Int32.reduceToInt, Int64.reduceToInt] at fa11
  clear hex11
  have bl12 := Int64.le_toInt ex12; have bu12 := Int64.toInt_lt ex12
  have fa12 := c_lsub ex11 ex2; rw [hex12] at fa12; try simp only [Int32.reduceToInt, Int64.reduceToInt] at fa12
  clear hex12
  have bl13 := Int64.le_toInt ex13; have bu13 := Int64.toInt_lt ex13
  have fa13 := c_ladd ex12 (2 : Int64); rw [hex13] at fa13; try simp only [Int32.reduceToInt, Int64.reduceToInt] at fa13
  clear hex13
  all_goals omega
set_option maxRecDepth 65536 in
set_option maxHeartbeats 40000000 in
theorem own_leaf0_2 (p0 : Int32) (p1 : Int32) (p2 : Int32) (v3 : Int32) (hv3 : v3 = (p0 &&& (2147483647 : Int32))) (v4 : Int64) (hv4 : v4 = (((2147483647 : Int64) - (v3.toInt64)) + (1 : Int64))) (v6 : Int64) (hv6 : v6 = (((p1.toInt64) &&& (2147483647 : Int64)) - (((p1.toInt64) &&& (2147483647 : Int64)) / v4) * v4)) (v7 : Int32) (hv7 : v7 = ((((v3.toInt64) - (1 : Int64)) + v6).toInt32)) (v8 : Int64) (hv8 : v8 = (((v7.toInt64) - (v3.toInt64)) + (2 : Int64))) (v10 : Int64) (hv10 : v10 = (((p2.toInt64) &&& (2147483647 : Int64)) - (((p2.toInt64) &&& (2147483647 : Int64)) / v8) * v8)) (v11 : Int32) (hv11 : v11 = ((((v3.toInt64) - (1 : Int64)) + v10).toInt32)) (v15 : Int32) (hv15 : v15 = (own_f1 v7 v11 v3)) (v16 : Int64) (hv16 : v16 = ((v7.toInt64) - (v11.toInt64))) (v19 : Int64) (hv19 : v19 = (if v11 = (v3 - (1 : Int32)) then v16 else (v16 + (1 : Int64)))) (hc22 : ¬ ((v15.toInt64) = v19)) : False := by
  have dv19 : (v11 = (v3 - (1 : Int32)) ∧ (v19 = v16)) ∨ (¬ (v11 = (v3 - (1 : Int32))) ∧ (v19 = (v16 + (1 : Int64)))) := (if cq0 : v11 = (v3 - (1 : Int32)) then Or.inl ⟨cq0, (by rw [hv19, if_pos cq0])⟩ else Or.inr ⟨cq0, (by rw [hv19, if_neg cq0])⟩)
  clear hv19
  generalize hex1 : (p0 &&& (2147483647 : Int32)) = ex1 at *
  generalize hex2 : (v3.toInt64) = ex2 at *
  generalize hex3 : ((2147483647 : Int64) - ex2) = ex3 at *
  generalize hex4 : (ex3 + (1 : Int64)) = ex4 at *
  generalize hex5 : (p1.toInt64) = ex5 at *
  generalize hex6 : (ex5 &&& (2147483647 : Int64)) = ex6 at *
  generalize hex7 : (ex6 - (ex6 / v4) * v4) = ex7 at *
  generalize hex8 : (ex2 - (1 : Int64)) = ex8 at *
  generalize hex9 : (ex8 + v6) = ex9 at *
  generalize hex10 : (ex9.toInt32) = ex10 at *
  generalize hex11 : (v7.toInt64) = ex11 at *
  generalize hex12 : (ex11 - ex2) = ex12 at *
  generalize hex13 : (ex12 + (2 : Int64)) = ex13 at *
  generalize hex14 : (p2.toInt64) = ex14 at *
  generalize hex15 : (ex14 &&& (2147483647 : Int64)) = ex15 at *
  generalize hex16 : (ex15 - (ex15 / v8) * v8) = ex16 at *
  generalize hex17 : (ex8 + v10) = ex17 at *
  generalize hex18 : (ex17.toInt32) = ex18 at *
  have fc19 := own_f1_cases v7 v11 v3
  generalize own_f1 v7 v11 v3 = ex19 at *
  generalize hex20 : (v7 - v11) = ex20 at *
  generalize hex21 : (ex20 + (1 : Int32)) = ex21 at *
  generalize hex22 : (v11.toInt64) = ex22 at *
  generalize hex23 : (ex11 - ex22) = ex23 at *
  generalize hex24 : (v3 - (1 : Int32)) = ex24 at *
  generalize hex25 : (v16 + (1 : Int64)) = ex25 at *
  generalize hex26 : (v15.toInt64) = ex26 at *
  try simp only [Int32.lt_iff_toInt_lt, Int64.lt_iff_toInt_lt, ← Int32.toInt_inj, ← Int64.toInt_inj, Int32.reduceToInt, Int64.reduceToInt, not_true_eq_false, not_false_eq_true, false_and, and_false, true_and, and_true, false_or, or_false, true_or, or_true] at dv19
  try simp only [Int32.lt_iff_toInt_lt, Int64.lt_iff_toInt_lt, ← Int32.toInt_inj, ← Int64.toInt_inj, Int32.reduceToInt, Int64.reduceToInt, not_true_eq_false, not_false_eq_true, false_and, and_false, true_and, and_true, false_or, or_false, true_or, or_true] at hv3
  try simp only [Int32.lt_iff_toInt_lt, Int64.lt_iff_toInt_lt, ← Int32.toInt_inj, ← Int64.toInt_inj, Int32.reduceToInt, Int64.reduceToInt, not_true_eq_false, not_false_eq_true, false_and, and_false, true_and, and_true, false_or, or_false, true_or, or_true] at hv4
  try simp only [Int32.lt_iff_toInt_lt, Int64.lt_iff_toInt_lt, ← Int32.toInt_inj, ← Int64.toInt_inj, Int32.reduceToInt, Int64.reduceToInt, not_true_eq_false, not_false_eq_true, false_and, and_false, true_and, and_true, false_or, or_false, true_or, or_true] at hv6
  try simp only [Int32.lt_iff_toInt_lt, Int64.lt_iff_toInt_lt, ← Int32.toInt_inj, ← Int64.toInt_inj, Int32.reduceToInt, Int64.reduceToInt, not_true_eq_false, not_false_eq_true, false_and, and_false, true_and, and_true, false_or, or_false, true_or, or_true] at hv7
  try simp only [Int32.lt_iff_toInt_lt, Int64.lt_iff_toInt_lt, ← Int32.toInt_inj, ← Int64.toInt_inj, Int32.reduceToInt, Int64.reduceToInt, not_true_eq_false, not_false_eq_true, false_and, and_false, true_and, and_true, false_or, or_false, true_or, or_true] at hv8
  try simp only [Int32.lt_iff_toInt_lt, Int64.lt_iff_toInt_lt, ← Int32.toInt_inj, ← Int64.toInt_inj, Int32.reduceToInt, Int64.reduceToInt, not_true_eq_false, not_false_eq_true, false_and, and_false, true_and, and_true, false_or, or_false, true_or, or_true] at hv10
  try simp only [Int32.lt_iff_toInt_lt, Int64.lt_iff_toInt_lt, ← Int32.toInt_inj, ← Int64.toInt_inj, Int32.reduceToInt, Int64.reduceToInt, not_true_eq_false, not_false_eq_true, false_and, and_false, true_and, and_true, false_or, or_false, true_or, or_true] at hv11
  try simp only [Int32.lt_iff_toInt_lt, Int64.lt_iff_toInt_lt, ← Int32.toInt_inj, ← Int64.toInt_inj, Int32.reduceToInt, Int64.reduceToInt, not_true_eq_false, not_false_eq_true, false_and, and_false, true_and, and_true, false_or, or_false, true_or, or_true] at hv15
  try simp only [Int32.lt_iff_toInt_lt, Int64.lt_iff_toInt_lt, ← Int32.toInt_inj, ← Int64.toInt_inj, Int32.reduceToInt, Int64.reduceToInt, not_true_eq_false, not_false_eq_true, false_and, and_false, true_and, and_true, false_or, or_false, true_or, or_true] at hv16
  try simp only [Int32.lt_iff_toInt_lt, Int64.lt_iff_toInt_lt, ← Int32.toInt_inj, ← Int64.toInt_inj, Int32.reduceToInt, Int64.reduceToInt, not_true_eq_false, not_false_eq_true, false_and, and_false, true_and, and_true, false_or, or_false, true_or, or_true] at hc22
  have := Int32.le_toInt p0; have := Int32.toInt_lt p0
  have := Int32.le_toInt p1; have := Int32.toInt_lt p1
  have := Int32.le_toInt p2; have := Int32.toInt_lt p2
  have := Int32.le_toInt v3; have := Int32.toInt_lt v3
  have := Int64.le_toInt v4; have := Int64.toInt_lt v4
  have := Int64.le_toInt v6; have := Int64.toInt_lt v6
  have := Int32.le_toInt v7; have := Int32.toInt_lt v7
  have := Int64.le_toInt v8; have := Int64.toInt_lt v8
  have := Int64.le_toInt v10; have := Int64.toInt_lt v10
  have := Int32.le_toInt v11; have := Int32.toInt_lt v11
  have := Int32.le_toInt v15; have := Int32.toInt_lt v15
  have := Int64.le_toInt v16; have := Int64.toInt_lt v16
  have := Int64.le_toInt v19; have := Int64.toInt_lt v19
  have bl1 := Int32.le_toInt ex1; have bu1 := Int32.toInt_lt ex1
  have fa1 := c_mask p0 (2147483647 : Int32) 31 (by decide) (by decide); rw [hex1] at fa1; try simp only [Int32.reduceToInt, Int64.reduceToInt] at fa1
  clear hex1
  have bl2 := Int64.le_toInt ex2; have bu2 := Int64.toInt_lt ex2
  have fa2 := c_i2l v3; rw [hex2] at fa2; try simp only [Int32.reduceToInt, Int64.reduceToInt] at fa2
  clear hex2
  have bl3 := Int64.le_toInt ex3; have bu3 := Int64.toInt_lt ex3
  have fa3 := c_lsub (2147483647 : Int64) ex2; rw [hex3] at fa3; try simp only [Int32.reduceToInt, Int64.reduceToInt] at fa3
  clear hex3
  have bl4 := Int64.le_toInt ex4; have bu4 := Int64.toInt_lt ex4
  have fa4 := c_ladd ex3 (1 : Int64); rw [hex4] at fa4; try simp only [Int32.reduceToInt, Int64.reduceToInt] at fa4
  clear hex4
  have bl5 := Int64.le_toInt ex5; have bu5 := Int64.toInt_lt ex5
  have fa5 := c_i2l p1; rw [hex5] at fa5; try simp only [Int32.reduceToInt, Int64.reduceToInt] at fa5
  clear hex5
  have bl6 := Int64.le_toInt ex6; have bu6 := Int64.toInt_lt ex6
  have fa6 := c_maskL ex5 (2147483647 : Int64) 31 (by decide) (by decide); rw [hex6] at fa6; try simp only [Int32.reduceToInt, Int64.reduceToInt] at fa6
  clear hex6
  have bl7 := Int64.le_toInt ex7; have bu7 := Int64.toInt_lt ex7
  have fa7 := own_lrem ex6 v4; rw [hex7] at fa7; try simp only [Int32.reduceToInt, Int64.reduceToInt] at fa7
  first | (have fb7 := fa7 (by omega) (by omega); clear fa7) | skip
  clear hex7
  have bl8 := Int64.le_toInt ex8; have bu8 := Int64.toInt_lt ex8
  have fa8 := c_lsub ex2 (1 : Int64); rw [hex8] at fa8; try simp only [Int32.reduceToInt, Int64.reduceToInt] at fa8
  clear hex8
  have bl9 := Int64.le_toInt ex9; have bu9 := Int64.toInt_lt ex9
  have fa9 := c_ladd ex8 v6; rw [hex9] at fa9; try simp only [Int32.reduceToInt, Int64.reduceToInt] at fa9
  clear hex9
  have bl10 := Int32.le_toInt ex10; have bu10 := Int32.toInt_lt ex10
  have fa10 := c_l2i ex9; rw [hex10] at fa10; try simp only [Int32.reduceToInt, Int64.reduceToInt] at fa10
  clear hex10
  have bl11 := Int64.le_toInt ex11; have bu11 := Int64.toInt_lt ex11
  have fa11 := c_i2l v7; rw [hex11] at fa11; try simp only [Int32.reduceToInt, Int64.reduceToInt] at fa11
  clear hex11
  have bl12 := Int64.le_toInt ex12; have bu12 := Int64.toInt_lt ex12
  have fa12 := c_lsub ex11 ex2; rw [hex12] at fa12; try simp only [Int32.reduceToInt, Int64.reduceToInt] at fa12
  clear hex12
  have bl13 := Int64.le_toInt ex13; have bu13 := Int64.toInt_lt ex13
  have fa13 := c_ladd ex12 (2 : Int64); rw [hex13] at fa13; try simp only [Int32.reduceToInt, Int64.reduceToInt] at fa13
  clear hex13
  have bl14 := Int64.le_toInt ex14; have bu14 := Int64.toInt_lt ex14
  have fa14 := c_i2l p2; rw [hex14] at fa14; try simp only [Int32.reduceToInt, Int64.reduceToInt] at fa14
  clear hex14
  have bl15 := Int64.le_toInt ex15; have bu15 := Int64.toInt_lt ex15
  have fa15 := c_maskL ex14 (2147483647 : Int64) 31 (by decide) (by decide); rw [hex15] at fa15; try simp only [Int32.reduceToInt, Int64.reduceToInt] at fa15
  clear hex15
  have bl16 := Int64.le_toInt ex16; have bu16 := Int64.toInt_lt ex16
  have fa16 := own_lrem ex15 v8; rw [hex16] at fa16; try simp only [Int32.reduceToInt, Int64.reduceToInt] at fa16
  first | (have fb16 := fa16 (by omega) (by omega); clear fa16) | skip
  clear hex16
  have bl17 := Int64.le_toInt ex17; have bu17 := Int64.toInt_lt ex17
  have fa17 := c_ladd ex8 v10; rw [hex17] at fa17; try simp only [Int32.reduceToInt, Int64.reduceToInt] at fa17
  clear hex17
  have bl18 := Int32.le_toInt ex18; have bu18 := Int32.toInt_lt ex18
  have fa18 := c_l2i ex17; rw [hex18] at fa18; try simp only [Int32.reduceToInt, Int64.reduceToInt] at fa18
  clear hex18
  try simp only [Int32.lt_iff_toInt_lt, Int64.lt_iff_toInt_lt, ← Int32.toInt_inj, ← Int64.toInt_inj, Int32.reduceToInt, Int64.reduceToInt, not_true_eq_false, not_false_eq_true, false_and, and_false, true_and, and_true, false_or, or_false, true_or, or_true] at fc19
  have bl20 := Int32.le_toInt ex20; have bu20 := Int32.toInt_lt ex20
  have fa20 := c_isub v7 v11; rw [hex20] at fa20; try simp only [Int32.reduceToInt, Int64.reduceToInt] at fa20
  clear hex20
  have bl21 := Int32.le_toInt ex21; have bu21 := Int32.toInt_lt ex21
  have fa21 := c_iadd ex20 (1 : Int32); rw [hex21] at fa21; try simp only [Int32.reduceToInt, Int64.reduceToInt] at fa21
  clear hex21
  have bl22 := Int64.le_toInt ex22; have bu22 := Int64.toInt_lt ex22
  have fa22 := c_i2l v11; rw [hex22] at fa22; try simp only [Int32.reduceToInt, Int64.reduceToInt] at fa22
  clear hex22
  have bl23 := Int64.le_toInt ex23; have bu23 := Int64.toInt_lt ex23
  have fa23 := c_lsub ex11 ex22; rw [hex23] at fa23; try simp only [Int32.reduceToInt, Int64.reduceToInt] at fa23
  clear hex23
  have bl24 := Int32.le_toInt ex24; have bu24 := Int32.toInt_lt ex24
  have fa24 := c_isub v3 (1 : Int32); rw [hex24] at fa24; try simp only [Int32.reduceToInt, Int64.reduceToInt] at fa24
  clear hex24
  have bl25 := Int64.le_toInt ex25; have bu25 := Int64.toInt_lt ex25
  have fa25 := c_ladd v16 (1 : Int64); rw [hex25] at fa25; try simp only [Int32.reduceToInt, Int64.reduceToInt] at fa25
  clear hex25
  have bl26 := Int64.le_toInt ex26; have bu26 := Int64.toInt_lt ex26
  have fa26 := c_i2l v15; rw [hex26] at fa26; try simp only [Int32.reduceToInt, Int64.reduceToInt] at fa26
  clear hex26
  all_goals omega
theorem own_pn14 : plainName "com/example/needlework/needlework/single/PatternSearcherTestsFromRightPinLaw" = true := by first | (simp [plainName, overriddenIn]; done) | decide +kernel
theorem own_ef0 (m : MethodId) (p0 : Int32) (p1 : Int32) (p2 : Int32) : entryFrame m #[(.int p0), (.int p1), (.int p2)] maxLocals = mkF m 0 #[.val (.int p0), .val (.int p1), .val (.int p2), .unset, .unset, .unset, .unset, .unset, .unset, .unset, .unset, .unset, .unset, .unset, .unset, .unset, .unset, .unset, .unset] [] := by first | (simp [entryFrame, mkF, argsToLocals, Value.category, maxLocals]; done) | rfl
def own_Q0 (Z : State) (p0 : Int32) (p1 : Int32) (p2 : Int32) (h0 : Heap) (n0 : Nat) (v : Option Value) (h : Heap) (L : List Loc) : Prop := v = some (.int 1) ∧ Fr n0 L
set_option maxRecDepth 65536 in
set_option maxHeartbeats 40000000 in
theorem own_rm0 (l : Launch) (Z : State) (av : Array Value) (hw : ∀ d ∈ tables_1, d.before av Z = true) (ws : List Jvm.Cond) (p0 : Int32) (p1 : Int32) (p2 : Int32) (h0 : Heap) (n0 : Nat) (Z0 : n0 ≤ h0.size) :
    MetFree l x (head1 (Jvm.Cond.code x code maxLocals ret :: ws) room_1) (fun a U => a = #[(.int p0), (.int p1), (.int p2)] ∧ Z.Warmed39 U.vm ∧ U.heap = h0) (fun _ _ _ _ _ => True) (fun _ U o U' => ∃ v L, o = .returned v ∧ own_Q0 Z p0 p1 p2 h0 n0 v U'.heap L ∧ FrameEnd U o U' L room_1.cells room_1.slots) := by
  refine MetFree.of_bodySF (plainFor_of_name own_pn14) hisR ?_
  intro p e s m args below meth c s₁ Bd hml0 hP hK
  obtain ⟨rfl, hZ, hh⟩ := hP
  have hx := Bd.exec
  have hby := Bd.bytes
  have hml : c.maxLocals = 19 := hml0
  have hown : s.vm.findClass "com/example/needlework/needlework/single/PatternSearcherTestsFromRightPinLaw" = some m.cls := findClass_of_methodNamed Bd.named
  have hnm := (name_of_methodNamed Bd.named Bd.method).1
  have X0 : Stand p l e room_1 s m #[(.int p0), (.int p1), (.int p2)] below meth c s₁ [] 0 0 := Stand.of_body Bd
  have e0 : s₁.heap = h0 := by rw [← hh, Bd.state]; rfl
  have N0 := Fr.nil n0
  have pre0 : ∀ t, Steps p.tables e below (s₁.setTop (mkF m 0 #[.val (.int p0), .val (.int p1), .val (.int p2), .unset, .unset, .unset, .unset, .unset, .unset, .unset, .unset, .unset, .unset, .unset, .unset, .unset, .unset, .unset, .unset] [])) t → Steps p.tables e below (s₁.setTop (entryFrame m #[(.int p0), (.int p1), (.int p2)] maxLocals)) t := fun t k => castTop (own_ef0 m p0 p1 p2) k
  obtain ⟨v3, hv3⟩ : ∃ z : Int32, z = (p0 &&& (2147483647 : Int32)) := ⟨_, rfl⟩
  obtain ⟨v4, hv4⟩ : ∃ z : Int64, z = (((2147483647 : Int64) - (v3.toInt64)) + (1 : Int64)) := ⟨_, rfl⟩
  obtain ⟨v6, hv6⟩ : ∃ z : Int64, z = (((p1.toInt64) &&& (2147483647 : Int64)) - (((p1.toInt64) &&& (2147483647 : Int64)) / v4) * v4) := ⟨_, rfl⟩
  obtain ⟨v7, hv7⟩ : ∃ z : Int32, z = ((((v3.toInt64) - (1 : Int64)) + v6).toInt32) := ⟨_, rfl⟩
  obtain ⟨v8, hv8⟩ : ∃ z : Int64, z = (((v7.toInt64) - (v3.toInt64)) + (2 : Int64)) := ⟨_, rfl⟩
  obtain ⟨v10, hv10⟩ : ∃ z : Int64, z = (((p2.toInt64) &&& (2147483647 : Int64)) - (((p2.toInt64) &&& (2147483647 : Int64)) / v8) * v8) := ⟨_, rfl⟩
  obtain ⟨v11, hv11⟩ : ∃ z : Int32, z = ((((v3.toInt64) - (1 : Int64)) + v10).toInt32) := ⟨_, rfl⟩
  obtain ⟨_, _, ⟨T12, L12, k12, n12⟩, -, X12, ⟨Lc12, hQ12, l12, y12, z12⟩, st12⟩ := Jvm.LawKit.callS X0 hx (y := (⟨"com/example/needlework/needlework/single/PatternSearcher", "testsFromRight", "(III)I"⟩ : MethodName)) hown (mvT hZ (hw _ (List.mem_of_getElem? (i := 3) rfl))) (mvT hZ (hw _ (List.mem_of_getElem? (i := 4) rfl))) (mvT hZ (hw _ (List.mem_of_getElem? (i := 5) rfl))) (mvT hZ (hw _ (List.mem_of_getElem? (i := 6) rfl))) (by decide) (backOf (W := 0) (own_rm1 l Z av hw [] v7 v11 v3 h0 n0 Z0 ) hZ (hw _ (List.mem_of_getElem? (i := 6) rfl)) (hw _ (List.mem_of_getElem? (i := 5) rfl)) (by decide) (by decide)) (g := (mkF m 74 #[.val (.int p0), .val (.int p1), .val (.int p2), .val (.int v3), .val (.long v4), .second, .val (.long v6), .second, .val (.int v7), .val (.long v8), .second, .val (.long v10), .second, .val (.int v11), .unset, .unset, .unset, .unset, .unset] [(.int v3), (.int v11), (.int v7)])) rfl (by rw [hml]; rfl) (argsL := [(.int v7), (.int v11), (.int v3)]) (rest := []) (lenOf own_pd0 rfl) rfl (by show 2 * 0 + _ ≤ _; exact Nat.le_of_eq rfl) (hb hby at_74) (fun _ _ => ⟨rfl, e0, (by decide : 0 + 0 ≤ _), (by decide : 0 + 0 ≤ _)⟩)
  dsimp only [Pt.U, Pt.locs, Pt.cells, Pt.slots] at X12 l12 y12 z12 st12 hQ12
  subst l12 y12 z12
  obtain ⟨rfl, N12q, e14⟩ := hQ12
  have N13 := Fr.app N0 N12q
  obtain ⟨v15, hv15⟩ : ∃ z : Int32, z = (own_f1 v7 v11 v3) := ⟨_, rfl⟩
  obtain ⟨v16, hv16⟩ : ∃ z : Int64, z = ((v7.toInt64) - (v11.toInt64)) := ⟨_, rfl⟩
  have pre17 : ∀ t, Steps p.tables e below (T12.setTop (mkF m 93 #[.val (.int p0), .val (.int p1), .val (.int p2), .val (.int v3), .val (.long v4), .second, .val (.long v6), .second, .val (.int v7), .val (.long v8), .second, .val (.long v10), .second, .val (.int v11), .val (.int v15), .val (.long v16), .second, .unset, .unset] [(.int (v3 - (1 : Int32))), (.int v11)])) t → Steps p.tables e below (s₁.setTop (entryFrame m #[(.int p0), (.int p1), (.int p2)] maxLocals)) t := fun t kk => pre0 t (by
    show Steps p.tables e below (s₁.setTop (mkF m 0 #[.val (.int p0), .val (.int p1), .val (.int p2), .unset, .unset, .unset, .unset, .unset, .unset, .unset, .unset, .unset, .unset, .unset, .unset, .unset, .unset, .unset, .unset] [])) _
    refine XS.iloadN X0.here hx rfl (hb hby at_0) rfl ?_
    show Steps p.tables e below (s₁.setTop (mkF m 1 #[.val (.int p0), .val (.int p1), .val (.int p2), .unset, .unset, .unset, .unset, .unset, .unset, .unset, .unset, .unset, .unset, .unset, .unset, .unset, .unset, .unset, .unset] [(.int p0)])) _
    refine X0.ldcInt hx hown (mvT hZ (hw _ (List.mem_of_getElem? (i := 0) rfl))) (g := (mkF m 1 #[.val (.int p0), .val (.int p1), .val (.int p2), .unset, .unset, .unset, .unset, .unset, .unset, .unset, .unset, .unset, .unset, .unset, .unset, .unset, .unset, .unset, .unset] [(.int p0)])) rfl (hb hby at_1) _ ?_
    show Steps p.tables e below (s₁.setTop (mkF m 3 #[.val (.int p0), .val (.int p1), .val (.int p2), .unset, .unset, .unset, .unset, .unset, .unset, .unset, .unset, .unset, .unset, .unset, .unset, .unset, .unset, .unset, .unset] [(.int (2147483647 : Int32)), (.int p0)])) _
    refine XS.iand X0.here hx rfl (hb hby at_3) rfl ?_
    show Steps p.tables e below (s₁.setTop (mkF m 4 #[.val (.int p0), .val (.int p1), .val (.int p2), .unset, .unset, .unset, .unset, .unset, .unset, .unset, .unset, .unset, .unset, .unset, .unset, .unset, .unset, .unset, .unset] [(.int (p0 &&& (2147483647 : Int32)))])) _
    refine castTop (congrArg (fun z : Int32 => mkF m 4 #[.val (.int p0), .val (.int p1), .val (.int p2), .unset, .unset, .unset, .unset, .unset, .unset, .unset, .unset, .unset, .unset, .unset, .unset, .unset, .unset, .unset, .unset] [(.int z)]) hv3.symm) ?_
    show Steps p.tables e below (s₁.setTop (mkF m 4 #[.val (.int p0), .val (.int p1), .val (.int p2), .unset, .unset, .unset, .unset, .unset, .unset, .unset, .unset, .unset, .unset, .unset, .unset, .unset, .unset, .unset, .unset] [(.int v3)])) _
    refine XS.istoreN X0.here hx rfl (hb hby at_4) rfl (l' := #[.val (.int p0), .val (.int p1), .val (.int p2), .val (.int v3), .unset, .unset, .unset, .unset, .unset, .unset, .unset, .unset, .unset, .unset, .unset, .unset, .unset, .unset, .unset]) rfl ?_
    show Steps p.tables e below (s₁.setTop (mkF m 5 #[.val (.int p0), .val (.int p1), .val (.int p2), .val (.int v3), .unset, .unset, .unset, .unset, .unset, .unset, .unset, .unset, .unset, .unset, .unset, .unset, .unset, .unset, .unset] [])) _
    refine X0.ldc2Long hx hown (mvT hZ (hw _ (List.mem_of_getElem? (i := 1) rfl))) (g := (mkF m 5 #[.val (.int p0), .val (.int p1), .val (.int p2), .val (.int v3), .unset, .unset, .unset, .unset, .unset, .unset, .unset, .unset, .unset, .unset, .unset, .unset, .unset, .unset, .unset] [])) rfl (hb hby at_5) _ ?_
    show Steps p.tables e below (s₁.setTop (mkF m 8 #[.val (.int p0), .val (.int p1), .val (.int p2), .val (.int v3), .unset, .unset, .unset, .unset, .unset, .unset, .unset, .unset, .unset, .unset, .unset, .unset, .unset, .unset, .unset] [(.long (2147483647 : Int64))])) _
    refine XS.iloadN X0.here hx rfl (hb hby at_8) rfl ?_
    show Steps p.tables e below (s₁.setTop (mkF m 9 #[.val (.int p0), .val (.int p1), .val (.int p2), .val (.int v3), .unset, .unset, .unset, .unset, .unset, .unset, .unset, .unset, .unset, .unset, .unset, .unset, .unset, .unset, .unset] [(.int v3), (.long (2147483647 : Int64))])) _
    refine XS.i2l X0.here hx rfl (hb hby at_9) rfl ?_
    show Steps p.tables e below (s₁.setTop (mkF m 10 #[.val (.int p0), .val (.int p1), .val (.int p2), .val (.int v3), .unset, .unset, .unset, .unset, .unset, .unset, .unset, .unset, .unset, .unset, .unset, .unset, .unset, .unset, .unset] [(.long (v3.toInt64)), (.long (2147483647 : Int64))])) _
    refine XS.lsub X0.here hx rfl (hb hby at_10) rfl ?_
    show Steps p.tables e below (s₁.setTop (mkF m 11 #[.val (.int p0), .val (.int p1), .val (.int p2), .val (.int v3), .unset, .unset, .unset, .unset, .unset, .unset, .unset, .unset, .unset, .unset, .unset, .unset, .unset, .unset, .unset] [(.long ((2147483647 : Int64) - (v3.toInt64)))])) _
    refine XS.lconst X0.here hx rfl (hb hby at_11) ?_
    show Steps p.tables e below (s₁.setTop (mkF m 12 #[.val (.int p0), .val (.int p1), .val (.int p2), .val (.int v3), .unset, .unset, .unset, .unset, .unset, .unset, .unset, .unset, .unset, .unset, .unset, .unset, .unset, .unset, .unset] [(.long (1 : Int64)), (.long ((2147483647 : Int64) - (v3.toInt64)))])) _
    refine XS.ladd X0.here hx rfl (hb hby at_12) rfl ?_
    show Steps p.tables e below (s₁.setTop (mkF m 13 #[.val (.int p0), .val (.int p1), .val (.int p2), .val (.int v3), .unset, .unset, .unset, .unset, .unset, .unset, .unset, .unset, .unset, .unset, .unset, .unset, .unset, .unset, .unset] [(.long (((2147483647 : Int64) - (v3.toInt64)) + (1 : Int64)))])) _
    refine castTop (congrArg (fun z : Int64 => mkF m 13 #[.val (.int p0), .val (.int p1), .val (.int p2), .val (.int v3), .unset, .unset, .unset, .unset, .unset, .unset, .unset, .unset, .unset, .unset, .unset, .unset, .unset, .unset, .unset] [(.long z)]) hv4.symm) ?_
    show Steps p.tables e below (s₁.setTop (mkF m 13 #[.val (.int p0), .val (.int p1), .val (.int p2), .val (.int v3), .unset, .unset, .unset, .unset, .unset, .unset, .unset, .unset, .unset, .unset, .unset, .unset, .unset, .unset, .unset] [(.long v4)])) _
    refine XS.lstore X0.here hx rfl (hb hby at_13) rfl (l' := #[.val (.int p0), .val (.int p1), .val (.int p2), .val (.int v3), .val (.long v4), .second, .unset, .unset, .unset, .unset, .unset, .unset, .unset, .unset, .unset, .unset, .unset, .unset, .unset]) rfl ?_
    show Steps p.tables e below (s₁.setTop (mkF m 15 #[.val (.int p0), .val (.int p1), .val (.int p2), .val (.int v3), .val (.long v4), .second, .unset, .unset, .unset, .unset, .unset, .unset, .unset, .unset, .unset, .unset, .unset, .unset, .unset] [])) _
    refine XS.iloadN X0.here hx rfl (hb hby at_15) rfl ?_
    show Steps p.tables e below (s₁.setTop (mkF m 16 #[.val (.int p0), .val (.int p1), .val (.int p2), .val (.int v3), .val (.long v4), .second, .unset, .unset, .unset, .unset, .unset, .unset, .unset, .unset, .unset, .unset, .unset, .unset, .unset] [(.int p1)])) _
    refine XS.i2l X0.here hx rfl (hb hby at_16) rfl ?_
    show Steps p.tables e below (s₁.setTop (mkF m 17 #[.val (.int p0), .val (.int p1), .val (.int p2), .val (.int v3), .val (.long v4), .second, .unset, .unset, .unset, .unset, .unset, .unset, .unset, .unset, .unset, .unset, .unset, .unset, .unset] [(.long (p1.toInt64))])) _
    refine X0.ldc2Long hx hown (mvT hZ (hw _ (List.mem_of_getElem? (i := 1) rfl))) (g := (mkF m 17 #[.val (.int p0), .val (.int p1), .val (.int p2), .val (.int v3), .val (.long v4), .second, .unset, .unset, .unset, .unset, .unset, .unset, .unset, .unset, .unset, .unset, .unset, .unset, .unset] [(.long (p1.toInt64))])) rfl (hb hby at_17) _ ?_
    show Steps p.tables e below (s₁.setTop (mkF m 20 #[.val (.int p0), .val (.int p1), .val (.int p2), .val (.int v3), .val (.long v4), .second, .unset, .unset, .unset, .unset, .unset, .unset, .unset, .unset, .unset, .unset, .unset, .unset, .unset] [(.long (2147483647 : Int64)), (.long (p1.toInt64))])) _
    refine XS.land X0.here hx rfl (hb hby at_20) rfl ?_
    show Steps p.tables e below (s₁.setTop (mkF m 21 #[.val (.int p0), .val (.int p1), .val (.int p2), .val (.int v3), .val (.long v4), .second, .unset, .unset, .unset, .unset, .unset, .unset, .unset, .unset, .unset, .unset, .unset, .unset, .unset] [(.long ((p1.toInt64) &&& (2147483647 : Int64)))])) _
    refine XS.lload X0.here hx rfl (hb hby at_21) rfl ?_
    show Steps p.tables e below (s₁.setTop (mkF m 23 #[.val (.int p0), .val (.int p1), .val (.int p2), .val (.int v3), .val (.long v4), .second, .unset, .unset, .unset, .unset, .unset, .unset, .unset, .unset, .unset, .unset, .unset, .unset, .unset] [(.long v4), (.long ((p1.toInt64) &&& (2147483647 : Int64)))])) _
    refine XS.lrem X0.here hx rfl (hb hby at_23) rfl (own_side5 p0 v3 hv3 v4 hv4) ?_
    show Steps p.tables e below (s₁.setTop (mkF m 24 #[.val (.int p0), .val (.int p1), .val (.int p2), .val (.int v3), .val (.long v4), .second, .unset, .unset, .unset, .unset, .unset, .unset, .unset, .unset, .unset, .unset, .unset, .unset, .unset] [(.long (((p1.toInt64) &&& (2147483647 : Int64)) - (((p1.toInt64) &&& (2147483647 : Int64)) / v4) * v4))])) _
    refine castTop (congrArg (fun z : Int64 => mkF m 24 #[.val (.int p0), .val (.int p1), .val (.int p2), .val (.int v3), .val (.long v4), .second, .unset, .unset, .unset, .unset, .unset, .unset, .unset, .unset, .unset, .unset, .unset, .unset, .unset] [(.long z)]) hv6.symm) ?_
    show Steps p.tables e below (s₁.setTop (mkF m 24 #[.val (.int p0), .val (.int p1), .val (.int p2), .val (.int v3), .val (.long v4), .second, .unset, .unset, .unset, .unset, .unset, .unset, .unset, .unset, .unset, .unset, .unset, .unset, .unset] [(.long v6)])) _
    refine XS.lstore X0.here hx rfl (hb hby at_24) rfl (l' := #[.val (.int p0), .val (.int p1), .val (.int p2), .val (.int v3), .val (.long v4), .second, .val (.long v6), .second, .unset, .unset, .unset, .unset, .unset, .unset, .unset, .unset, .unset, .unset, .unset]) rfl ?_
    show Steps p.tables e below (s₁.setTop (mkF m 26 #[.val (.int p0), .val (.int p1), .val (.int p2), .val (.int v3), .val (.long v4), .second, .val (.long v6), .second, .unset, .unset, .unset, .unset, .unset, .unset, .unset, .unset, .unset, .unset, .unset] [])) _
    refine XS.iloadN X0.here hx rfl (hb hby at_26) rfl ?_
    show Steps p.tables e below (s₁.setTop (mkF m 27 #[.val (.int p0), .val (.int p1), .val (.int p2), .val (.int v3), .val (.long v4), .second, .val (.long v6), .second, .unset, .unset, .unset, .unset, .unset, .unset, .unset, .unset, .unset, .unset, .unset] [(.int v3)])) _
    refine XS.i2l X0.here hx rfl (hb hby at_27) rfl ?_
    show Steps p.tables e below (s₁.setTop (mkF m 28 #[.val (.int p0), .val (.int p1), .val (.int p2), .val (.int v3), .val (.long v4), .second, .val (.long v6), .second, .unset, .unset, .unset, .unset, .unset, .unset, .unset, .unset, .unset, .unset, .unset] [(.long (v3.toInt64))])) _
    refine XS.lconst X0.here hx rfl (hb hby at_28) ?_
    show Steps p.tables e below (s₁.setTop (mkF m 29 #[.val (.int p0), .val (.int p1), .val (.int p2), .val (.int v3), .val (.long v4), .second, .val (.long v6), .second, .unset, .unset, .unset, .unset, .unset, .unset, .unset, .unset, .unset, .unset, .unset] [(.long (1 : Int64)), (.long (v3.toInt64))])) _
    refine XS.lsub X0.here hx rfl (hb hby at_29) rfl ?_
    show Steps p.tables e below (s₁.setTop (mkF m 30 #[.val (.int p0), .val (.int p1), .val (.int p2), .val (.int v3), .val (.long v4), .second, .val (.long v6), .second, .unset, .unset, .unset, .unset, .unset, .unset, .unset, .unset, .unset, .unset, .unset] [(.long ((v3.toInt64) - (1 : Int64)))])) _
    refine XS.lload X0.here hx rfl (hb hby at_30) rfl ?_
    show Steps p.tables e below (s₁.setTop (mkF m 32 #[.val (.int p0), .val (.int p1), .val (.int p2), .val (.int v3), .val (.long v4), .second, .val (.long v6), .second, .unset, .unset, .unset, .unset, .unset, .unset, .unset, .unset, .unset, .unset, .unset] [(.long v6), (.long ((v3.toInt64) - (1 : Int64)))])) _
    refine XS.ladd X0.here hx rfl (hb hby at_32) rfl ?_
    show Steps p.tables e below (s₁.setTop (mkF m 33 #[.val (.int p0), .val (.int p1), .val (.int p2), .val (.int v3), .val (.long v4), .second, .val (.long v6), .second, .unset, .unset, .unset, .unset, .unset, .unset, .unset, .unset, .unset, .unset, .unset] [(.long (((v3.toInt64) - (1 : Int64)) + v6))])) _
    refine XS.l2i X0.here hx rfl (hb hby at_33) rfl ?_
    show Steps p.tables e below (s₁.setTop (mkF m 34 #[.val (.int p0), .val (.int p1), .val (.int p2), .val (.int v3), .val (.long v4), .second, .val (.long v6), .second, .unset, .unset, .unset, .unset, .unset, .unset, .unset, .unset, .unset, .unset, .unset] [(.int ((((v3.toInt64) - (1 : Int64)) + v6).toInt32))])) _
    refine castTop (congrArg (fun z : Int32 => mkF m 34 #[.val (.int p0), .val (.int p1), .val (.int p2), .val (.int v3), .val (.long v4), .second, .val (.long v6), .second, .unset, .unset, .unset, .unset, .unset, .unset, .unset, .unset, .unset, .unset, .unset] [(.int z)]) hv7.symm) ?_
    show Steps p.tables e below (s₁.setTop (mkF m 34 #[.val (.int p0), .val (.int p1), .val (.int p2), .val (.int v3), .val (.long v4), .second, .val (.long v6), .second, .unset, .unset, .unset, .unset, .unset, .unset, .unset, .unset, .unset, .unset, .unset] [(.int v7)])) _
    refine XS.istore X0.here hx rfl (hb hby at_34) rfl (l' := #[.val (.int p0), .val (.int p1), .val (.int p2), .val (.int v3), .val (.long v4), .second, .val (.long v6), .second, .val (.int v7), .unset, .unset, .unset, .unset, .unset, .unset, .unset, .unset, .unset, .unset]) rfl ?_
    show Steps p.tables e below (s₁.setTop (mkF m 36 #[.val (.int p0), .val (.int p1), .val (.int p2), .val (.int v3), .val (.long v4), .second, .val (.long v6), .second, .val (.int v7), .unset, .unset, .unset, .unset, .unset, .unset, .unset, .unset, .unset, .unset] [])) _
    refine XS.iload X0.here hx rfl (hb hby at_36) rfl ?_
    show Steps p.tables e below (s₁.setTop (mkF m 38 #[.val (.int p0), .val (.int p1), .val (.int p2), .val (.int v3), .val (.long v4), .second, .val (.long v6), .second, .val (.int v7), .unset, .unset, .unset, .unset, .unset, .unset, .unset, .unset, .unset, .unset] [(.int v7)])) _
    refine XS.i2l X0.here hx rfl (hb hby at_38) rfl ?_
    show Steps p.tables e below (s₁.setTop (mkF m 39 #[.val (.int p0), .val (.int p1), .val (.int p2), .val (.int v3), .val (.long v4), .second, .val (.long v6), .second, .val (.int v7), .unset, .unset, .unset, .unset, .unset, .unset, .unset, .unset, .unset, .unset] [(.long (v7.toInt64))])) _
    refine XS.iloadN X0.here hx rfl (hb hby at_39) rfl ?_
    show Steps p.tables e below (s₁.setTop (mkF m 40 #[.val (.int p0), .val (.int p1), .val (.int p2), .val (.int v3), .val (.long v4), .second, .val (.long v6), .second, .val (.int v7), .unset, .unset, .unset, .unset, .unset, .unset, .unset, .unset, .unset, .unset] [(.int v3), (.long (v7.toInt64))])) _
    refine XS.i2l X0.here hx rfl (hb hby at_40) rfl ?_
    show Steps p.tables e below (s₁.setTop (mkF m 41 #[.val (.int p0), .val (.int p1), .val (.int p2), .val (.int v3), .val (.long v4), .second, .val (.long v6), .second, .val (.int v7), .unset, .unset, .unset, .unset, .unset, .unset, .unset, .unset, .unset, .unset] [(.long (v3.toInt64)), (.long (v7.toInt64))])) _
    refine XS.lsub X0.here hx rfl (hb hby at_41) rfl ?_
    show Steps p.tables e below (s₁.setTop (mkF m 42 #[.val (.int p0), .val (.int p1), .val (.int p2), .val (.int v3), .val (.long v4), .second, .val (.long v6), .second, .val (.int v7), .unset, .unset, .unset, .unset, .unset, .unset, .unset, .unset, .unset, .unset] [(.long ((v7.toInt64) - (v3.toInt64)))])) _
    refine X0.ldc2Long hx hown (mvT hZ (hw _ (List.mem_of_getElem? (i := 2) rfl))) (g := (mkF m 42 #[.val (.int p0), .val (.int p1), .val (.int p2), .val (.int v3), .val (.long v4), .second, .val (.long v6), .second, .val (.int v7), .unset, .unset, .unset, .unset, .unset, .unset, .unset, .unset, .unset, .unset] [(.long ((v7.toInt64) - (v3.toInt64)))])) rfl (hb hby at_42) _ ?_
    show Steps p.tables e below (s₁.setTop (mkF m 45 #[.val (.int p0), .val (.int p1), .val (.int p2), .val (.int v3), .val (.long v4), .second, .val (.long v6), .second, .val (.int v7), .unset, .unset, .unset, .unset, .unset, .unset, .unset, .unset, .unset, .unset] [(.long (2 : Int64)), (.long ((v7.toInt64) - (v3.toInt64)))])) _
    refine XS.ladd X0.here hx rfl (hb hby at_45) rfl ?_
    show Steps p.tables e below (s₁.setTop (mkF m 46 #[.val (.int p0), .val (.int p1), .val (.int p2), .val (.int v3), .val (.long v4), .second, .val (.long v6), .second, .val (.int v7), .unset, .unset, .unset, .unset, .unset, .unset, .unset, .unset, .unset, .unset] [(.long (((v7.toInt64) - (v3.toInt64)) + (2 : Int64)))])) _
    refine castTop (congrArg (fun z : Int64 => mkF m 46 #[.val (.int p0), .val (.int p1), .val (.int p2), .val (.int v3), .val (.long v4), .second, .val (.long v6), .second, .val (.int v7), .unset, .unset, .unset, .unset, .unset, .unset, .unset, .unset, .unset, .unset] [(.long z)]) hv8.symm) ?_
    show Steps p.tables e below (s₁.setTop (mkF m 46 #[.val (.int p0), .val (.int p1), .val (.int p2), .val (.int v3), .val (.long v4), .second, .val (.long v6), .second, .val (.int v7), .unset, .unset, .unset, .unset, .unset, .unset, .unset, .unset, .unset, .unset] [(.long v8)])) _
    refine XS.lstore X0.here hx rfl (hb hby at_46) rfl (l' := #[.val (.int p0), .val (.int p1), .val (.int p2), .val (.int v3), .val (.long v4), .second, .val (.long v6), .second, .val (.int v7), .val (.long v8), .second, .unset, .unset, .unset, .unset, .unset, .unset, .unset, .unset]) rfl ?_
    show Steps p.tables e below (s₁.setTop (mkF m 48 #[.val (.int p0), .val (.int p1), .val (.int p2), .val (.int v3), .val (.long v4), .second, .val (.long v6), .second, .val (.int v7), .val (.long v8), .second, .unset, .unset, .unset, .unset, .unset, .unset, .unset, .unset] [])) _
    refine XS.iloadN X0.here hx rfl (hb hby at_48) rfl ?_
    show Steps p.tables e below (s₁.setTop (mkF m 49 #[.val (.int p0), .val (.int p1), .val (.int p2), .val (.int v3), .val (.long v4), .second, .val (.long v6), .second, .val (.int v7), .val (.long v8), .second, .unset, .unset, .unset, .unset, .unset, .unset, .unset, .unset] [(.int p2)])) _
    refine XS.i2l X0.here hx rfl (hb hby at_49) rfl ?_
    show Steps p.tables e below (s₁.setTop (mkF m 50 #[.val (.int p0), .val (.int p1), .val (.int p2), .val (.int v3), .val (.long v4), .second, .val (.long v6), .second, .val (.int v7), .val (.long v8), .second, .unset, .unset, .unset, .unset, .unset, .unset, .unset, .unset] [(.long (p2.toInt64))])) _
    refine X0.ldc2Long hx hown (mvT hZ (hw _ (List.mem_of_getElem? (i := 1) rfl))) (g := (mkF m 50 #[.val (.int p0), .val (.int p1), .val (.int p2), .val (.int v3), .val (.long v4), .second, .val (.long v6), .second, .val (.int v7), .val (.long v8), .second, .unset, .unset, .unset, .unset, .unset, .unset, .unset, .unset] [(.long (p2.toInt64))])) rfl (hb hby at_50) _ ?_
    show Steps p.tables e below (s₁.setTop (mkF m 53 #[.val (.int p0), .val (.int p1), .val (.int p2), .val (.int v3), .val (.long v4), .second, .val (.long v6), .second, .val (.int v7), .val (.long v8), .second, .unset, .unset, .unset, .unset, .unset, .unset, .unset, .unset] [(.long (2147483647 : Int64)), (.long (p2.toInt64))])) _
    refine XS.land X0.here hx rfl (hb hby at_53) rfl ?_
    show Steps p.tables e below (s₁.setTop (mkF m 54 #[.val (.int p0), .val (.int p1), .val (.int p2), .val (.int v3), .val (.long v4), .second, .val (.long v6), .second, .val (.int v7), .val (.long v8), .second, .unset, .unset, .unset, .unset, .unset, .unset, .unset, .unset] [(.long ((p2.toInt64) &&& (2147483647 : Int64)))])) _
    refine XS.lload X0.here hx rfl (hb hby at_54) rfl ?_
    show Steps p.tables e below (s₁.setTop (mkF m 56 #[.val (.int p0), .val (.int p1), .val (.int p2), .val (.int v3), .val (.long v4), .second, .val (.long v6), .second, .val (.int v7), .val (.long v8), .second, .unset, .unset, .unset, .unset, .unset, .unset, .unset, .unset] [(.long v8), (.long ((p2.toInt64) &&& (2147483647 : Int64)))])) _
    refine XS.lrem X0.here hx rfl (hb hby at_56) rfl (own_side9 p0 p1 v3 hv3 v4 hv4 v6 hv6 v7 hv7 v8 hv8) ?_
    show Steps p.tables e below (s₁.setTop (mkF m 57 #[.val (.int p0), .val (.int p1), .val (.int p2), .val (.int v3), .val (.long v4), .second, .val (.long v6), .second, .val (.int v7), .val (.long v8), .second, .unset, .unset, .unset, .unset, .unset, .unset, .unset, .unset] [(.long (((p2.toInt64) &&& (2147483647 : Int64)) - (((p2.toInt64) &&& (2147483647 : Int64)) / v8) * v8))])) _
    refine castTop (congrArg (fun z : Int64 => mkF m 57 #[.val (.int p0), .val (.int p1), .val (.int p2), .val (.int v3), .val (.long v4), .second, .val (.long v6), .second, .val (.int v7), .val (.long v8), .second, .unset, .unset, .unset, .unset, .unset, .unset, .unset, .unset] [(.long z)]) hv10.symm) ?_
    show Steps p.tables e below (s₁.setTop (mkF m 57 #[.val (.int p0), .val (.int p1), .val (.int p2), .val (.int v3), .val (.long v4), .second, .val (.long v6), .second, .val (.int v7), .val (.long v8), .second, .unset, .unset, .unset, .unset, .unset, .unset, .unset, .unset] [(.long v10)])) _
    refine XS.lstore X0.here hx rfl (hb hby at_57) rfl (l' := #[.val (.int p0), .val (.int p1), .val (.int p2), .val (.int v3), .val (.long v4), .second, .val (.long v6), .second, .val (.int v7), .val (.long v8), .second, .val (.long v10), .second, .unset, .unset, .unset, .unset, .unset, .unset]) rfl ?_
    show Steps p.tables e below (s₁.setTop (mkF m 59 #[.val (.int p0), .val (.int p1), .val (.int p2), .val (.int v3), .val (.long v4), .second, .val (.long v6), .second, .val (.int v7), .val (.long v8), .second, .val (.long v10), .second, .unset, .unset, .unset, .unset, .unset, .unset] [])) _
    refine XS.iloadN X0.here hx rfl (hb hby at_59) rfl ?_
    show Steps p.tables e below (s₁.setTop (mkF m 60 #[.val (.int p0), .val (.int p1), .val (.int p2), .val (.int v3), .val (.long v4), .second, .val (.long v6), .second, .val (.int v7), .val (.long v8), .second, .val (.long v10), .second, .unset, .unset, .unset, .unset, .unset, .unset] [(.int v3)])) _
    refine XS.i2l X0.here hx rfl (hb hby at_60) rfl ?_
    show Steps p.tables e below (s₁.setTop (mkF m 61 #[.val (.int p0), .val (.int p1), .val (.int p2), .val (.int v3), .val (.long v4), .second, .val (.long v6), .second, .val (.int v7), .val (.long v8), .second, .val (.long v10), .second, .unset, .unset, .unset, .unset, .unset, .unset] [(.long (v3.toInt64))])) _
    refine XS.lconst X0.here hx rfl (hb hby at_61) ?_
    show Steps p.tables e below (s₁.setTop (mkF m 62 #[.val (.int p0), .val (.int p1), .val (.int p2), .val (.int v3), .val (.long v4), .second, .val (.long v6), .second, .val (.int v7), .val (.long v8), .second, .val (.long v10), .second, .unset, .unset, .unset, .unset, .unset, .unset] [(.long (1 : Int64)), (.long (v3.toInt64))])) _
    refine XS.lsub X0.here hx rfl (hb hby at_62) rfl ?_
    show Steps p.tables e below (s₁.setTop (mkF m 63 #[.val (.int p0), .val (.int p1), .val (.int p2), .val (.int v3), .val (.long v4), .second, .val (.long v6), .second, .val (.int v7), .val (.long v8), .second, .val (.long v10), .second, .unset, .unset, .unset, .unset, .unset, .unset] [(.long ((v3.toInt64) - (1 : Int64)))])) _
    refine XS.lload X0.here hx rfl (hb hby at_63) rfl ?_
    show Steps p.tables e below (s₁.setTop (mkF m 65 #[.val (.int p0), .val (.int p1), .val (.int p2), .val (.int v3), .val (.long v4), .second, .val (.long v6), .second, .val (.int v7), .val (.long v8), .second, .val (.long v10), .second, .unset, .unset, .unset, .unset, .unset, .unset] [(.long v10), (.long ((v3.toInt64) - (1 : Int64)))])) _
    refine XS.ladd X0.here hx rfl (hb hby at_65) rfl ?_
    show Steps p.tables e below (s₁.setTop (mkF m 66 #[.val (.int p0), .val (.int p1), .val (.int p2), .val (.int v3), .val (.long v4), .second, .val (.long v6), .second, .val (.int v7), .val (.long v8), .second, .val (.long v10), .second, .unset, .unset, .unset, .unset, .unset, .unset] [(.long (((v3.toInt64) - (1 : Int64)) + v10))])) _
    refine XS.l2i X0.here hx rfl (hb hby at_66) rfl ?_
    show Steps p.tables e below (s₁.setTop (mkF m 67 #[.val (.int p0), .val (.int p1), .val (.int p2), .val (.int v3), .val (.long v4), .second, .val (.long v6), .second, .val (.int v7), .val (.long v8), .second, .val (.long v10), .second, .unset, .unset, .unset, .unset, .unset, .unset] [(.int ((((v3.toInt64) - (1 : Int64)) + v10).toInt32))])) _
    refine castTop (congrArg (fun z : Int32 => mkF m 67 #[.val (.int p0), .val (.int p1), .val (.int p2), .val (.int v3), .val (.long v4), .second, .val (.long v6), .second, .val (.int v7), .val (.long v8), .second, .val (.long v10), .second, .unset, .unset, .unset, .unset, .unset, .unset] [(.int z)]) hv11.symm) ?_
    show Steps p.tables e below (s₁.setTop (mkF m 67 #[.val (.int p0), .val (.int p1), .val (.int p2), .val (.int v3), .val (.long v4), .second, .val (.long v6), .second, .val (.int v7), .val (.long v8), .second, .val (.long v10), .second, .unset, .unset, .unset, .unset, .unset, .unset] [(.int v11)])) _
    refine XS.istore X0.here hx rfl (hb hby at_67) rfl (l' := #[.val (.int p0), .val (.int p1), .val (.int p2), .val (.int v3), .val (.long v4), .second, .val (.long v6), .second, .val (.int v7), .val (.long v8), .second, .val (.long v10), .second, .val (.int v11), .unset, .unset, .unset, .unset, .unset]) rfl ?_
    show Steps p.tables e below (s₁.setTop (mkF m 69 #[.val (.int p0), .val (.int p1), .val (.int p2), .val (.int v3), .val (.long v4), .second, .val (.long v6), .second, .val (.int v7), .val (.long v8), .second, .val (.long v10), .second, .val (.int v11), .unset, .unset, .unset, .unset, .unset] [])) _
    refine XS.iload X0.here hx rfl (hb hby at_69) rfl ?_
    show Steps p.tables e below (s₁.setTop (mkF m 71 #[.val (.int p0), .val (.int p1), .val (.int p2), .val (.int v3), .val (.long v4), .second, .val (.long v6), .second, .val (.int v7), .val (.long v8), .second, .val (.long v10), .second, .val (.int v11), .unset, .unset, .unset, .unset, .unset] [(.int v7)])) _
    refine XS.iload X0.here hx rfl (hb hby at_71) rfl ?_
    show Steps p.tables e below (s₁.setTop (mkF m 73 #[.val (.int p0), .val (.int p1), .val (.int p2), .val (.int v3), .val (.long v4), .second, .val (.long v6), .second, .val (.int v7), .val (.long v8), .second, .val (.long v10), .second, .val (.int v11), .unset, .unset, .unset, .unset, .unset] [(.int v11), (.int v7)])) _
    refine XS.iloadN X0.here hx rfl (hb hby at_73) rfl ?_
    show Steps p.tables e below (s₁.setTop (mkF m 74 #[.val (.int p0), .val (.int p1), .val (.int p2), .val (.int v3), .val (.long v4), .second, .val (.long v6), .second, .val (.int v7), .val (.long v8), .second, .val (.long v10), .second, .val (.int v11), .unset, .unset, .unset, .unset, .unset] [(.int v3), (.int v11), (.int v7)])) _
    refine st12 _ ?_
    show Steps p.tables e below (T12.setTop (mkF m 77 #[.val (.int p0), .val (.int p1), .val (.int p2), .val (.int v3), .val (.long v4), .second, .val (.long v6), .second, .val (.int v7), .val (.long v8), .second, .val (.long v10), .second, .val (.int v11), .unset, .unset, .unset, .unset, .unset] [(.int (own_f1 v7 v11 v3))])) _
    refine castTop (congrArg (fun z : Int32 => mkF m 77 #[.val (.int p0), .val (.int p1), .val (.int p2), .val (.int v3), .val (.long v4), .second, .val (.long v6), .second, .val (.int v7), .val (.long v8), .second, .val (.long v10), .second, .val (.int v11), .unset, .unset, .unset, .unset, .unset] [(.int z)]) hv15.symm) ?_
    show Steps p.tables e below (T12.setTop (mkF m 77 #[.val (.int p0), .val (.int p1), .val (.int p2), .val (.int v3), .val (.long v4), .second, .val (.long v6), .second, .val (.int v7), .val (.long v8), .second, .val (.long v10), .second, .val (.int v11), .unset, .unset, .unset, .unset, .unset] [(.int v15)])) _
    refine XS.istore X12.here hx rfl (hb hby at_77) rfl (l' := #[.val (.int p0), .val (.int p1), .val (.int p2), .val (.int v3), .val (.long v4), .second, .val (.long v6), .second, .val (.int v7), .val (.long v8), .second, .val (.long v10), .second, .val (.int v11), .val (.int v15), .unset, .unset, .unset, .unset]) rfl ?_
    show Steps p.tables e below (T12.setTop (mkF m 79 #[.val (.int p0), .val (.int p1), .val (.int p2), .val (.int v3), .val (.long v4), .second, .val (.long v6), .second, .val (.int v7), .val (.long v8), .second, .val (.long v10), .second, .val (.int v11), .val (.int v15), .unset, .unset, .unset, .unset] [])) _
    refine XS.iload X12.here hx rfl (hb hby at_79) rfl ?_
    show Steps p.tables e below (T12.setTop (mkF m 81 #[.val (.int p0), .val (.int p1), .val (.int p2), .val (.int v3), .val (.long v4), .second, .val (.long v6), .second, .val (.int v7), .val (.long v8), .second, .val (.long v10), .second, .val (.int v11), .val (.int v15), .unset, .unset, .unset, .unset] [(.int v7)])) _
    refine XS.i2l X12.here hx rfl (hb hby at_81) rfl ?_
    show Steps p.tables e below (T12.setTop (mkF m 82 #[.val (.int p0), .val (.int p1), .val (.int p2), .val (.int v3), .val (.long v4), .second, .val (.long v6), .second, .val (.int v7), .val (.long v8), .second, .val (.long v10), .second, .val (.int v11), .val (.int v15), .unset, .unset, .unset, .unset] [(.long (v7.toInt64))])) _
    refine XS.iload X12.here hx rfl (hb hby at_82) rfl ?_
    show Steps p.tables e below (T12.setTop (mkF m 84 #[.val (.int p0), .val (.int p1), .val (.int p2), .val (.int v3), .val (.long v4), .second, .val (.long v6), .second, .val (.int v7), .val (.long v8), .second, .val (.long v10), .second, .val (.int v11), .val (.int v15), .unset, .unset, .unset, .unset] [(.int v11), (.long (v7.toInt64))])) _
    refine XS.i2l X12.here hx rfl (hb hby at_84) rfl ?_
    show Steps p.tables e below (T12.setTop (mkF m 85 #[.val (.int p0), .val (.int p1), .val (.int p2), .val (.int v3), .val (.long v4), .second, .val (.long v6), .second, .val (.int v7), .val (.long v8), .second, .val (.long v10), .second, .val (.int v11), .val (.int v15), .unset, .unset, .unset, .unset] [(.long (v11.toInt64)), (.long (v7.toInt64))])) _
    refine XS.lsub X12.here hx rfl (hb hby at_85) rfl ?_
    show Steps p.tables e below (T12.setTop (mkF m 86 #[.val (.int p0), .val (.int p1), .val (.int p2), .val (.int v3), .val (.long v4), .second, .val (.long v6), .second, .val (.int v7), .val (.long v8), .second, .val (.long v10), .second, .val (.int v11), .val (.int v15), .unset, .unset, .unset, .unset] [(.long ((v7.toInt64) - (v11.toInt64)))])) _
    refine castTop (congrArg (fun z : Int64 => mkF m 86 #[.val (.int p0), .val (.int p1), .val (.int p2), .val (.int v3), .val (.long v4), .second, .val (.long v6), .second, .val (.int v7), .val (.long v8), .second, .val (.long v10), .second, .val (.int v11), .val (.int v15), .unset, .unset, .unset, .unset] [(.long z)]) hv16.symm) ?_
    show Steps p.tables e below (T12.setTop (mkF m 86 #[.val (.int p0), .val (.int p1), .val (.int p2), .val (.int v3), .val (.long v4), .second, .val (.long v6), .second, .val (.int v7), .val (.long v8), .second, .val (.long v10), .second, .val (.int v11), .val (.int v15), .unset, .unset, .unset, .unset] [(.long v16)])) _
    refine XS.lstore X12.here hx rfl (hb hby at_86) rfl (l' := #[.val (.int p0), .val (.int p1), .val (.int p2), .val (.int v3), .val (.long v4), .second, .val (.long v6), .second, .val (.int v7), .val (.long v8), .second, .val (.long v10), .second, .val (.int v11), .val (.int v15), .val (.long v16), .second, .unset, .unset]) rfl ?_
    show Steps p.tables e below (T12.setTop (mkF m 88 #[.val (.int p0), .val (.int p1), .val (.int p2), .val (.int v3), .val (.long v4), .second, .val (.long v6), .second, .val (.int v7), .val (.long v8), .second, .val (.long v10), .second, .val (.int v11), .val (.int v15), .val (.long v16), .second, .unset, .unset] [])) _
    refine XS.iload X12.here hx rfl (hb hby at_88) rfl ?_
    show Steps p.tables e below (T12.setTop (mkF m 90 #[.val (.int p0), .val (.int p1), .val (.int p2), .val (.int v3), .val (.long v4), .second, .val (.long v6), .second, .val (.int v7), .val (.long v8), .second, .val (.long v10), .second, .val (.int v11), .val (.int v15), .val (.long v16), .second, .unset, .unset] [(.int v11)])) _
    refine XS.iloadN X12.here hx rfl (hb hby at_90) rfl ?_
    show Steps p.tables e below (T12.setTop (mkF m 91 #[.val (.int p0), .val (.int p1), .val (.int p2), .val (.int v3), .val (.long v4), .second, .val (.long v6), .second, .val (.int v7), .val (.long v8), .second, .val (.long v10), .second, .val (.int v11), .val (.int v15), .val (.long v16), .second, .unset, .unset] [(.int v3), (.int v11)])) _
    refine XS.iconst X12.here hx rfl (hb hby at_91) ?_
    show Steps p.tables e below (T12.setTop (mkF m 92 #[.val (.int p0), .val (.int p1), .val (.int p2), .val (.int v3), .val (.long v4), .second, .val (.long v6), .second, .val (.int v7), .val (.long v8), .second, .val (.long v10), .second, .val (.int v11), .val (.int v15), .val (.long v16), .second, .unset, .unset] [(.int (1 : Int32)), (.int v3), (.int v11)])) _
    refine XS.isub X12.here hx rfl (hb hby at_92) rfl ?_
    show Steps p.tables e below (T12.setTop (mkF m 93 #[.val (.int p0), .val (.int p1), .val (.int p2), .val (.int v3), .val (.long v4), .second, .val (.long v6), .second, .val (.int v7), .val (.long v8), .second, .val (.long v10), .second, .val (.int v11), .val (.int v15), .val (.long v16), .second, .unset, .unset] [(.int (v3 - (1 : Int32))), (.int v11)])) _
    exact kk)
  obtain ⟨v19, hv19⟩ : ∃ z : Int64, z = (if v11 = (v3 - (1 : Int32)) then v16 else (v16 + (1 : Int64))) := ⟨_, rfl⟩
  have pre20 : ∀ t, Steps p.tables e below (T12.setTop (mkF m 109 #[.val (.int p0), .val (.int p1), .val (.int p2), .val (.int v3), .val (.long v4), .second, .val (.long v6), .second, .val (.int v7), .val (.long v8), .second, .val (.long v10), .second, .val (.int v11), .val (.int v15), .val (.long v16), .second, .val (.long v19), .second] [])) t → Steps p.tables e below (s₁.setTop (entryFrame m #[(.int p0), (.int p1), (.int p2)] maxLocals)) t := fun t kk => pre17 t (by
    show Steps p.tables e below (T12.setTop (mkF m 93 #[.val (.int p0), .val (.int p1), .val (.int p2), .val (.int v3), .val (.long v4), .second, .val (.long v6), .second, .val (.int v7), .val (.long v8), .second, .val (.long v10), .second, .val (.int v11), .val (.int v15), .val (.long v16), .second, .unset, .unset] [(.int (v3 - (1 : Int32))), (.int v11)])) _
    by_cases hc18 : v11 = (v3 - (1 : Int32))
    · refine XS.icmpNo X12.here hx rfl (hb hby at_93) rfl (teq hc18).2 ?_
      show Steps p.tables e below (T12.setTop (mkF m 96 #[.val (.int p0), .val (.int p1), .val (.int p2), .val (.int v3), .val (.long v4), .second, .val (.long v6), .second, .val (.int v7), .val (.long v8), .second, .val (.long v10), .second, .val (.int v11), .val (.int v15), .val (.long v16), .second, .unset, .unset] [])) _
      refine XS.lload X12.here hx rfl (hb hby at_96) rfl ?_
      show Steps p.tables e below (T12.setTop (mkF m 98 #[.val (.int p0), .val (.int p1), .val (.int p2), .val (.int v3), .val (.long v4), .second, .val (.long v6), .second, .val (.int v7), .val (.long v8), .second, .val (.long v10), .second, .val (.int v11), .val (.int v15), .val (.long v16), .second, .unset, .unset] [(.long v16)])) _
      refine XS.lstore X12.here hx rfl (hb hby at_98) rfl (l' := #[.val (.int p0), .val (.int p1), .val (.int p2), .val (.int v3), .val (.long v4), .second, .val (.long v6), .second, .val (.int v7), .val (.long v8), .second, .val (.long v10), .second, .val (.int v11), .val (.int v15), .val (.long v16), .second, .val (.long v16), .second]) rfl ?_
      show Steps p.tables e below (T12.setTop (mkF m 100 #[.val (.int p0), .val (.int p1), .val (.int p2), .val (.int v3), .val (.long v4), .second, .val (.long v6), .second, .val (.int v7), .val (.long v8), .second, .val (.long v10), .second, .val (.int v11), .val (.int v15), .val (.long v16), .second, .val (.long v16), .second] [])) _
      refine XS.goto X12.here hx rfl (pc0 := 100) (pc' := 109) rfl (hb hby at_100) (by decide) (by decide) ?_
      rw [show v19 = v16 by rw [hv19, if_pos hc18]] at kk
      exact kk
    · refine XS.icmpYes X12.here hx rfl (pc0 := 93) (pc' := 103) rfl (hb hby at_93) rfl (feq hc18).2 (by decide) (by decide) ?_
      show Steps p.tables e below (T12.setTop (mkF m 103 #[.val (.int p0), .val (.int p1), .val (.int p2), .val (.int v3), .val (.long v4), .second, .val (.long v6), .second, .val (.int v7), .val (.long v8), .second, .val (.long v10), .second, .val (.int v11), .val (.int v15), .val (.long v16), .second, .unset, .unset] [])) _
      refine XS.lload X12.here hx rfl (hb hby at_103) rfl ?_
      show Steps p.tables e below (T12.setTop (mkF m 105 #[.val (.int p0), .val (.int p1), .val (.int p2), .val (.int v3), .val (.long v4), .second, .val (.long v6), .second, .val (.int v7), .val (.long v8), .second, .val (.long v10), .second, .val (.int v11), .val (.int v15), .val (.long v16), .second, .unset, .unset] [(.long v16)])) _
      refine XS.lconst X12.here hx rfl (hb hby at_105) ?_
      show Steps p.tables e below (T12.setTop (mkF m 106 #[.val (.int p0), .val (.int p1), .val (.int p2), .val (.int v3), .val (.long v4), .second, .val (.long v6), .second, .val (.int v7), .val (.long v8), .second, .val (.long v10), .second, .val (.int v11), .val (.int v15), .val (.long v16), .second, .unset, .unset] [(.long (1 : Int64)), (.long v16)])) _
      refine XS.ladd X12.here hx rfl (hb hby at_106) rfl ?_
      show Steps p.tables e below (T12.setTop (mkF m 107 #[.val (.int p0), .val (.int p1), .val (.int p2), .val (.int v3), .val (.long v4), .second, .val (.long v6), .second, .val (.int v7), .val (.long v8), .second, .val (.long v10), .second, .val (.int v11), .val (.int v15), .val (.long v16), .second, .unset, .unset] [(.long (v16 + (1 : Int64)))])) _
      refine XS.lstore X12.here hx rfl (hb hby at_107) rfl (l' := #[.val (.int p0), .val (.int p1), .val (.int p2), .val (.int v3), .val (.long v4), .second, .val (.long v6), .second, .val (.int v7), .val (.long v8), .second, .val (.long v10), .second, .val (.int v11), .val (.int v15), .val (.long v16), .second, .val (.long (v16 + (1 : Int64))), .second]) rfl ?_
      rw [show v19 = (v16 + (1 : Int64)) by rw [hv19, if_neg hc18]] at kk
      exact kk)
  have pre21 : ∀ t, Steps p.tables e below (T12.setTop (mkF m 115 #[.val (.int p0), .val (.int p1), .val (.int p2), .val (.int v3), .val (.long v4), .second, .val (.long v6), .second, .val (.int v7), .val (.long v8), .second, .val (.long v10), .second, .val (.int v11), .val (.int v15), .val (.long v16), .second, .val (.long v19), .second] [(.int (lcmpW (v15.toInt64) v19))])) t → Steps p.tables e below (s₁.setTop (entryFrame m #[(.int p0), (.int p1), (.int p2)] maxLocals)) t := fun t kk => pre20 t (by
    show Steps p.tables e below (T12.setTop (mkF m 109 #[.val (.int p0), .val (.int p1), .val (.int p2), .val (.int v3), .val (.long v4), .second, .val (.long v6), .second, .val (.int v7), .val (.long v8), .second, .val (.long v10), .second, .val (.int v11), .val (.int v15), .val (.long v16), .second, .val (.long v19), .second] [])) _
    refine XS.iload X12.here hx rfl (hb hby at_109) rfl ?_
    show Steps p.tables e below (T12.setTop (mkF m 111 #[.val (.int p0), .val (.int p1), .val (.int p2), .val (.int v3), .val (.long v4), .second, .val (.long v6), .second, .val (.int v7), .val (.long v8), .second, .val (.long v10), .second, .val (.int v11), .val (.int v15), .val (.long v16), .second, .val (.long v19), .second] [(.int v15)])) _
    refine XS.i2l X12.here hx rfl (hb hby at_111) rfl ?_
    show Steps p.tables e below (T12.setTop (mkF m 112 #[.val (.int p0), .val (.int p1), .val (.int p2), .val (.int v3), .val (.long v4), .second, .val (.long v6), .second, .val (.int v7), .val (.long v8), .second, .val (.long v10), .second, .val (.int v11), .val (.int v15), .val (.long v16), .second, .val (.long v19), .second] [(.long (v15.toInt64))])) _
    refine XS.lload X12.here hx rfl (hb hby at_112) rfl ?_
    show Steps p.tables e below (T12.setTop (mkF m 114 #[.val (.int p0), .val (.int p1), .val (.int p2), .val (.int v3), .val (.long v4), .second, .val (.long v6), .second, .val (.int v7), .val (.long v8), .second, .val (.long v10), .second, .val (.int v11), .val (.int v15), .val (.long v16), .second, .val (.long v19), .second] [(.long v19), (.long (v15.toInt64))])) _
    refine XS.lcmp X12.here hx rfl (hb hby at_114) rfl ?_
    show Steps p.tables e below (T12.setTop (mkF m 115 #[.val (.int p0), .val (.int p1), .val (.int p2), .val (.int v3), .val (.long v4), .second, .val (.long v6), .second, .val (.int v7), .val (.long v8), .second, .val (.long v10), .second, .val (.int v11), .val (.int v15), .val (.long v16), .second, .val (.long v19), .second] [(.int (lcmpW (v15.toInt64) v19))])) _
    exact kk)
  by_cases hc22 : (v15.toInt64) = v19
  · obtain ⟨fs, hr, hrun, hended, hW, hsame⟩ := X12.leave (v := some (.int (1 : Int32))) (fun h => by rw [Bd.returns] at h; cases h)
    refine ⟨_, _, pre21 _ ?_, hrun, hended, _, _, rfl, ?_, ⟨_, rfl⟩, hW, hsame.mono (by decide) (by decide)⟩
    · show Steps p.tables e below (T12.setTop (mkF m 115 #[.val (.int p0), .val (.int p1), .val (.int p2), .val (.int v3), .val (.long v4), .second, .val (.long v6), .second, .val (.int v7), .val (.long v8), .second, .val (.long v10), .second, .val (.int v11), .val (.int v15), .val (.long v16), .second, .val (.long v19), .second] [(.int (lcmpW (v15.toInt64) v19))])) _
      refine XS.ifNo X12.here hx rfl (hb hby at_115) rfl ((if0 _ _).trans (teq ((lw_eq (v15.toInt64) v19).mpr hc22)).2) ?_
      show Steps p.tables e below (T12.setTop (mkF m 118 #[.val (.int p0), .val (.int p1), .val (.int p2), .val (.int v3), .val (.long v4), .second, .val (.long v6), .second, .val (.int v7), .val (.long v8), .second, .val (.long v10), .second, .val (.int v11), .val (.int v15), .val (.long v16), .second, .val (.long v19), .second] [])) _
      refine XS.iconst X12.here hx rfl (hb hby at_118) ?_
      show Steps p.tables e below (T12.setTop (mkF m 119 #[.val (.int p0), .val (.int p1), .val (.int p2), .val (.int v3), .val (.long v4), .second, .val (.long v6), .second, .val (.int v7), .val (.long v8), .second, .val (.long v10), .second, .val (.int v11), .val (.int v15), .val (.long v16), .second, .val (.long v19), .second] [(.int (1 : Int32))])) _
      refine XS.goto X12.here hx rfl (pc0 := 119) (pc' := 123) rfl (hb hby at_119) (by decide) (by decide) ?_
      show Steps p.tables e below (T12.setTop (mkF m 123 #[.val (.int p0), .val (.int p1), .val (.int p2), .val (.int v3), .val (.long v4), .second, .val (.long v6), .second, .val (.int v7), .val (.long v8), .second, .val (.long v10), .second, .val (.int v11), .val (.int v15), .val (.long v16), .second, .val (.long v19), .second] [(.int (1 : Int32))])) _
      exact retN X12 hx (t := .boolean) Bd.returns (by simp) (hb hby at_123) hr
    · show own_Q0 Z p0 p1 p2 h0 n0 _ T12.heap _
      rw [e14]
      exact ⟨rfl, N13⟩
  · exact (own_leaf0_2 p0 p1 p2 v3 hv3 v4 hv4 v6 hv6 v7 hv7 v8 hv8 v10 hv10 v11 hv11 v15 hv15 v16 hv16 v19 hv19 hc22).elim
set_option maxRecDepth 65536 in
set_option maxHeartbeats 40000000 in
theorem comes_1 {Post : Tables → Env → Array Value → State → Outcome → State → Prop} (hpost : ∀ tb e args s v u, (limb_1_1.after args s (.returned v) u = true ∧ limb_1_2.after args s (.returned v) u = true ∧ True) → FrameEnd s (.returned v) u (Jvm.fieldLocs frame_1_writes args s ++ Jvm.arrayLocs frame_1_arrays args s ++ Jvm.staticLocs frame_1_statics s) 0 0 → Post tb e args s (.returned v) u) :
    ArmFor flags0 classFile x code maxLocals ret World_1 tables_1 room_1 Calls_1 rest_1 Pre_1 Post := by
  intro l hfl _ _ p e ha hc hk s m args below hf hA hF happ hP
  obtain ⟨hcalls, hrest, hpre⟩ := hP
  obtain ⟨-, -, -, hnamed, -, -, -, hat⟩ := (Spec.applies_iff hf).mp happ
  obtain ⟨hg, hn⟩ := and_e (Cond.before_iff.mp (show (Jvm.Cond.and given_1 narrow_1).before args s = true from hpre))
  obtain ⟨gg1, gg2⟩ := and_e hg
  obtain ⟨gg3, gg4⟩ := and_e gg2
  obtain ⟨gg5, gg6⟩ := and_e gg4
  obtain ⟨w0, w1, w2, rfl⟩ : ∃ w0 w1 w2 : Value, args = #[w0, w1, w2] := by
    have hs : args.size = 3 := by simpa [Cond.value, given_1] using gg1
    obtain ⟨L⟩ := args
    match L, hs with
    | [w0, w1, w2], _ => exact ⟨w0, w1, w2, rfl⟩
  have hw := fun d (hd : d ∈ tables_1) => atoms_spec (ws := Jvm.Cond.code x code maxLocals ret :: tables_1) hat d (List.mem_cons_of_mem _ hd)
  have hfit : Fit s := fun {y c} hc i hi => by
    obtain ⟨ha, rfl⟩ := Array.getElem?_eq_some_iff.mp hc
    have q := List.all_eq_true.mp ((Array.all_eq_true_iff_forall_mem.mp hF) _ (Array.getElem_mem ha)) i (List.mem_range.mpr hi)
    simpa [Array.getElem?_eq_getElem hi] using q
  obtain ⟨i0, ei0⟩ := is_v gg3
  obtain rfl : w0 = (.int i0) := Option.some.inj ei0
  obtain ⟨i1, ei1⟩ := is_v gg5
  obtain rfl : w1 = (.int i1) := Option.some.inj ei1
  obtain ⟨i2, ei2⟩ := is_v gg6
  obtain rfl : w2 = (.int i2) := Option.some.inj ei2
  obtain ⟨n, o, h1, h2, h3, _, L, rfl, ⟨rfl, N⟩, hq⟩ := own_rm0 l s _ hw tables_1 i0 i1 i2 s.heap s.heap.size (Nat.le_refl _)  p e ha hc hk s m _ below hf ((Spec.applies_iff_loose hf).mp happ).1 ⟨rfl, State.Warmed39.refl s, rfl⟩ trivial
  refine ⟨n, _, h1, h2, h3, hpost _ _ _ _ _ _ ⟨Cond.after_iff.mpr rfl, Cond.after_iff.mpr (eq_i res_at (Term.int_eval (1)) rfl), trivial⟩ ⟨hq.1, hq.2.1, (hq.2.2.sift fun y hy => Or.inr (N y hy)).mono (by decide) (by decide)⟩⟩
theorem main_1_1 : Claimed_1_1 := comes_1 fun _ _ _ _ _ _ h hF => ⟨h.1, hF⟩
theorem main_1_2 : Claimed_1_2 := comes_1 fun _ _ _ _ _ _ h hF => ⟨h.2.1, hF⟩
end Jvm.Pilot.@@N@@
namespace Jvm.Pilot.@@N@@
open Jvm Jvm.ClassFile Sem Op Lib Jvm.Free Jvm.Stand Jvm.Pilot.@@N@@.Jvm.D
/-! MADE BY PROGRAM (witnessworld.py) out of the Statement's table words and the real class files: 10 classes; the members and pool entries that the words name. The judged class is class 1, her method 1. -/
namespace start1
open Jvm.ClassFile
def u (s : String) : CpInfo := .utf8 (stringToUtf16 s)
/-- a pool by its gaps: so many unusable entries, then the entry; so many at the end -/
def gap : Nat → List CpInfo → List CpInfo
  | 0, r => r
  | n + 1, r => .unusable :: gap n r
def poolList (es : List (Nat × CpInfo)) (last : Nat) : List CpInfo := es.foldr (fun e r => gap e.1 (e.2 :: r)) (gap last [])
def pool (es : List (Nat × CpInfo)) (last : Nat) : Array CpInfo := ⟨poolList es last⟩
def fileOf (pool : Array CpInfo) (this : Nat) (attrs : Array Attribute := #[]) (ms : Array MethodInfo := #[]) (fl : Nat := 33) (sup : Nat := 0) (ifs : Array Nat := #[]) (fds : Array FieldInfo := #[]) : ClassFile where
  minorVersion := 0
  majorVersion := 65
  constantPool := pool
  accessFlags := fl
  thisClass := this
  superClass := sup
  interfaces := ifs
  fields := fds
  methods := ms
  attributes := attrs
def plain (name : String) (sup : Option ClassId) : Class where
  name := name
  kind := .ordinary
  loader := none
  accessFlags := 33
  super := sup
  interfaces := #[]
  cf := none
  fields := #[]
  methods := #[]
  instanceTypes := #[]
  staticTypes := #[]
  resolved := #[]
  callSites := []
  init := .initialized
  statics := none
  mirror := none

def pool0 : Array CpInfo := pool [(5, u "<init>"), (0, u "()V"), (1, .class_ 10), (1, u "java/lang/Object")] 113

def k0m0 : Method := { name := "<init>", desc := "()V", sig := { parameters := [], returnType := none }, accessFlags := 1, code := none }
/-- java/lang/Object -/
def k0 : Class := { plain "java/lang/Object" none with
  accessFlags := 33
  interfaces := #[]
  cf := some (fileOf pool0 8 #[] #[{ accessFlags := 1, nameIndex := 5, descriptorIndex := 6, attributes := #[] }] 33 0 #[] #[])
  fields := #[]
  methods := #[k0m0]
  instanceTypes := #[]
  staticTypes := #[]
  resolved := Array.replicate 124 none
  statics := none }

def pool1 : Array CpInfo := pool [(2, .class_ 4), (1, u "java/lang/Object"), (0, u "<init>"), (0, u "()V"), (0, .integer 2147483647), (2, .long 2147483647), (1, .long 2), (1, .methodref 15 16), (0, .class_ 17), (0, .nameAndType 18 19), (0, u "com/example/needlework/needlework/single/PatternSearcher"), (0, u "testsFromRight"), (0, u "(III)I"), (0, .class_ 21), (0, u "com/example/needlework/needlework/single/PatternSearcherTestsFromRightPinLaw"), (2, u "law"), (0, u "(III)Z")] 3

def k1m0 : Method := { name := "<init>", desc := "()V", sig := { parameters := [], returnType := none }, accessFlags := 2, code := none }
def k1c1 : Code := { maxStack := 4, maxLocals := 19, code := code, exceptionTable := #[], attributes := #[] }
def k1m1 : Method := { name := "law", desc := "(III)Z", sig := { parameters := [.int, .int, .int], returnType := some .boolean }, accessFlags := 9, code := some k1c1 }
/-- com/example/needlework/needlework/single/PatternSearcherTestsFromRightPinLaw -/
def k1 : Class := { plain "com/example/needlework/needlework/single/PatternSearcherTestsFromRightPinLaw" (some 0) with
  accessFlags := 49
  interfaces := #[]
  cf := some (fileOf pool1 20 #[] #[{ accessFlags := 2, nameIndex := 5, descriptorIndex := 6, attributes := #[] }, { accessFlags := 9, nameIndex := 24, descriptorIndex := 25, attributes := #[] }] 49 2 #[] #[])
  fields := #[]
  methods := #[k1m0, k1m1]
  instanceTypes := #[]
  staticTypes := #[]
  resolved := Array.replicate 29 none
  statics := none }

def pool2 : Array CpInfo := pool [(1, .class_ 2), (0, u "com/example/needlework/needlework/api/Searcher"), (0, .class_ 4), (0, u "java/lang/Object")] 10

/-- com/example/needlework/needlework/api/Searcher -/
def k2 : Class := { plain "com/example/needlework/needlework/api/Searcher" (some 0) with
  accessFlags := 1537
  interfaces := #[]
  cf := some (fileOf pool2 1 #[] #[] 1537 3 #[] #[])
  fields := #[]
  methods := #[]
  instanceTypes := #[]
  staticTypes := #[]
  resolved := Array.replicate 15 none
  statics := none }

def pool3 : Array CpInfo := pool [(2, .class_ 4), (1, u "java/lang/Object"), (9, .class_ 16), (1, u "com/example/needlework/needlework/single/PatternSearcher"), (0, u "pattern"), (0, u "Ljava/lang/String;"), (8, u "chars"), (0, u "[C"), (21, u "(III)I"), (28, .class_ 80), (0, u "com/example/needlework/needlework/api/Searcher"), (11, u "testsFromRight")] 6

def k3c0 : Code := { maxStack := 2, maxLocals := 3, code := prog_17_method_6_code, exceptionTable := #[], attributes := #[] }
def k3m0 : Method := { name := "testsFromRight", desc := "(III)I", sig := { parameters := [.int, .int, .int], returnType := some .int }, accessFlags := 8, code := some k3c0 }
/-- com/example/needlework/needlework/single/PatternSearcher -/
def k3 : Class := { plain "com/example/needlework/needlework/single/PatternSearcher" (some 0) with
  accessFlags := 1056
  interfaces := #[2]
  cf := some (fileOf pool3 14 #[] #[{ accessFlags := 8, nameIndex := 92, descriptorIndex := 50, attributes := #[] }] 1056 2 #[79] #[{ accessFlags := 18, nameIndex := 17, descriptorIndex := 18, attributes := #[] }, { accessFlags := 16, nameIndex := 27, descriptorIndex := 28, attributes := #[] }])
  fields := #[{ name := "pattern", type := (.object "java/lang/String"), accessFlags := 18, slot := 0, constantValue := 0 }, { name := "chars", type := (.array .char), accessFlags := 16, slot := 1, constantValue := 0 }]
  methods := #[k3m0]
  instanceTypes := #[(.object "java/lang/String"), (.array .char)]
  staticTypes := #[]
  resolved := Array.replicate 99 none
  statics := none }

def pool4 : Array CpInfo := pool [(1, u "java/lang/Cloneable"), (0, .class_ 1), (0, u "java/lang/Object"), (0, .class_ 3)] 3

/-- java/lang/Cloneable -/
def k4 : Class := { plain "java/lang/Cloneable" (some 0) with
  accessFlags := 1537
  interfaces := #[]
  cf := some (fileOf pool4 2 #[] #[] 1537 4 #[] #[])
  fields := #[]
  methods := #[]
  instanceTypes := #[]
  staticTypes := #[]
  resolved := Array.replicate 8 none
  statics := none }

def pool5 : Array CpInfo := pool [(1, u "java/io/Serializable"), (0, .class_ 1), (0, u "java/lang/Object"), (0, .class_ 3)] 3

/-- java/io/Serializable -/
def k5 : Class := { plain "java/io/Serializable" (some 0) with
  accessFlags := 1537
  interfaces := #[]
  cf := some (fileOf pool5 2 #[] #[] 1537 4 #[] #[])
  fields := #[]
  methods := #[]
  instanceTypes := #[]
  staticTypes := #[]
  resolved := Array.replicate 8 none
  statics := none }

/-- the primitive byte -/
def k6 : Class := { plain "byte" none with kind := .primitive 'B', accessFlags := 0x411 }
/-- [B -/
def k7 : Class := { plain "[B" (some 0) with kind := .array 6 .byte, interfaces := #[4, 5], accessFlags := 1041 }

/-- the primitive int -/
def k8 : Class := { plain "int" none with kind := .primitive 'I', accessFlags := 0x411 }
/-- [I -/
def k9 : Class := { plain "[I" (some 0) with kind := .array 8 .int, interfaces := #[4, 5], accessFlags := 1041 }

def heap : Heap := #[]
def classes : Array Class := #[k0, k1, k2, k3, k4, k5, k6, k7, k8, k9]
def interned : List (Array UInt16 × Addr) := []
def slotsUsed : Nat := 0
def theMethod : MethodId := ⟨1, 1⟩
def args0 : Array Value := #[.int 5, .int 7, .int 1]
def aboutOver (below : List Frame) : State where
  vm := { classes := classes, interned := interned.toArray }
  heap := heap
  slotsUsed := slotsUsed
  threads := #[{ frames := .invoking theMethod args0 :: below }]
def below0 : List Frame := [.native { method := ⟨0, 0⟩, args := #[] }]
def about1 : State := aboutOver below0
def p0 : Program := .bare "" "" ""
def e0 : Env := launch0.env 0 0 0
theorem w_frames : about1.frames = Frame.invoking theMethod args0 :: below0 := rfl
set_option maxRecDepth 65536 in
theorem w_args : argsFit about1.vm theMethod args0 = true := by decide +kernel
set_option maxRecDepth 65536 in
theorem w_heap : heapFits about1 = true := by decide +kernel
set_option maxRecDepth 65536 in
theorem w_runnable : about1.curStatus? = some .runnable := by decide +kernel
set_option maxRecDepth 65536 in
theorem w_alone : about1.alone = true := by decide +kernel
set_option maxRecDepth 65536 in
theorem w_named : about1.methodNamed? x = some theMethod := by decide +kernel
set_option maxRecDepth 65536 in
theorem w_hears : about1.hears theMethod below0 = true := by decide +kernel
set_option maxRecDepth 65536 in
theorem w_ripe : about1.ripe theMethod args0 below0 = true := by decide +kernel
theorem w_running : about1.status = .running := rfl
set_option maxRecDepth 65536 in
theorem w_room : about1.hasRoom e0.platform room_1 = true :=
  launch0.hasRoom_least _ room_1 (by decide +kernel) (by decide +kernel) (by decide +kernel) (by decide +kernel) (by decide +kernel) (by decide +kernel)
theorem allAtoms_all (ts : List Jvm.Cond) (a : Array Jvm.Value) (st : Jvm.State) : (allAtoms ts).before a st = ts.all (fun c => c.before a st) := by
  induction ts with
  | nil => rfl
  | cons c t ih =>
    show (Jvm.Cond.and c (allAtoms t)).before a st = _
    rw [Jvm.Cond.before_and, ih, List.all_cons]
def words1 : List Jvm.Cond := Jvm.Cond.code x code maxLocals ret :: tables_1
/-- a 'code' word, met by the world's own term for the bytes: nothing is compared byte by byte -/
theorem code_word {y : MethodName} {bytes : ByteArray} {mx : Nat} {rt : Option FieldType} {a : Array Value} {s : State} {m : MethodId} {meth : Method} {c : Code} (h1 : s.methodNamed? y = some m) (h2 : s.vm.method? m = some meth) (h3 : meth.code = some c) (h4 : c.code = bytes)
    (h5 : (c.maxLocals == mx && c.exceptionTable.isEmpty && decide (c.maxStack ≤ mostOperands) && decide (meth.sig.returnType = rt) && !meth.locks && decide (parseMethodDescriptor y.desc = some meth.sig)) = true) : (Jvm.Cond.code y bytes mx rt).before a s = true := by
  simp only [Bool.and_eq_true, beq_iff_eq, Bool.not_eq_true', decide_eq_true_eq] at h5
  obtain ⟨⟨⟨⟨⟨g1, g2⟩, g3⟩, g4⟩, g5⟩, g6⟩ := h5
  simp [Cond.before, Cond.holds, Cond.value, h1, h2, h3, h4, g1, g2, g3, g4, g5, g6]
def isCode : Jvm.Cond → Bool
  | .code _ _ _ _ => true
  | _ => false
theorem all_split {L : List Jvm.Cond} {P : Jvm.Cond → Bool} (h1 : L.all (fun c => isCode c || P c) = true) (h2 : ∀ c ∈ L.filter isCode, P c = true) : L.all P = true := by
  refine List.all_eq_true.mpr fun c hc => ?_
  have h := List.all_eq_true.mp h1 c hc
  rcases Bool.eq_false_or_eq_true (isCode c) with hi | hi
  · exact h2 c (List.mem_filter.mpr ⟨hc, hi⟩)
  · simpa [hi] using h
set_option maxRecDepth 65536 in
theorem w_c0 : (Jvm.Cond.code x code maxLocals ret).before args0 about1 = true := code_word (m := ⟨1, 1⟩) (meth := k1m1) (c := k1c1) (by decide +kernel) rfl rfl rfl (by decide +kernel)
set_option maxRecDepth 65536 in
theorem w_c1 : (Jvm.Cond.code ({ cls := "com/example/needlework/needlework/single/PatternSearcher", name := "testsFromRight", desc := "(III)I" } : Jvm.MethodName) prog_17_method_6_code (3 : Nat) (Option.some Jvm.ClassFile.FieldType.int)).before args0 about1 = true := code_word (m := ⟨3, 0⟩) (meth := k3m0) (c := k3c0) (by decide +kernel) rfl rfl rfl (by decide +kernel)
def codes1 : List Jvm.Cond := [Jvm.Cond.code x code maxLocals ret, Jvm.Cond.code ({ cls := "com/example/needlework/needlework/single/PatternSearcher", name := "testsFromRight", desc := "(III)I" } : Jvm.MethodName) prog_17_method_6_code (3 : Nat) (Option.some Jvm.ClassFile.FieldType.int)]
set_option maxRecDepth 65536 in
theorem codes_eq : words1.filter isCode = codes1 := rfl
theorem w_codes : ∀ c ∈ words1.filter isCode, c.before args0 about1 = true := by
  rw [codes_eq]
  intro c hc
  simp only [codes1, List.mem_cons, List.not_mem_nil, or_false] at hc
  rcases hc with rfl | rfl
  · exact w_c0
  · exact w_c1
set_option maxRecDepth 65536 in
theorem w_t1 : words1.all (fun c => isCode c || c.before args0 about1) = true := by decide +kernel
theorem w_tables : (allAtoms (Jvm.Cond.code x code maxLocals ret :: tables_1)).before args0 about1 = true := by
  rw [allAtoms_all]
  show words1.all (fun c => c.before args0 about1) = true
  refine all_split ?_ w_codes
  rw [w_t1]
set_option maxRecDepth 65536 in
theorem w_case : (Jvm.Cond.and given_1 narrow_1).before args0 about1 = true := by decide +kernel
theorem w_applies : (headSpec (Jvm.Cond.code x code maxLocals ret :: tables_1) room_1).applies x e0.platform about1 = true :=
  (Spec.applies_iff w_frames).mpr ⟨w_running, w_runnable, w_alone, w_named, w_hears, w_ripe, w_room, w_tables⟩
theorem atStart : AtStart classFile x code maxLocals ret World_1 tables_1 room_1 Calls_1 rest_1 Pre_1 launch0 p0 e0 about1 theMethod args0 below0 :=
  ⟨lists_1, trivial, launch0.admits_env _ _ _, launch0.least_env, fairChoices_fair.cas, fairChoices_fair.clock, w_frames, w_args, w_heap, w_applies, trivial, trivial, w_case⟩
end start1
theorem witness_1 : WitnessClaimed_1 := ⟨start1.p0, start1.e0, start1.about1, start1.theMethod, start1.args0, start1.below0, start1.atStart⟩
end Jvm.Pilot.@@N@@
