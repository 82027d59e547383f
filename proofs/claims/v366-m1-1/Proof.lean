import JvmDerived
import JvmDerived.Pilot.@@N@@Statement
import JvmDerived.Pilot.@@N@@Code
set_option linter.unusedVariables false
set_option linter.unusedSimpArgs false
namespace Jvm.RoadKit
open Sem ClassFile Op Lib Jvm.Stand Jvm.Free Jvm.LawKit
section New
variable {p : Program} {l : Launch} {e : Env} {R : Room} {s : State} {m : MethodId} {args : Array Value} {below : List Frame} {meth : Method} {c : Code} {T : State} {locs : List Loc} {cells slots : Nat}
theorem retI (X : Stand p l e R s m args below meth c T locs cells slots) (hx : p.tables.exec = Jvm.exec) {pc : Nat} {Ls : Array Slot} {z : Int32} {rest : List Value} (hret : meth.sig.returnType = some .int) (hd : decode c.code pc = .ok (.ireturn, 1)) {fs : List Frame}
    (hl : ∀ (f : JFrame) (acts : List Action), f.method = m → f.locked = none → f.entered = [] → (doReturn e (T.setTop f) acts (some (.int z))).1 = T.setFrames fs) : Steps p.tables e below (T.setTop (mkF m pc Ls (.int z :: rest))) (T.setFrames fs) := by
  have hm' : T.vm.method? m = some meth := X.method'
  have hn : narrow .int (.int z) = .int z := rfl
  show Steps p.tables e below (T.setTop { method := m, pc := pc, locals := Ls, stack := _ :: rest, locked := none }) _
  jvm_step X.here [X.here.top, hx, hd, hm', hret, hn]
  first | (intro acts; rw [hl _ acts rfl rfl rfl]) | rw [hl _ _ rfl rfl rfl]
  exact Steps.refl _
end New
end Jvm.RoadKit
namespace Jvm.Pilot.@@N@@
open Jvm Jvm.ClassFile Sem Op Lib Jvm.Free Jvm.Stand Jvm.LawKit Jvm.RoadKit Bundle Jvm.Pilot.@@N@@.Jvm.D
theorem own_lrem (x y : Int64) : 0 ≤ x.toInt → 0 < y.toInt → 0 ≤ (x - (x / y) * y).toInt ∧ (x - (x / y) * y).toInt < y.toInt ∧ (x - (x / y) * y).toInt ≤ x.toInt := by
  intro h1 h2
  rw [(c_lrem x y y.toInt rfl).1 h1]
  have a1 := Int.emod_nonneg x.toInt (show y.toInt ≠ 0 by omega)
  have a2 := Int.emod_lt_of_pos x.toInt h2
  refine ⟨a1, a2, ?_⟩
  by_cases q : x.toInt < y.toInt
  · rw [Int.emod_eq_of_lt h1 q]; exact Int.le_refl _
  · omega
def own_L (g : Nat → Int64) : List Value := [(.long (g 0)), (.long (g 1)), (.long (g 2)), (.long (g 3))]
def own_M (f : Nat → Int32) : List Value := [(.int (f 0)), (.int (f 1)), (.int (f 2)), (.int (f 3)), (.int (f 4)), (.int (f 5)), (.int (f 6)), (.int (f 7))]
def own_upd (g : Nat → Int64) (u : Nat) (w : Int64) : Nat → Int64 := fun j => if j = u then w else g j
def own_updI (f : Nat → Int32) (u : Nat) (w : Int32) : Nat → Int32 := fun j => if j = u then w else f j
theorem own_Lget (g : Nat → Int64) (n : Nat) (h : n < 4) : (own_L g).getD n (.long (0 : Int64)) = (.long (g n)) := by
  match n, h with
  | 0, _ => rfl
  | 1, _ => rfl
  | 2, _ => rfl
  | 3, _ => rfl
theorem own_Lset (g : Nat → Int64) (n : Nat) (w : Int64) (h : n < 4) : (own_L g).set n (.long w) = own_L (own_upd g n w) := by
  match n, h with
  | 0, _ => rfl
  | 1, _ => rfl
  | 2, _ => rfl
  | 3, _ => rfl
theorem own_Mset (f : Nat → Int32) (n : Nat) (w : Int32) (h : n < 8) : (own_M f).set n (.int w) = own_M (own_updI f n w) := by
  match n, h with
  | 0, _ => rfl
  | 1, _ => rfl
  | 2, _ => rfl
  | 3, _ => rfl
  | 4, _ => rfl
  | 5, _ => rfl
  | 6, _ => rfl
  | 7, _ => rfl
theorem own_Mget (f : Nat → Int32) (n : Nat) (h : n < 8) : (own_M f).getD n (.int (0 : Int32)) = (.int (f n)) := by
  match n, h with
  | 0, _ => rfl
  | 1, _ => rfl
  | 2, _ => rfl
  | 3, _ => rfl
  | 4, _ => rfl
  | 5, _ => rfl
  | 6, _ => rfl
  | 7, _ => rfl
def own_w (p : Int32) : Nat := (p / (64 : Int32)).toNatClampNeg
def own_bit (p : Int32) : Int64 := ((1 : Int64) <<< (p &&& 0x3f).toInt64)
def own_In (nb p : Int32) : Prop := ¬ (p / (64 : Int32)) < 0 ∧ (p / (64 : Int32)) < nb
theorem own_In4 {nb p : Int32} (h : own_In nb p) (h4 : ¬ ((4 : Int32) < nb)) : own_w p < 4 := by
  obtain ⟨h1, h2⟩ := h
  simp only [Int32.lt_iff_toInt_lt, Int32.reduceToInt] at h1 h2 h4
  simp only [own_w, Int32.toNatClampNeg]; omega
def own_Sz (k : Nat) (sz : Int32) : Prop := (k = 0 ∧ sz = (0 : Int32)) ∨ (k = 1 ∧ sz = (1 : Int32)) ∨ (k = 2 ∧ sz = (2 : Int32)) ∨ (k = 3 ∧ sz = (3 : Int32))
theorem own_SzB {k : Nat} {sz : Int32} (h : own_Sz k sz) : (¬ sz < 0 ∧ sz < (8 : Int32)) ∧ ¬ (sz = (8 : Int32)) ∧ sz.toNatClampNeg = k ∧ k < 8 := by
  rcases h with ⟨rfl, rfl⟩ | ⟨rfl, rfl⟩ | ⟨rfl, rfl⟩ | ⟨rfl, rfl⟩ <;> decide
def own_St (n : Nat) (nb : Int32) (g : Nat → Int64) (f : Nat → Int32) (sz : Int32) : Prop := ∃ k, k ≤ n ∧ own_Sz k sz ∧ (∀ j, j < k → own_In nb (f j)) ∧ ∀ i, g i ≠ 0 → ∃ j, j < k ∧ own_w (f j) = i
def own_AddR (g : Nat → Int64) (f : Nat → Int32) (sz p : Int32) (g' : Nat → Int64) (f' : Nat → Int32) (sz' r : Int32) : Prop :=
  ((g (own_w p) &&& own_bit p) = 0 ∧ r = (1 : Int32) ∧ g' = own_upd g (own_w p) (g (own_w p) ||| own_bit p) ∧ f' = own_updI f sz.toNatClampNeg p ∧ sz' = sz + (1 : Int32)) ∨ (¬ (g (own_w p) &&& own_bit p) = 0 ∧ r = (0 : Int32) ∧ g' = g ∧ f' = f ∧ sz' = sz)
theorem own_addS {n : Nat} {nb : Int32} {g g' : Nat → Int64} {f f' : Nat → Int32} {sz sz' p r : Int32} (S : own_St n nb g f sz) (hn : n ≤ 2) (hp : own_In nb p) (h : own_AddR g f sz p g' f' sz' r) : own_St (n + 1) nb g' f' sz' := by
  obtain ⟨k, hk, hsz, hin, hg⟩ := S
  rcases h with ⟨-, -, rfl, rfl, rfl⟩ | ⟨-, -, rfl, rfl, rfl⟩
  · have e := (own_SzB hsz).2.2.1
    refine ⟨k + 1, by omega, ?_, fun j hj => ?_, fun i hi => ?_⟩
    · rcases hsz with ⟨rfl, rfl⟩ | ⟨rfl, rfl⟩ | ⟨rfl, rfl⟩ | ⟨rfl, rfl⟩
      · exact Or.inr (Or.inl ⟨rfl, by decide⟩)
      · exact Or.inr (Or.inr (Or.inl ⟨rfl, by decide⟩))
      · exact Or.inr (Or.inr (Or.inr ⟨rfl, by decide⟩))
      · omega
    · rw [e]; unfold own_updI
      by_cases q : j = k
      · rw [if_pos q]; exact hp
      · rw [if_neg q]; exact hin j (by omega)
    · rw [e]
      by_cases q : i = own_w p
      · exact ⟨k, by omega, by unfold own_updI; rw [if_pos rfl, q]⟩
      · obtain ⟨j, h1, h2⟩ := hg i (by unfold own_upd at hi; rwa [if_neg q] at hi)
        exact ⟨j, by omega, by unfold own_updI; rw [if_neg (by omega), h2]⟩
  · exact ⟨k, by omega, hsz, hin, hg⟩
def own_clr (g : Nat → Int64) (f : Nat → Int32) : Nat → Nat → Int64
  | 0 => g
  | k + 1 => own_upd (own_clr g f k) (own_w (f k)) 0
theorem own_clr_ne (g : Nat → Int64) (f : Nat → Int32) (i : Nat) : ∀ k, own_clr g f k i ≠ 0 → g i ≠ 0 ∧ ∀ j, j < k → own_w (f j) ≠ i
  | 0, h => ⟨h, fun j hj => absurd hj (Nat.not_lt_zero j)⟩
  | k + 1, h => by
    by_cases q : i = own_w (f k)
    · exact absurd (by show own_upd _ _ _ i = 0; unfold own_upd; rw [if_pos q]) h
    · have h' : own_clr g f k i ≠ 0 := fun z => h (by show own_upd _ _ _ i = 0; unfold own_upd; rw [if_neg q]; exact z)
      obtain ⟨h1, h2⟩ := own_clr_ne g f i k h'
      exact ⟨h1, fun j hj => if e : j = k then by rw [e]; exact fun z => q z.symm else h2 j (by omega)⟩
theorem own_clr0 {n : Nat} {nb : Int32} {g : Nat → Int64} {f : Nat → Int32} {sz : Int32} (S : own_St n nb g f sz) : ∃ k, own_Sz k sz ∧ (∀ j, j < k → own_In nb (f j)) ∧ own_clr g f k = fun _ => (0 : Int64) := by
  obtain ⟨k, hk, hsz, hin, hg⟩ := S
  refine ⟨k, hsz, hin, funext fun i => Classical.byContradiction fun h => ?_⟩
  obtain ⟨h1, h2⟩ := own_clr_ne g f i k h
  obtain ⟨j, q1, q2⟩ := hg i h1
  exact h2 j q1 q2
theorem own_St0 (nb : Int32) (f : Nat → Int32) : own_St 0 nb (fun _ => (0 : Int64)) f (0 : Int32) := ⟨0, Nat.le_refl _, Or.inl ⟨rfl, rfl⟩, fun j hj => absurd hj (Nat.not_lt_zero j), fun i hi => absurd rfl hi⟩
def own_ct (g : Nat → Int64) (p : Int32) : Int32 := if (g (own_w p) &&& own_bit p) = (0 : Int64) then (0 : Int32) else (1 : Int32)
theorem own_ct0 (p : Int32) : own_ct (fun _ => (0 : Int64)) p = (0 : Int32) := by
  unfold own_ct; rw [if_pos (by simp)]
theorem own_fresh {f f' : Nat → Int32} {g' : Nat → Int64} {p sz' r : Int32} (h : own_AddR (fun _ => (0 : Int64)) f (0 : Int32) p g' f' sz' r) : r = (1 : Int32) ∧ sz' = (1 : Int32) ∧ f' 0 = p := by
  rcases h with ⟨-, rfl, -, rfl, rfl⟩ | ⟨h, -⟩
  · exact ⟨rfl, by decide, by unfold own_updI; rw [if_pos (by decide)]⟩
  · exact absurd (by simp) h

theorem own_d1_0 : decode prog_120_method_1_code 0 = .ok (.aload_n 0, 1) := by decide +kernel
theorem own_d1_1 : decode prog_120_method_1_code 1 = .ok (.invokespecial 1, 3) := by decide +kernel
theorem own_d1_4 : decode prog_120_method_1_code 4 = .ok (.aload_n 0, 1) := by decide +kernel
theorem own_d1_5 : decode prog_120_method_1_code 5 = .ok (.bipush 8, 2) := by decide +kernel
theorem own_d1_7 : decode prog_120_method_1_code 7 = .ok (.newarray .int, 2) := by decide +kernel
theorem own_d1_9 : decode prog_120_method_1_code 9 = .ok (.putfield 7, 3) := by decide +kernel
theorem own_d1_12 : decode prog_120_method_1_code 12 = .ok (.aload_n 0, 1) := by decide +kernel
theorem own_d1_13 : decode prog_120_method_1_code 13 = .ok (.iload_n 1, 1) := by decide +kernel
theorem own_d1_14 : decode prog_120_method_1_code 14 = .ok (.bipush 64, 2) := by decide +kernel
theorem own_d1_16 : decode prog_120_method_1_code 16 = .ok (.iadd, 1) := by decide +kernel
theorem own_d1_17 : decode prog_120_method_1_code 17 = .ok (.iconst 1, 1) := by decide +kernel
theorem own_d1_18 : decode prog_120_method_1_code 18 = .ok (.isub, 1) := by decide +kernel
theorem own_d1_19 : decode prog_120_method_1_code 19 = .ok (.bipush 64, 2) := by decide +kernel
theorem own_d1_21 : decode prog_120_method_1_code 21 = .ok (.idiv, 1) := by decide +kernel
theorem own_d1_22 : decode prog_120_method_1_code 22 = .ok (.newarray .long, 2) := by decide +kernel
theorem own_d1_24 : decode prog_120_method_1_code 24 = .ok (.putfield 15, 3) := by decide +kernel
theorem own_d1_27 : decode prog_120_method_1_code 27 = .ok (.return_, 1) := by decide +kernel
set_option maxRecDepth 65536 in
set_option maxHeartbeats 40000000 in
theorem own_side19 (p1 : Int32) (hy1 : ¬ (p1 < (1 : Int32))) (hy2 : ¬ ((256 : Int32) < p1)) : ¬ ((((p1 + (64 : Int32)) - (1 : Int32)) / (64 : Int32)) < (0 : Int32)) := by
  generalize hex1 : (p1 + (64 : Int32)) = ex1 at *
  generalize hex2 : (ex1 - (1 : Int32)) = ex2 at *
  generalize hex3 : (ex2 / (64 : Int32)) = ex3 at *
  try simp only [Int32.reduceAdd, Int32.reduceSub, Int32.reduceMul, Int64.reduceAdd, Int64.reduceSub, Int64.reduceMul, Int32.lt_iff_toInt_lt, Int64.lt_iff_toInt_lt, ← Int32.toInt_inj, ← Int64.toInt_inj, Int32.reduceToInt, Int64.reduceToInt, not_true_eq_false, not_false_eq_true, false_and, and_false, true_and, and_true, false_or, or_false, true_or, or_true] at hy1
  try simp only [Int32.reduceAdd, Int32.reduceSub, Int32.reduceMul, Int64.reduceAdd, Int64.reduceSub, Int64.reduceMul, Int32.lt_iff_toInt_lt, Int64.lt_iff_toInt_lt, ← Int32.toInt_inj, ← Int64.toInt_inj, Int32.reduceToInt, Int64.reduceToInt, not_true_eq_false, not_false_eq_true, false_and, and_false, true_and, and_true, false_or, or_false, true_or, or_true] at hy2
  try simp only [Int32.reduceAdd, Int32.reduceSub, Int32.reduceMul, Int64.reduceAdd, Int64.reduceSub, Int64.reduceMul, Int32.lt_iff_toInt_lt, Int64.lt_iff_toInt_lt, ← Int32.toInt_inj, ← Int64.toInt_inj, Int32.reduceToInt, Int64.reduceToInt, not_true_eq_false, not_false_eq_true, false_and, and_false, true_and, and_true, false_or, or_false, true_or, or_true]
  have := Int32.le_toInt p1; have := Int32.toInt_lt p1
  have bl1 := Int32.le_toInt ex1; have bu1 := Int32.toInt_lt ex1
  have fa1 := c_iadd p1 (64 : Int32); rw [hex1] at fa1; try simp only [Int32.reduceAdd, Int32.reduceSub, Int32.reduceToInt, Int64.reduceToInt] at fa1
  clear hex1
  have bl2 := Int32.le_toInt ex2; have bu2 := Int32.toInt_lt ex2
  have fa2 := c_isub ex1 (1 : Int32); rw [hex2] at fa2; try simp only [Int32.reduceAdd, Int32.reduceSub, Int32.reduceToInt, Int64.reduceToInt] at fa2
  clear hex2
  have bl3 := Int32.le_toInt ex3; have bu3 := Int32.toInt_lt ex3
  have fa3 := c_idiv ex2 (64 : Int32) (64) (by decide) (by decide); rw [hex3] at fa3; try simp only [Int32.reduceAdd, Int32.reduceSub, Int32.reduceToInt, Int64.reduceToInt] at fa3
  first | (have fb3 := fa3.1 (by omega); clear fa3) | (have fb3 := fa3.2 (by omega); clear fa3) | skip
  clear hex3
  all_goals omega
set_option maxRecDepth 65536 in
set_option maxHeartbeats 40000000 in
theorem own_side20 (p1 : Int32) (hy1 : ¬ (p1 < (1 : Int32))) (hy2 : ¬ ((256 : Int32) < p1)) : ((((p1 + (64 : Int32)) - (1 : Int32)) / (64 : Int32))).toNatClampNeg ≤ 4 := by
  generalize hex1 : (p1 + (64 : Int32)) = ex1 at *
  generalize hex2 : (ex1 - (1 : Int32)) = ex2 at *
  generalize hex3 : (ex2 / (64 : Int32)) = ex3 at *
  try simp only [Int32.reduceAdd, Int32.reduceSub, Int32.reduceMul, Int64.reduceAdd, Int64.reduceSub, Int64.reduceMul, Int32.lt_iff_toInt_lt, Int64.lt_iff_toInt_lt, ← Int32.toInt_inj, ← Int64.toInt_inj, Int32.reduceToInt, Int64.reduceToInt, not_true_eq_false, not_false_eq_true, false_and, and_false, true_and, and_true, false_or, or_false, true_or, or_true] at hy1
  try simp only [Int32.reduceAdd, Int32.reduceSub, Int32.reduceMul, Int64.reduceAdd, Int64.reduceSub, Int64.reduceMul, Int32.lt_iff_toInt_lt, Int64.lt_iff_toInt_lt, ← Int32.toInt_inj, ← Int64.toInt_inj, Int32.reduceToInt, Int64.reduceToInt, not_true_eq_false, not_false_eq_true, false_and, and_false, true_and, and_true, false_or, or_false, true_or, or_true] at hy2
  try simp only [Int32.reduceAdd, Int32.reduceSub, Int32.reduceMul, Int64.reduceAdd, Int64.reduceSub, Int64.reduceMul, Int32.lt_iff_toInt_lt, Int64.lt_iff_toInt_lt, ← Int32.toInt_inj, ← Int64.toInt_inj, Int32.reduceToInt, Int64.reduceToInt, not_true_eq_false, not_false_eq_true, false_and, and_false, true_and, and_true, false_or, or_false, true_or, or_true]
  have := Int32.le_toInt p1; have := Int32.toInt_lt p1
  have bl1 := Int32.le_toInt ex1; have bu1 := Int32.toInt_lt ex1
  have fa1 := c_iadd p1 (64 : Int32); rw [hex1] at fa1; try simp only [Int32.reduceAdd, Int32.reduceSub, Int32.reduceToInt, Int64.reduceToInt] at fa1
  clear hex1
  have bl2 := Int32.le_toInt ex2; have bu2 := Int32.toInt_lt ex2
  have fa2 := c_isub ex1 (1 : Int32); rw [hex2] at fa2; try simp only [Int32.reduceAdd, Int32.reduceSub, Int32.reduceToInt, Int64.reduceToInt] at fa2
  clear hex2
  have bl3 := Int32.le_toInt ex3; have bu3 := Int32.toInt_lt ex3
  have fa3 := c_idiv ex2 (64 : Int32) (64) (by decide) (by decide); rw [hex3] at fa3; try simp only [Int32.reduceAdd, Int32.reduceSub, Int32.reduceToInt, Int64.reduceToInt] at fa3
  first | (have fb3 := fa3.1 (by omega); clear fa3) | (have fb3 := fa3.2 (by omega); clear fa3) | skip
  clear hex3
  simp only [Int32.toNatClampNeg]; omega
theorem own_pn17 : plainName "archetest/util/StateSet" = true := by first | (simp [plainName, overriddenIn]; done) | decide +kernel
theorem own_ef1 (m : MethodId) (a0 : Addr) (p1 : Int32) : entryFrame m #[(.ref a0), (.int p1)] 2 = mkF m 0 #[.val (.ref a0), .val (.int p1)] [] := by first | (simp [entryFrame, mkF, argsToLocals, Value.category]; done) | rfl
def own_Q1 (Z : State) (a0 : Addr) (p1 : Int32) (h0 : Heap) (n0 : Nat) (v : Option Value) (h : Heap) (L : List Loc) : Prop := ∃ mm : Addr, ∃ bb : Addr, ∃ km : ClassId, ∃ kb : ClassId, v = none ∧ Fr n0 L ∧ Keep h0 h [a0] ∧ n0 ≤ mm ∧ h0.size ≤ mm ∧ n0 ≤ bb ∧ h0.size ≤ bb ∧ (Exa Z h a0 "archetest/util/StateSet") ∧ (Fld Z h a0 "archetest/util/StateSet" "members" "[I" (.ref mm)) ∧ (Fld Z h a0 "archetest/util/StateSet" "bits" "[J" (.ref bb)) ∧ (Fld Z h a0 "archetest/util/StateSet" "size" "I" (.int (0 : Int32))) ∧ (Arv Z h mm km .int (8 : Int32) (own_M (fun _ => (0 : Int32))) (.int (0 : Int32))) ∧ (Arv Z h bb kb .long (((p1 + (64 : Int32)) - (1 : Int32)) / (64 : Int32)) (own_L (fun _ => (0 : Int64))) (.long (0 : Int64))) ∧ (mm ≠ bb)
set_option maxRecDepth 65536 in
set_option maxHeartbeats 40000000 in
theorem own_rm1 (l : Launch) (Z : State) (av : Array Value) (hw : ∀ d ∈ tables_1, d.before av Z = true) (ws : List Jvm.Cond) (a0 : Addr) (p1 : Int32) (h0 : Heap) (n0 : Nat) (Z0 : n0 ≤ h0.size) (pr0 : Exa Z h0 a0 "archetest/util/StateSet") (pr1 : Fld Z h0 a0 "archetest/util/StateSet" "members" "[I" .null) (pr2 : Fld Z h0 a0 "archetest/util/StateSet" "bits" "[J" .null) (pr3 : Fld Z h0 a0 "archetest/util/StateSet" "size" "I" (.int (0 : Int32))) (g_a0 : n0 ≤ a0) (hy1 : ¬ (p1 < (1 : Int32))) (hy2 : ¬ ((256 : Int32) < p1)) :
    MetFree l (⟨"archetest/util/StateSet", "<init>", "(I)V"⟩ : MethodName) (head1 (Jvm.Cond.code (⟨"archetest/util/StateSet", "<init>", "(I)V"⟩ : MethodName) prog_120_method_1_code 2 none :: ws) ({ frames := 1, cells := 2, slots := 12, locals := 12 } : Room)) (fun a U => a = #[(.ref a0), (.int p1)] ∧ Z.Warmed39 U.vm ∧ U.heap = h0) (fun _ _ _ _ _ => True) (fun _ U o U' => ∃ v L, o = .returned v ∧ own_Q1 Z a0 p1 h0 n0 v U'.heap L ∧ FrameEnd U o U' L ({ frames := 1, cells := 2, slots := 12, locals := 12 } : Room).cells ({ frames := 1, cells := 2, slots := 12, locals := 12 } : Room).slots) := by
  refine MetFree.of_bodySF (plainFor_of_name own_pn17) hisR ?_
  intro p e s m args below meth c s₁ Bd hml0 hP hK
  obtain ⟨rfl, hZ, hh⟩ := hP
  have hx := Bd.exec
  have hby := Bd.bytes
  have hml : c.maxLocals = 2 := hml0
  have hown : s.vm.findClass "archetest/util/StateSet" = some m.cls := findClass_of_methodNamed Bd.named
  have hnm := (name_of_methodNamed Bd.named Bd.method).1
  have X0 : Stand p l e ({ frames := 1, cells := 2, slots := 12, locals := 12 } : Room) s m #[(.ref a0), (.int p1)] below meth c s₁ [] 0 0 := Stand.of_body Bd
  have e0 : s₁.heap = h0 := by rw [← hh, Bd.state]; rfl
  have N0 := Fr.nil n0
  have pre0 : ∀ t, Steps p.tables e below (s₁.setTop (mkF m 0 #[.val (.ref a0), .val (.int p1)] [])) t → Steps p.tables e below (s₁.setTop (entryFrame m #[(.ref a0), (.int p1)] 2)) t := fun t k => castTop (own_ef1 m a0 p1) k
  obtain ⟨T1, X1, e1, st1⟩ := initO X0 hx hZ hown (hw _ (List.mem_of_getElem? (i := 7) rfl)) (hw _ (List.mem_of_getElem? (i := 8) rfl)) (hw _ (List.mem_of_getElem? (i := 9) rfl)) e0 (g := (mkF m 1 #[.val (.ref a0), .val (.int p1)] [(.ref a0)])) rfl (by rw [hml]; rfl) rfl (hb hby own_d1_1) (by decide) (W := 0) (by show 2 * 0 + _ ≤ _; exact Nat.le_of_eq rfl) (by decide)
  obtain ⟨T2, h2, k2, X2, e2, E2, A2, st2⟩ := newP X1 hx hZ (hw _ (List.mem_of_getElem? (i := 10) rfl)) e1 (g := (mkF m 7 #[.val (.ref a0), .val (.int p1)] [(.int (8 : Int32)), (.ref a0)])) rfl (hb hby own_d1_7) rfl (by decide) (cap := 8) (by decide) (by decide) (by decide) (by decide)
  obtain ⟨b2, g2⟩ : ∃ z, z = h0.size := ⟨_, rfl⟩
  have ne_a0_b2 : a0 ≠ b2 := Nat.ne_of_lt (Nat.lt_of_lt_of_le pr0.lt (Nat.le_of_eq g2.symm))
  have g_b2 : n0 ≤ b2 := Nat.le_trans Z0 (Nat.le_of_eq g2.symm)
  have sz_b2 : h0.size ≤ b2 := Nat.le_trans (Keep.refl h0 [a0]).1 (Nat.le_of_eq g2.symm)
  rw [← g2] at A2 st2
  have f3 := pr0.ext E2
  have f4 := pr1.ext E2
  have f5 := pr2.ext E2
  have f6 := pr3.ext E2
  have z7 : n0 ≤ h2.size := Nat.le_trans Z0 E2.1
  have K8 : Keep h0 h2 [a0] := (Keep.refl h0 [a0]).ext E2
  have f9 : Arv Z h2 b2 k2 .int (8 : Int32) [(.int (0 : Int32)), (.int (0 : Int32)), (.int (0 : Int32)), (.int (0 : Int32)), (.int (0 : Int32)), (.int (0 : Int32)), (.int (0 : Int32)), (.int (0 : Int32))] (.int (0 : Int32)) := (Arv.new A2 (by decide)).pad (pad_rep [] (.int (0 : Int32)) 8)
  obtain ⟨T10, h10, X10, e10, W10, st10⟩ := putF X2 hx hZ hown (host := "") (Or.inl (hw _ (List.mem_of_getElem? (i := 11) rfl))) Via.refl e2 f4 f3 (Or.inl (hw _ (List.mem_of_getElem? (i := 12) rfl))) (hw _ (List.mem_of_getElem? (i := 2) rfl)) (ty := (.array .int)) (by decide) rfl rfl (g := (mkF m 9 #[.val (.ref a0), .val (.int p1)] [(.ref b2), (.ref a0)])) rfl rfl (hb hby own_d1_9)
  have f11 := f3.wr W10
  have f12 := f5.other W10 (Or.inr (slot_ne (Or.inr (hw _ (List.mem_of_getElem? (i := 15) rfl))) (Or.inl (hw _ (List.mem_of_getElem? (i := 12) rfl))) (by decide) (t := (.array .long)) (t' := (.array .int)) (by decide) (by decide)))
  have f13 := f6.other W10 (Or.inr (slot_ne (Or.inl (hw _ (List.mem_of_getElem? (i := 22) rfl))) (Or.inl (hw _ (List.mem_of_getElem? (i := 12) rfl))) (by decide) (t := .int) (t' := (.array .int)) (by decide) (by decide)))
  have f14 := f9.other W10 (Ne.symm ne_a0_b2)
  have K15 : Keep h0 h10 [a0] := K8.wr W10 (Or.inl (List.mem_of_getElem? (i := 0) rfl))
  have z16 : n0 ≤ h10.size := Nat.le_trans z7 (Keep.of_wr W10).1
  have N17 := Fr.snoc X10 N0 g_a0
  have f18 : Fld Z h10 a0 "archetest/util/StateSet" "members" "[I" (.ref b2) := f4.same W10
  obtain ⟨T21, h21, k21, X21, e21, E21, A21, st21⟩ := newP X10 hx hZ (hw _ (List.mem_of_getElem? (i := 13) rfl)) e10 (g := (mkF m 22 #[.val (.ref a0), .val (.int p1)] [(.int (((p1 + (64 : Int32)) - (1 : Int32)) / (64 : Int32))), (.ref a0)])) rfl (hb hby own_d1_22) rfl (own_side19 p1 hy1 hy2) (cap := 4) (own_side20 p1 hy1 hy2) (by decide) (by decide) (by decide)
  obtain ⟨b21, g21⟩ : ∃ z, z = h10.size := ⟨_, rfl⟩
  have ne_a0_b21 : a0 ≠ b21 := Nat.ne_of_lt (Nat.lt_of_lt_of_le f11.lt (Nat.le_of_eq g21.symm))
  have ne_b2_b21 : b2 ≠ b21 := Nat.ne_of_lt (Nat.lt_of_lt_of_le f14.lt (Nat.le_of_eq g21.symm))
  have g_b21 : n0 ≤ b21 := Nat.le_trans z16 (Nat.le_of_eq g21.symm)
  have sz_b21 : h0.size ≤ b21 := Nat.le_trans K15.1 (Nat.le_of_eq g21.symm)
  rw [← g21] at A21 st21
  have f22 := f11.ext E21
  have f23 := f18.ext E21
  have f24 := f12.ext E21
  have f25 := f13.ext E21
  have f26 := f14.ext E21
  have z27 : n0 ≤ h21.size := Nat.le_trans z16 E21.1
  have K28 : Keep h0 h21 [a0] := K15.ext E21
  have f29 : Arv Z h21 b21 k21 .long (((p1 + (64 : Int32)) - (1 : Int32)) / (64 : Int32)) [(.long (0 : Int64)), (.long (0 : Int64)), (.long (0 : Int64)), (.long (0 : Int64))] (.long (0 : Int64)) := (Arv.new A21 (own_side19 p1 hy1 hy2)).pad (pad_rep [] (.long (0 : Int64)) 4)
  obtain ⟨T30, h30, X30, e30, W30, st30⟩ := putF X21 hx hZ hown (host := "") (Or.inl (hw _ (List.mem_of_getElem? (i := 14) rfl))) Via.refl e21 f24 f22 (Or.inr ⟨(hw _ (List.mem_of_getElem? (i := 15) rfl)), rfl, hnm⟩) (hw _ (List.mem_of_getElem? (i := 2) rfl)) (ty := (.array .long)) (by decide) rfl rfl (g := (mkF m 24 #[.val (.ref a0), .val (.int p1)] [(.ref b21), (.ref a0)])) rfl rfl (hb hby own_d1_24)
  have f31 := f22.wr W30
  have f32 := f23.other W30 (Or.inr (slot_ne (Or.inl (hw _ (List.mem_of_getElem? (i := 12) rfl))) (Or.inr (hw _ (List.mem_of_getElem? (i := 15) rfl))) (by decide) (t := (.array .int)) (t' := (.array .long)) (by decide) (by decide)))
  have f33 := f25.other W30 (Or.inr (slot_ne (Or.inl (hw _ (List.mem_of_getElem? (i := 22) rfl))) (Or.inr (hw _ (List.mem_of_getElem? (i := 15) rfl))) (by decide) (t := .int) (t' := (.array .long)) (by decide) (by decide)))
  have f34 := f26.other W30 (Ne.symm ne_a0_b2)
  have f35 := f29.other W30 (Ne.symm ne_a0_b21)
  have K36 : Keep h0 h30 [a0] := K28.wr W30 (Or.inl (List.mem_of_getElem? (i := 0) rfl))
  have z37 : n0 ≤ h30.size := Nat.le_trans z27 (Keep.of_wr W30).1
  have N38 := Fr.snoc X30 N17 g_a0
  have f39 : Fld Z h30 a0 "archetest/util/StateSet" "bits" "[J" (.ref b21) := f24.same W30
  obtain ⟨fs, hr, hrun, hended, hW, hsame⟩ := X30.leave (v := none) (fun _ => rfl)
  refine ⟨_, _, pre0 _ ?_, hrun, hended, _, _, rfl, ?_, ⟨_, rfl⟩, hW, hsame.mono (by decide) (by decide)⟩
  · show Steps p.tables e below (s₁.setTop (mkF m 0 #[.val (.ref a0), .val (.int p1)] [])) _
    refine XS.aloadN X0.here hx rfl (hb hby own_d1_0) rfl rfl ?_
    show Steps p.tables e below (s₁.setTop (mkF m 1 #[.val (.ref a0), .val (.int p1)] [(.ref a0)])) _
    refine st1 _ ?_
    show Steps p.tables e below (T1.setTop (mkF m 4 #[.val (.ref a0), .val (.int p1)] [])) _
    refine XS.aloadN X1.here hx rfl (hb hby own_d1_4) rfl rfl ?_
    show Steps p.tables e below (T1.setTop (mkF m 5 #[.val (.ref a0), .val (.int p1)] [(.ref a0)])) _
    refine XS.bipush X1.here hx rfl (hb hby own_d1_5) ?_
    show Steps p.tables e below (T1.setTop (mkF m 7 #[.val (.ref a0), .val (.int p1)] [(.int (8 : Int32)), (.ref a0)])) _
    refine st2 _ ?_
    show Steps p.tables e below (T2.setTop (mkF m 9 #[.val (.ref a0), .val (.int p1)] [(.ref b2), (.ref a0)])) _
    refine st10 _ ?_
    show Steps p.tables e below (T10.setTop (mkF m 12 #[.val (.ref a0), .val (.int p1)] [])) _
    refine XS.aloadN X10.here hx rfl (hb hby own_d1_12) rfl rfl ?_
    show Steps p.tables e below (T10.setTop (mkF m 13 #[.val (.ref a0), .val (.int p1)] [(.ref a0)])) _
    refine XS.iloadN X10.here hx rfl (hb hby own_d1_13) rfl ?_
    show Steps p.tables e below (T10.setTop (mkF m 14 #[.val (.ref a0), .val (.int p1)] [(.int p1), (.ref a0)])) _
    refine XS.bipush X10.here hx rfl (hb hby own_d1_14) ?_
    show Steps p.tables e below (T10.setTop (mkF m 16 #[.val (.ref a0), .val (.int p1)] [(.int (64 : Int32)), (.int p1), (.ref a0)])) _
    refine XS.iadd X10.here hx rfl (hb hby own_d1_16) rfl ?_
    show Steps p.tables e below (T10.setTop (mkF m 17 #[.val (.ref a0), .val (.int p1)] [(.int (p1 + (64 : Int32))), (.ref a0)])) _
    refine XS.iconst X10.here hx rfl (hb hby own_d1_17) ?_
    show Steps p.tables e below (T10.setTop (mkF m 18 #[.val (.ref a0), .val (.int p1)] [(.int (1 : Int32)), (.int (p1 + (64 : Int32))), (.ref a0)])) _
    refine XS.isub X10.here hx rfl (hb hby own_d1_18) rfl ?_
    show Steps p.tables e below (T10.setTop (mkF m 19 #[.val (.ref a0), .val (.int p1)] [(.int ((p1 + (64 : Int32)) - (1 : Int32))), (.ref a0)])) _
    refine XS.bipush X10.here hx rfl (hb hby own_d1_19) ?_
    show Steps p.tables e below (T10.setTop (mkF m 21 #[.val (.ref a0), .val (.int p1)] [(.int (64 : Int32)), (.int ((p1 + (64 : Int32)) - (1 : Int32))), (.ref a0)])) _
    refine XS.idiv X10.here hx rfl (hb hby own_d1_21) rfl (by decide) ?_
    show Steps p.tables e below (T10.setTop (mkF m 22 #[.val (.ref a0), .val (.int p1)] [(.int (((p1 + (64 : Int32)) - (1 : Int32)) / (64 : Int32))), (.ref a0)])) _
    refine st21 _ ?_
    show Steps p.tables e below (T21.setTop (mkF m 24 #[.val (.ref a0), .val (.int p1)] [(.ref b21), (.ref a0)])) _
    refine st30 _ ?_
    show Steps p.tables e below (T30.setTop (mkF m 27 #[.val (.ref a0), .val (.int p1)] [])) _
    exact X30.returnOut hx Bd.returns (hb hby own_d1_27) hr
  · show own_Q1 Z a0 p1 h0 n0 _ T30.heap _
    rw [e30]
    exact ⟨b2, b21, k2, k21, rfl, N38, K36, g_b2, sz_b2, g_b21, sz_b21, f31, f32, f39, f33, f34, f35, ne_b2_b21⟩
theorem own_d3_0 : decode prog_120_method_2_code 0 = .ok (.iload_n 1, 1) := by decide +kernel
theorem own_d3_1 : decode prog_120_method_2_code 1 = .ok (.bipush 64, 2) := by decide +kernel
theorem own_d3_3 : decode prog_120_method_2_code 3 = .ok (.idiv, 1) := by decide +kernel
theorem own_d3_4 : decode prog_120_method_2_code 4 = .ok (.istore_n 2, 1) := by decide +kernel
theorem own_d3_5 : decode prog_120_method_2_code 5 = .ok (.lconst 1, 1) := by decide +kernel
theorem own_d3_6 : decode prog_120_method_2_code 6 = .ok (.iload_n 1, 1) := by decide +kernel
theorem own_d3_7 : decode prog_120_method_2_code 7 = .ok (.lshl, 1) := by decide +kernel
theorem own_d3_8 : decode prog_120_method_2_code 8 = .ok (.lstore_n 3, 1) := by decide +kernel
theorem own_d3_9 : decode prog_120_method_2_code 9 = .ok (.aload_n 0, 1) := by decide +kernel
theorem own_d3_10 : decode prog_120_method_2_code 10 = .ok (.getfield 15, 3) := by decide +kernel
theorem own_d3_13 : decode prog_120_method_2_code 13 = .ok (.iload_n 2, 1) := by decide +kernel
theorem own_d3_14 : decode prog_120_method_2_code 14 = .ok (.laload, 1) := by decide +kernel
theorem own_d3_15 : decode prog_120_method_2_code 15 = .ok (.lload_n 3, 1) := by decide +kernel
theorem own_d3_16 : decode prog_120_method_2_code 16 = .ok (.land, 1) := by decide +kernel
theorem own_d3_17 : decode prog_120_method_2_code 17 = .ok (.lconst 0, 1) := by decide +kernel
theorem own_d3_18 : decode prog_120_method_2_code 18 = .ok (.lcmp, 1) := by decide +kernel
theorem own_d3_19 : decode prog_120_method_2_code 19 = .ok (.ifCond .eq 5, 3) := by decide +kernel
theorem own_d3_24 : decode prog_120_method_2_code 24 = .ok (.aload_n 0, 1) := by decide +kernel
theorem own_d3_25 : decode prog_120_method_2_code 25 = .ok (.getfield 15, 3) := by decide +kernel
theorem own_d3_28 : decode prog_120_method_2_code 28 = .ok (.iload_n 2, 1) := by decide +kernel
theorem own_d3_29 : decode prog_120_method_2_code 29 = .ok (.dup2, 1) := by decide +kernel
theorem own_d3_30 : decode prog_120_method_2_code 30 = .ok (.laload, 1) := by decide +kernel
theorem own_d3_31 : decode prog_120_method_2_code 31 = .ok (.lload_n 3, 1) := by decide +kernel
theorem own_d3_32 : decode prog_120_method_2_code 32 = .ok (.lor, 1) := by decide +kernel
theorem own_d3_33 : decode prog_120_method_2_code 33 = .ok (.lastore, 1) := by decide +kernel
theorem own_d3_34 : decode prog_120_method_2_code 34 = .ok (.aload_n 0, 1) := by decide +kernel
theorem own_d3_35 : decode prog_120_method_2_code 35 = .ok (.getfield 19, 3) := by decide +kernel
theorem own_d3_38 : decode prog_120_method_2_code 38 = .ok (.aload_n 0, 1) := by decide +kernel
theorem own_d3_39 : decode prog_120_method_2_code 39 = .ok (.getfield 7, 3) := by decide +kernel
theorem own_d3_42 : decode prog_120_method_2_code 42 = .ok (.arraylength, 1) := by decide +kernel
theorem own_d3_43 : decode prog_120_method_2_code 43 = .ok (.if_icmp .ne 20, 3) := by decide +kernel
theorem own_d3_63 : decode prog_120_method_2_code 63 = .ok (.aload_n 0, 1) := by decide +kernel
theorem own_d3_64 : decode prog_120_method_2_code 64 = .ok (.getfield 7, 3) := by decide +kernel
theorem own_d3_67 : decode prog_120_method_2_code 67 = .ok (.aload_n 0, 1) := by decide +kernel
theorem own_d3_68 : decode prog_120_method_2_code 68 = .ok (.dup, 1) := by decide +kernel
theorem own_d3_69 : decode prog_120_method_2_code 69 = .ok (.getfield 19, 3) := by decide +kernel
theorem own_d3_72 : decode prog_120_method_2_code 72 = .ok (.dup_x1, 1) := by decide +kernel
theorem own_d3_73 : decode prog_120_method_2_code 73 = .ok (.iconst 1, 1) := by decide +kernel
theorem own_d3_74 : decode prog_120_method_2_code 74 = .ok (.iadd, 1) := by decide +kernel
theorem own_d3_75 : decode prog_120_method_2_code 75 = .ok (.putfield 19, 3) := by decide +kernel
theorem own_d3_78 : decode prog_120_method_2_code 78 = .ok (.iload_n 1, 1) := by decide +kernel
theorem own_d3_79 : decode prog_120_method_2_code 79 = .ok (.iastore, 1) := by decide +kernel
theorem own_d3_80 : decode prog_120_method_2_code 80 = .ok (.iconst 1, 1) := by decide +kernel
theorem own_d3_81 : decode prog_120_method_2_code 81 = .ok (.ireturn, 1) := by decide +kernel
theorem own_d3_22 : decode prog_120_method_2_code 22 = .ok (.iconst 0, 1) := by decide +kernel
theorem own_d3_23 : decode prog_120_method_2_code 23 = .ok (.ireturn, 1) := by decide +kernel
theorem own_ef3 (m : MethodId) (a0 : Addr) (p1 : Int32) : entryFrame m #[(.ref a0), (.int p1)] 5 = mkF m 0 #[.val (.ref a0), .val (.int p1), .unset, .unset, .unset] [] := by first | (simp [entryFrame, mkF, argsToLocals, Value.category]; done) | rfl
def own_Q3 (Z : State) (a0 : Addr) (p1 : Int32) (mm : Addr) (bb : Addr) (km : ClassId) (kb : ClassId) (nb : Int32) (g : Nat → Int64) (f : Nat → Int32) (sz : Int32) (n : Nat) (h0 : Heap) (n0 : Nat) (v : Option Value) (h : Heap) (L : List Loc) : Prop := ∃ gg : Nat → Int64, ∃ ff : Nat → Int32, ∃ ss : Int32, ∃ r : Int32, v = some (.int r) ∧ Fr n0 L ∧ Keep h0 h [a0, mm, bb] ∧ (Exa Z h a0 "archetest/util/StateSet") ∧ (Fld Z h a0 "archetest/util/StateSet" "members" "[I" (.ref mm)) ∧ (Fld Z h a0 "archetest/util/StateSet" "bits" "[J" (.ref bb)) ∧ (Fld Z h a0 "archetest/util/StateSet" "size" "I" (.int ss)) ∧ (Arv Z h mm km .int (8 : Int32) (own_M ff) (.int (0 : Int32))) ∧ (Arv Z h bb kb .long nb (own_L gg) (.long (0 : Int64))) ∧ (own_AddR g f sz p1 gg ff ss r) ∧ (own_St (n + 1) nb gg ff ss)
set_option maxRecDepth 65536 in
set_option maxHeartbeats 40000000 in
theorem own_rm3 (l : Launch) (Z : State) (av : Array Value) (hw : ∀ d ∈ tables_1, d.before av Z = true) (ws : List Jvm.Cond) (a0 : Addr) (p1 : Int32) (mm : Addr) (bb : Addr) (km : ClassId) (kb : ClassId) (nb : Int32) (g : Nat → Int64) (f : Nat → Int32) (sz : Int32) (n : Nat) (h0 : Heap) (n0 : Nat) (Z0 : n0 ≤ h0.size) (pr0 : Exa Z h0 a0 "archetest/util/StateSet") (pr1 : Fld Z h0 a0 "archetest/util/StateSet" "members" "[I" (.ref mm)) (pr2 : Fld Z h0 a0 "archetest/util/StateSet" "bits" "[J" (.ref bb)) (pr3 : Fld Z h0 a0 "archetest/util/StateSet" "size" "I" (.int sz)) (pr4 : Arv Z h0 mm km .int (8 : Int32) (own_M f) (.int (0 : Int32))) (pr5 : Arv Z h0 bb kb .long nb (own_L g) (.long (0 : Int64))) (g_a0 : n0 ≤ a0) (g_mm : n0 ≤ mm) (g_bb : n0 ≤ bb) (ne_a0_mm : a0 ≠ mm) (ne_a0_bb : a0 ≠ bb) (ne_mm_bb : mm ≠ bb) (hS : own_St n nb g f sz) (hn : n ≤ 2) (hp : own_In nb p1) (h4 : ¬ ((4 : Int32) < nb)) :
    MetFree l (⟨"archetest/util/StateSet", "add", "(I)Z"⟩ : MethodName) (head1 (Jvm.Cond.code (⟨"archetest/util/StateSet", "add", "(I)Z"⟩ : MethodName) prog_120_method_2_code 5 (some .boolean) :: ws) ({ frames := 0, cells := 0, slots := 0, locals := 0 } : Room)) (fun a U => a = #[(.ref a0), (.int p1)] ∧ Z.Warmed39 U.vm ∧ U.heap = h0) (fun _ _ _ _ _ => True) (fun _ U o U' => ∃ v L, o = .returned v ∧ own_Q3 Z a0 p1 mm bb km kb nb g f sz n h0 n0 v U'.heap L ∧ FrameEnd U o U' L ({ frames := 0, cells := 0, slots := 0, locals := 0 } : Room).cells ({ frames := 0, cells := 0, slots := 0, locals := 0 } : Room).slots) := by
  refine MetFree.of_bodySF (plainFor_of_name own_pn17) hisR ?_
  intro p e s m args below meth c s₁ Bd hml0 hP hK
  obtain ⟨rfl, hZ, hh⟩ := hP
  have hx := Bd.exec
  have hby := Bd.bytes
  have hml : c.maxLocals = 5 := hml0
  have hown : s.vm.findClass "archetest/util/StateSet" = some m.cls := findClass_of_methodNamed Bd.named
  have hnm := (name_of_methodNamed Bd.named Bd.method).1
  have X0 : Stand p l e ({ frames := 0, cells := 0, slots := 0, locals := 0 } : Room) s m #[(.ref a0), (.int p1)] below meth c s₁ [] 0 0 := Stand.of_body Bd
  have e0 : s₁.heap = h0 := by rw [← hh, Bd.state]; rfl
  have N0 := Fr.nil n0
  have pre0 : ∀ t, Steps p.tables e below (s₁.setTop (mkF m 0 #[.val (.ref a0), .val (.int p1), .unset, .unset, .unset] [])) t → Steps p.tables e below (s₁.setTop (entryFrame m #[(.ref a0), (.int p1)] 5)) t := fun t k => castTop (own_ef3 m a0 p1) k
  obtain ⟨kS, hSn, hSk, hSi, hSg⟩ := id hS
  obtain ⟨T40, X40, e40, st40⟩ := getF X0 hx hZ hown (host := "") (Or.inl (hw _ (List.mem_of_getElem? (i := 14) rfl))) Via.refl e0 pr2 (g := (mkF m 10 #[.val (.ref a0), .val (.int p1), .val (.int (p1 / (64 : Int32))), .val (.long ((1 : Int64) <<< (p1 &&& 0x3f).toInt64)), .second] [(.ref a0)])) rfl rfl (hb hby own_d3_10)
  obtain ⟨cl41, Ar41, q41, S41, M41, H41, G41⟩ := id pr5
  have hin41 : ¬ ((p1 / (64 : Int32)) < 0 ∨ cl41.slots.size ≤ ((p1 / (64 : Int32))).toNatClampNeg) := inb_of S41 hp
  have hat41 : cl41.slots[((p1 / (64 : Int32))).toNatClampNeg]? = some (.long (g (own_w p1))) := H41.at hin41 (own_Lget g (own_w p1) (own_In4 hp h4))
  have pre42 : ∀ t, Steps p.tables e below (T40.setTop (mkF m 19 #[.val (.ref a0), .val (.int p1), .val (.int (p1 / (64 : Int32))), .val (.long ((1 : Int64) <<< (p1 &&& 0x3f).toInt64)), .second] [(.int (lcmpW ((g (own_w p1)) &&& ((1 : Int64) <<< (p1 &&& 0x3f).toInt64)) (0 : Int64)))])) t → Steps p.tables e below (s₁.setTop (entryFrame m #[(.ref a0), (.int p1)] 5)) t := fun t kk => pre0 t (by
    show Steps p.tables e below (s₁.setTop (mkF m 0 #[.val (.ref a0), .val (.int p1), .unset, .unset, .unset] [])) _
    refine XS.iloadN X0.here hx rfl (hb hby own_d3_0) rfl ?_
    show Steps p.tables e below (s₁.setTop (mkF m 1 #[.val (.ref a0), .val (.int p1), .unset, .unset, .unset] [(.int p1)])) _
    refine XS.bipush X0.here hx rfl (hb hby own_d3_1) ?_
    show Steps p.tables e below (s₁.setTop (mkF m 3 #[.val (.ref a0), .val (.int p1), .unset, .unset, .unset] [(.int (64 : Int32)), (.int p1)])) _
    refine XS.idiv X0.here hx rfl (hb hby own_d3_3) rfl (by decide) ?_
    show Steps p.tables e below (s₁.setTop (mkF m 4 #[.val (.ref a0), .val (.int p1), .unset, .unset, .unset] [(.int (p1 / (64 : Int32)))])) _
    refine XS.istoreN X0.here hx rfl (hb hby own_d3_4) rfl (l' := #[.val (.ref a0), .val (.int p1), .val (.int (p1 / (64 : Int32))), .unset, .unset]) rfl ?_
    show Steps p.tables e below (s₁.setTop (mkF m 5 #[.val (.ref a0), .val (.int p1), .val (.int (p1 / (64 : Int32))), .unset, .unset] [])) _
    refine XS.lconst X0.here hx rfl (hb hby own_d3_5) ?_
    show Steps p.tables e below (s₁.setTop (mkF m 6 #[.val (.ref a0), .val (.int p1), .val (.int (p1 / (64 : Int32))), .unset, .unset] [(.long (1 : Int64))])) _
    refine XS.iloadN X0.here hx rfl (hb hby own_d3_6) rfl ?_
    show Steps p.tables e below (s₁.setTop (mkF m 7 #[.val (.ref a0), .val (.int p1), .val (.int (p1 / (64 : Int32))), .unset, .unset] [(.int p1), (.long (1 : Int64))])) _
    refine XS.lshl X0.here hx rfl (hb hby own_d3_7) rfl ?_
    show Steps p.tables e below (s₁.setTop (mkF m 8 #[.val (.ref a0), .val (.int p1), .val (.int (p1 / (64 : Int32))), .unset, .unset] [(.long ((1 : Int64) <<< (p1 &&& 0x3f).toInt64))])) _
    refine XS.lstoreN X0.here hx rfl (hb hby own_d3_8) rfl (l' := #[.val (.ref a0), .val (.int p1), .val (.int (p1 / (64 : Int32))), .val (.long ((1 : Int64) <<< (p1 &&& 0x3f).toInt64)), .second]) rfl ?_
    show Steps p.tables e below (s₁.setTop (mkF m 9 #[.val (.ref a0), .val (.int p1), .val (.int (p1 / (64 : Int32))), .val (.long ((1 : Int64) <<< (p1 &&& 0x3f).toInt64)), .second] [])) _
    refine XS.aloadN X0.here hx rfl (hb hby own_d3_9) rfl rfl ?_
    show Steps p.tables e below (s₁.setTop (mkF m 10 #[.val (.ref a0), .val (.int p1), .val (.int (p1 / (64 : Int32))), .val (.long ((1 : Int64) <<< (p1 &&& 0x3f).toInt64)), .second] [(.ref a0)])) _
    refine st40 _ ?_
    show Steps p.tables e below (T40.setTop (mkF m 13 #[.val (.ref a0), .val (.int p1), .val (.int (p1 / (64 : Int32))), .val (.long ((1 : Int64) <<< (p1 &&& 0x3f).toInt64)), .second] [(.ref bb)])) _
    refine XS.iloadN X40.here hx rfl (hb hby own_d3_13) rfl ?_
    show Steps p.tables e below (T40.setTop (mkF m 14 #[.val (.ref a0), .val (.int p1), .val (.int (p1 / (64 : Int32))), .val (.long ((1 : Int64) <<< (p1 &&& 0x3f).toInt64)), .second] [(.int (p1 / (64 : Int32))), (.ref bb)])) _
    refine X40.laload hx (j := (p1 / (64 : Int32))) (v := (.long (g (own_w p1)))) (by rw [e40]; exact Ar41.1) (State.isArrayOf_alike hZ.alike Ar41.2.1) Ar41.2.2 hin41 hat41 (g := (mkF m 14 #[.val (.ref a0), .val (.int p1), .val (.int (p1 / (64 : Int32))), .val (.long ((1 : Int64) <<< (p1 &&& 0x3f).toInt64)), .second] [(.int (p1 / (64 : Int32))), (.ref bb)])) rfl rfl (hb hby own_d3_14) _ ?_
    show Steps p.tables e below (T40.setTop (mkF m 15 #[.val (.ref a0), .val (.int p1), .val (.int (p1 / (64 : Int32))), .val (.long ((1 : Int64) <<< (p1 &&& 0x3f).toInt64)), .second] [(.long (g (own_w p1)))])) _
    refine XS.lloadN X40.here hx rfl (hb hby own_d3_15) rfl ?_
    show Steps p.tables e below (T40.setTop (mkF m 16 #[.val (.ref a0), .val (.int p1), .val (.int (p1 / (64 : Int32))), .val (.long ((1 : Int64) <<< (p1 &&& 0x3f).toInt64)), .second] [(.long ((1 : Int64) <<< (p1 &&& 0x3f).toInt64)), (.long (g (own_w p1)))])) _
    refine XS.land X40.here hx rfl (hb hby own_d3_16) rfl ?_
    show Steps p.tables e below (T40.setTop (mkF m 17 #[.val (.ref a0), .val (.int p1), .val (.int (p1 / (64 : Int32))), .val (.long ((1 : Int64) <<< (p1 &&& 0x3f).toInt64)), .second] [(.long ((g (own_w p1)) &&& ((1 : Int64) <<< (p1 &&& 0x3f).toInt64)))])) _
    refine XS.lconst X40.here hx rfl (hb hby own_d3_17) ?_
    show Steps p.tables e below (T40.setTop (mkF m 18 #[.val (.ref a0), .val (.int p1), .val (.int (p1 / (64 : Int32))), .val (.long ((1 : Int64) <<< (p1 &&& 0x3f).toInt64)), .second] [(.long (0 : Int64)), (.long ((g (own_w p1)) &&& ((1 : Int64) <<< (p1 &&& 0x3f).toInt64)))])) _
    refine XS.lcmp X40.here hx rfl (hb hby own_d3_18) rfl ?_
    show Steps p.tables e below (T40.setTop (mkF m 19 #[.val (.ref a0), .val (.int p1), .val (.int (p1 / (64 : Int32))), .val (.long ((1 : Int64) <<< (p1 &&& 0x3f).toInt64)), .second] [(.int (lcmpW ((g (own_w p1)) &&& ((1 : Int64) <<< (p1 &&& 0x3f).toInt64)) (0 : Int64)))])) _
    exact kk)
  by_cases hc43 : ((g (own_w p1)) &&& ((1 : Int64) <<< (p1 &&& 0x3f).toInt64)) = (0 : Int64)
  · obtain ⟨T44, X44, e44, st44⟩ := getF X40 hx hZ hown (host := "") (Or.inl (hw _ (List.mem_of_getElem? (i := 14) rfl))) Via.refl e40 pr2 (g := (mkF m 25 #[.val (.ref a0), .val (.int p1), .val (.int (p1 / (64 : Int32))), .val (.long ((1 : Int64) <<< (p1 &&& 0x3f).toInt64)), .second] [(.ref a0)])) rfl rfl (hb hby own_d3_25)
    obtain ⟨cl45, Ar45, q45, S45, M45, H45, G45⟩ := id pr5
    have hin45 : ¬ ((p1 / (64 : Int32)) < 0 ∨ cl45.slots.size ≤ ((p1 / (64 : Int32))).toNatClampNeg) := inb_of S45 hp
    have hat45 : cl45.slots[((p1 / (64 : Int32))).toNatClampNeg]? = some (.long (g (own_w p1))) := H45.at hin45 (own_Lget g (own_w p1) (own_In4 hp h4))
    obtain ⟨cl46, Ar46, q46, S46, M46, H46, G46⟩ := id pr5
    have hin46 : ¬ ((p1 / (64 : Int32)) < 0 ∨ cl46.slots.size ≤ ((p1 / (64 : Int32))).toNatClampNeg) := inb_of S46 hp
    obtain ⟨T47, h47, X47, e47, W47, st47⟩ := stJ X44 hx hZ e44 Ar46 (j := (p1 / (64 : Int32))) hin46 (g := (mkF m 33 #[.val (.ref a0), .val (.int p1), .val (.int (p1 / (64 : Int32))), .val (.long ((1 : Int64) <<< (p1 &&& 0x3f).toInt64)), .second] [(.long ((g (own_w p1)) ||| ((1 : Int64) <<< (p1 &&& 0x3f).toInt64))), (.int (p1 / (64 : Int32))), (.ref bb)])) rfl rfl (hb hby own_d3_33)
    have f48 := pr0.wr W47
    have f49 := pr1.other W47 (Or.inl ne_a0_bb)
    have f50 := pr2.other W47 (Or.inl ne_a0_bb)
    have f51 := pr3.other W47 (Or.inl ne_a0_bb)
    have f52 := pr4.other W47 ne_mm_bb
    have K53 : Keep h0 h47 [a0, mm, bb] := (Keep.refl h0 [a0, mm, bb]).wr W47 (Or.inl (List.mem_of_getElem? (i := 2) rfl))
    have z54 : n0 ≤ h47.size := Nat.le_trans Z0 (Keep.of_wr W47).1
    have N55 := Fr.snoc X47 N0 g_bb
    have f56 : Arv Z h47 bb kb .long nb (own_L (own_upd g (own_w p1) (g (own_w p1) ||| ((1 : Int64) <<< (p1 &&& 0x3f).toInt64)))) (.long (0 : Int64)) := by rw [← own_Lset g (own_w p1) _ (own_In4 hp h4)]; exact Arv.set Ar46 q46 S46 M46 H46 G46 rfl W47 (own_w p1) rfl (own_In4 hp h4)
    obtain ⟨T57, X57, e57, st57⟩ := getF X47 hx hZ hown (host := "") (Or.inl (hw _ (List.mem_of_getElem? (i := 21) rfl))) Via.refl e47 f51 (g := (mkF m 35 #[.val (.ref a0), .val (.int p1), .val (.int (p1 / (64 : Int32))), .val (.long ((1 : Int64) <<< (p1 &&& 0x3f).toInt64)), .second] [(.ref a0)])) rfl rfl (hb hby own_d3_35)
    obtain ⟨T58, X58, e58, st58⟩ := getF X57 hx hZ hown (host := "") (Or.inl (hw _ (List.mem_of_getElem? (i := 11) rfl))) Via.refl e57 f49 (g := (mkF m 39 #[.val (.ref a0), .val (.int p1), .val (.int (p1 / (64 : Int32))), .val (.long ((1 : Int64) <<< (p1 &&& 0x3f).toInt64)), .second] [(.ref a0), (.int sz)])) rfl rfl (hb hby own_d3_39)
    obtain ⟨cl59, Ar59, q59, S59, M59, H59, G59⟩ := id f52
    obtain ⟨T60, X60, e60, st60⟩ := getF X58 hx hZ hown (host := "") (Or.inl (hw _ (List.mem_of_getElem? (i := 11) rfl))) Via.refl e58 f49 (g := (mkF m 64 #[.val (.ref a0), .val (.int p1), .val (.int (p1 / (64 : Int32))), .val (.long ((1 : Int64) <<< (p1 &&& 0x3f).toInt64)), .second] [(.ref a0)])) rfl rfl (hb hby own_d3_64)
    obtain ⟨T61, X61, e61, st61⟩ := getF X60 hx hZ hown (host := "") (Or.inl (hw _ (List.mem_of_getElem? (i := 21) rfl))) Via.refl e60 f51 (g := (mkF m 69 #[.val (.ref a0), .val (.int p1), .val (.int (p1 / (64 : Int32))), .val (.long ((1 : Int64) <<< (p1 &&& 0x3f).toInt64)), .second] [(.ref a0), (.ref a0), (.ref mm)])) rfl rfl (hb hby own_d3_69)
    obtain ⟨T62, h62, X62, e62, W62, st62⟩ := putF X61 hx hZ hown (host := "") (Or.inl (hw _ (List.mem_of_getElem? (i := 21) rfl))) Via.refl e61 f51 f48 (Or.inl (hw _ (List.mem_of_getElem? (i := 22) rfl))) (hw _ (List.mem_of_getElem? (i := 2) rfl)) (ty := .int) (by decide) rfl rfl (g := (mkF m 75 #[.val (.ref a0), .val (.int p1), .val (.int (p1 / (64 : Int32))), .val (.long ((1 : Int64) <<< (p1 &&& 0x3f).toInt64)), .second] [(.int (sz + (1 : Int32))), (.ref a0), (.int sz), (.ref mm)])) rfl rfl (hb hby own_d3_75)
    have f63 := f48.wr W62
    have f64 := f49.other W62 (Or.inr (slot_ne (Or.inl (hw _ (List.mem_of_getElem? (i := 12) rfl))) (Or.inl (hw _ (List.mem_of_getElem? (i := 22) rfl))) (by decide) (t := (.array .int)) (t' := .int) (by decide) (by decide)))
    have f65 := f50.other W62 (Or.inr (slot_ne (Or.inr (hw _ (List.mem_of_getElem? (i := 15) rfl))) (Or.inl (hw _ (List.mem_of_getElem? (i := 22) rfl))) (by decide) (t := (.array .long)) (t' := .int) (by decide) (by decide)))
    have f66 := f52.other W62 (Ne.symm ne_a0_mm)
    have f67 := f56.other W62 (Ne.symm ne_a0_bb)
    have K68 : Keep h0 h62 [a0, mm, bb] := K53.wr W62 (Or.inl (List.mem_of_getElem? (i := 0) rfl))
    have z69 : n0 ≤ h62.size := Nat.le_trans z54 (Keep.of_wr W62).1
    have N70 := Fr.snoc X62 N55 g_a0
    have f71 : Fld Z h62 a0 "archetest/util/StateSet" "size" "I" (.int (sz + (1 : Int32))) := f51.same W62
    obtain ⟨cl72, Ar72, q72, S72, M72, H72, G72⟩ := id f66
    have hin72 : ¬ (sz < 0 ∨ cl72.slots.size ≤ (sz).toNatClampNeg) := inb_of S72 (own_SzB hSk).1
    obtain ⟨T73, h73, X73, e73, W73, st73⟩ := stI X62 hx hZ e62 Ar72 (j := sz) hin72 (g := (mkF m 79 #[.val (.ref a0), .val (.int p1), .val (.int (p1 / (64 : Int32))), .val (.long ((1 : Int64) <<< (p1 &&& 0x3f).toInt64)), .second] [(.int p1), (.int sz), (.ref mm)])) rfl rfl (hb hby own_d3_79)
    have f74 := f63.wr W73
    have f75 := f64.other W73 (Or.inl ne_a0_mm)
    have f76 := f65.other W73 (Or.inl ne_a0_mm)
    have f77 := f71.other W73 (Or.inl ne_a0_mm)
    have f78 := f67.other W73 (Ne.symm ne_mm_bb)
    have K79 : Keep h0 h73 [a0, mm, bb] := K68.wr W73 (Or.inl (List.mem_of_getElem? (i := 1) rfl))
    have z80 : n0 ≤ h73.size := Nat.le_trans z69 (Keep.of_wr W73).1
    have N81 := Fr.snoc X73 N70 g_mm
    have f82 : Arv Z h73 mm km .int (8 : Int32) (own_M (own_updI f (sz).toNatClampNeg p1)) (.int (0 : Int32)) := by rw [← own_Mset f (sz).toNatClampNeg p1 (by rw [(own_SzB hSk).2.2.1]; exact (own_SzB hSk).2.2.2)]; exact Arv.set Ar72 q72 S72 M72 H72 G72 rfl W73 (sz).toNatClampNeg rfl (by rw [(own_SzB hSk).2.2.1]; exact (own_SzB hSk).2.2.2)
    obtain ⟨fs, hr, hrun, hended, hW, hsame⟩ := X73.leave (v := some (.int (1 : Int32))) (fun h => by rw [Bd.returns] at h; cases h)
    refine ⟨_, _, pre42 _ ?_, hrun, hended, _, _, rfl, ?_, ⟨_, rfl⟩, hW, hsame.mono (by decide) (by decide)⟩
    · show Steps p.tables e below (T40.setTop (mkF m 19 #[.val (.ref a0), .val (.int p1), .val (.int (p1 / (64 : Int32))), .val (.long ((1 : Int64) <<< (p1 &&& 0x3f).toInt64)), .second] [(.int (lcmpW ((g (own_w p1)) &&& ((1 : Int64) <<< (p1 &&& 0x3f).toInt64)) (0 : Int64)))])) _
      refine XS.ifYes X40.here hx rfl (pc0 := 19) (pc' := 24) rfl (hb hby own_d3_19) rfl ((if0 _ _).trans (teq ((lw_eq ((g (own_w p1)) &&& ((1 : Int64) <<< (p1 &&& 0x3f).toInt64)) (0 : Int64)).mpr hc43)).1) (by decide) (by decide) ?_
      show Steps p.tables e below (T40.setTop (mkF m 24 #[.val (.ref a0), .val (.int p1), .val (.int (p1 / (64 : Int32))), .val (.long ((1 : Int64) <<< (p1 &&& 0x3f).toInt64)), .second] [])) _
      refine XS.aloadN X40.here hx rfl (hb hby own_d3_24) rfl rfl ?_
      show Steps p.tables e below (T40.setTop (mkF m 25 #[.val (.ref a0), .val (.int p1), .val (.int (p1 / (64 : Int32))), .val (.long ((1 : Int64) <<< (p1 &&& 0x3f).toInt64)), .second] [(.ref a0)])) _
      refine st44 _ ?_
      show Steps p.tables e below (T44.setTop (mkF m 28 #[.val (.ref a0), .val (.int p1), .val (.int (p1 / (64 : Int32))), .val (.long ((1 : Int64) <<< (p1 &&& 0x3f).toInt64)), .second] [(.ref bb)])) _
      refine XS.iloadN X44.here hx rfl (hb hby own_d3_28) rfl ?_
      show Steps p.tables e below (T44.setTop (mkF m 29 #[.val (.ref a0), .val (.int p1), .val (.int (p1 / (64 : Int32))), .val (.long ((1 : Int64) <<< (p1 &&& 0x3f).toInt64)), .second] [(.int (p1 / (64 : Int32))), (.ref bb)])) _
      refine XT.dup2 X44.here hx rfl (hb hby own_d3_29) rfl rfl rfl ?_
      show Steps p.tables e below (T44.setTop (mkF m 30 #[.val (.ref a0), .val (.int p1), .val (.int (p1 / (64 : Int32))), .val (.long ((1 : Int64) <<< (p1 &&& 0x3f).toInt64)), .second] [(.int (p1 / (64 : Int32))), (.ref bb), (.int (p1 / (64 : Int32))), (.ref bb)])) _
      refine X44.laload hx (j := (p1 / (64 : Int32))) (v := (.long (g (own_w p1)))) (by rw [e44]; exact Ar45.1) (State.isArrayOf_alike hZ.alike Ar45.2.1) Ar45.2.2 hin45 hat45 (g := (mkF m 30 #[.val (.ref a0), .val (.int p1), .val (.int (p1 / (64 : Int32))), .val (.long ((1 : Int64) <<< (p1 &&& 0x3f).toInt64)), .second] [(.int (p1 / (64 : Int32))), (.ref bb), (.int (p1 / (64 : Int32))), (.ref bb)])) rfl rfl (hb hby own_d3_30) _ ?_
      show Steps p.tables e below (T44.setTop (mkF m 31 #[.val (.ref a0), .val (.int p1), .val (.int (p1 / (64 : Int32))), .val (.long ((1 : Int64) <<< (p1 &&& 0x3f).toInt64)), .second] [(.long (g (own_w p1))), (.int (p1 / (64 : Int32))), (.ref bb)])) _
      refine XS.lloadN X44.here hx rfl (hb hby own_d3_31) rfl ?_
      show Steps p.tables e below (T44.setTop (mkF m 32 #[.val (.ref a0), .val (.int p1), .val (.int (p1 / (64 : Int32))), .val (.long ((1 : Int64) <<< (p1 &&& 0x3f).toInt64)), .second] [(.long ((1 : Int64) <<< (p1 &&& 0x3f).toInt64)), (.long (g (own_w p1))), (.int (p1 / (64 : Int32))), (.ref bb)])) _
      refine XS.lor X44.here hx rfl (hb hby own_d3_32) rfl ?_
      show Steps p.tables e below (T44.setTop (mkF m 33 #[.val (.ref a0), .val (.int p1), .val (.int (p1 / (64 : Int32))), .val (.long ((1 : Int64) <<< (p1 &&& 0x3f).toInt64)), .second] [(.long ((g (own_w p1)) ||| ((1 : Int64) <<< (p1 &&& 0x3f).toInt64))), (.int (p1 / (64 : Int32))), (.ref bb)])) _
      refine st47 _ ?_
      show Steps p.tables e below (T47.setTop (mkF m 34 #[.val (.ref a0), .val (.int p1), .val (.int (p1 / (64 : Int32))), .val (.long ((1 : Int64) <<< (p1 &&& 0x3f).toInt64)), .second] [])) _
      refine XS.aloadN X47.here hx rfl (hb hby own_d3_34) rfl rfl ?_
      show Steps p.tables e below (T47.setTop (mkF m 35 #[.val (.ref a0), .val (.int p1), .val (.int (p1 / (64 : Int32))), .val (.long ((1 : Int64) <<< (p1 &&& 0x3f).toInt64)), .second] [(.ref a0)])) _
      refine st57 _ ?_
      show Steps p.tables e below (T57.setTop (mkF m 38 #[.val (.ref a0), .val (.int p1), .val (.int (p1 / (64 : Int32))), .val (.long ((1 : Int64) <<< (p1 &&& 0x3f).toInt64)), .second] [(.int sz)])) _
      refine XS.aloadN X57.here hx rfl (hb hby own_d3_38) rfl rfl ?_
      show Steps p.tables e below (T57.setTop (mkF m 39 #[.val (.ref a0), .val (.int p1), .val (.int (p1 / (64 : Int32))), .val (.long ((1 : Int64) <<< (p1 &&& 0x3f).toInt64)), .second] [(.ref a0), (.int sz)])) _
      refine st58 _ ?_
      show Steps p.tables e below (T58.setTop (mkF m 42 #[.val (.ref a0), .val (.int p1), .val (.int (p1 / (64 : Int32))), .val (.long ((1 : Int64) <<< (p1 &&& 0x3f).toInt64)), .second] [(.ref mm), (.int sz)])) _
      refine X58.arraylength hx (by rw [e58]; exact Ar59.1) (State.isArrayOf_alike hZ.alike Ar59.2.1) (g := (mkF m 42 #[.val (.ref a0), .val (.int p1), .val (.int (p1 / (64 : Int32))), .val (.long ((1 : Int64) <<< (p1 &&& 0x3f).toInt64)), .second] [(.ref mm), (.int sz)])) rfl rfl (hb hby own_d3_42) _ ?_
      rw [len_of S59 M59]
      show Steps p.tables e below (T58.setTop (mkF m 43 #[.val (.ref a0), .val (.int p1), .val (.int (p1 / (64 : Int32))), .val (.long ((1 : Int64) <<< (p1 &&& 0x3f).toInt64)), .second] [(.int (8 : Int32)), (.int sz)])) _
      refine XS.icmpYes X58.here hx rfl (pc0 := 43) (pc' := 63) rfl (hb hby own_d3_43) rfl (feq ((own_SzB hSk).2.1 : ¬ (sz = (8 : Int32)))).2 (by decide) (by decide) ?_
      show Steps p.tables e below (T58.setTop (mkF m 63 #[.val (.ref a0), .val (.int p1), .val (.int (p1 / (64 : Int32))), .val (.long ((1 : Int64) <<< (p1 &&& 0x3f).toInt64)), .second] [])) _
      refine XS.aloadN X58.here hx rfl (hb hby own_d3_63) rfl rfl ?_
      show Steps p.tables e below (T58.setTop (mkF m 64 #[.val (.ref a0), .val (.int p1), .val (.int (p1 / (64 : Int32))), .val (.long ((1 : Int64) <<< (p1 &&& 0x3f).toInt64)), .second] [(.ref a0)])) _
      refine st60 _ ?_
      show Steps p.tables e below (T60.setTop (mkF m 67 #[.val (.ref a0), .val (.int p1), .val (.int (p1 / (64 : Int32))), .val (.long ((1 : Int64) <<< (p1 &&& 0x3f).toInt64)), .second] [(.ref mm)])) _
      refine XS.aloadN X60.here hx rfl (hb hby own_d3_67) rfl rfl ?_
      show Steps p.tables e below (T60.setTop (mkF m 68 #[.val (.ref a0), .val (.int p1), .val (.int (p1 / (64 : Int32))), .val (.long ((1 : Int64) <<< (p1 &&& 0x3f).toInt64)), .second] [(.ref a0), (.ref mm)])) _
      refine XS.dup X60.here hx rfl (hb hby own_d3_68) rfl rfl ?_
      show Steps p.tables e below (T60.setTop (mkF m 69 #[.val (.ref a0), .val (.int p1), .val (.int (p1 / (64 : Int32))), .val (.long ((1 : Int64) <<< (p1 &&& 0x3f).toInt64)), .second] [(.ref a0), (.ref a0), (.ref mm)])) _
      refine st61 _ ?_
      show Steps p.tables e below (T61.setTop (mkF m 72 #[.val (.ref a0), .val (.int p1), .val (.int (p1 / (64 : Int32))), .val (.long ((1 : Int64) <<< (p1 &&& 0x3f).toInt64)), .second] [(.int sz), (.ref a0), (.ref mm)])) _
      refine XS.dupX1 X61.here hx rfl (hb hby own_d3_72) rfl rfl rfl ?_
      show Steps p.tables e below (T61.setTop (mkF m 73 #[.val (.ref a0), .val (.int p1), .val (.int (p1 / (64 : Int32))), .val (.long ((1 : Int64) <<< (p1 &&& 0x3f).toInt64)), .second] [(.int sz), (.ref a0), (.int sz), (.ref mm)])) _
      refine XS.iconst X61.here hx rfl (hb hby own_d3_73) ?_
      show Steps p.tables e below (T61.setTop (mkF m 74 #[.val (.ref a0), .val (.int p1), .val (.int (p1 / (64 : Int32))), .val (.long ((1 : Int64) <<< (p1 &&& 0x3f).toInt64)), .second] [(.int (1 : Int32)), (.int sz), (.ref a0), (.int sz), (.ref mm)])) _
      refine XS.iadd X61.here hx rfl (hb hby own_d3_74) rfl ?_
      show Steps p.tables e below (T61.setTop (mkF m 75 #[.val (.ref a0), .val (.int p1), .val (.int (p1 / (64 : Int32))), .val (.long ((1 : Int64) <<< (p1 &&& 0x3f).toInt64)), .second] [(.int (sz + (1 : Int32))), (.ref a0), (.int sz), (.ref mm)])) _
      refine st62 _ ?_
      show Steps p.tables e below (T62.setTop (mkF m 78 #[.val (.ref a0), .val (.int p1), .val (.int (p1 / (64 : Int32))), .val (.long ((1 : Int64) <<< (p1 &&& 0x3f).toInt64)), .second] [(.int sz), (.ref mm)])) _
      refine XS.iloadN X62.here hx rfl (hb hby own_d3_78) rfl ?_
      show Steps p.tables e below (T62.setTop (mkF m 79 #[.val (.ref a0), .val (.int p1), .val (.int (p1 / (64 : Int32))), .val (.long ((1 : Int64) <<< (p1 &&& 0x3f).toInt64)), .second] [(.int p1), (.int sz), (.ref mm)])) _
      refine st73 _ ?_
      show Steps p.tables e below (T73.setTop (mkF m 80 #[.val (.ref a0), .val (.int p1), .val (.int (p1 / (64 : Int32))), .val (.long ((1 : Int64) <<< (p1 &&& 0x3f).toInt64)), .second] [])) _
      refine XS.iconst X73.here hx rfl (hb hby own_d3_80) ?_
      show Steps p.tables e below (T73.setTop (mkF m 81 #[.val (.ref a0), .val (.int p1), .val (.int (p1 / (64 : Int32))), .val (.long ((1 : Int64) <<< (p1 &&& 0x3f).toInt64)), .second] [(.int (1 : Int32))])) _
      exact retN X73 hx (t := .boolean) Bd.returns (by simp) (hb hby own_d3_81) hr
    · show own_Q3 Z a0 p1 mm bb km kb nb g f sz n h0 n0 _ T73.heap _
      rw [e73]
      exact ⟨(own_upd g (own_w p1) (g (own_w p1) ||| ((1 : Int64) <<< (p1 &&& 0x3f).toInt64))), (own_updI f (sz).toNatClampNeg p1), (sz + (1 : Int32)), (1 : Int32), rfl, N81, K79, f74, f75, f76, f77, f82, f78, (Or.inl ⟨hc43, rfl, rfl, rfl, rfl⟩), (own_addS hS hn hp (Or.inl ⟨hc43, rfl, rfl, rfl, rfl⟩))⟩
  · obtain ⟨fs, hr, hrun, hended, hW, hsame⟩ := X40.leave (v := some (.int (0 : Int32))) (fun h => by rw [Bd.returns] at h; cases h)
    refine ⟨_, _, pre42 _ ?_, hrun, hended, _, _, rfl, ?_, ⟨_, rfl⟩, hW, hsame.mono (by decide) (by decide)⟩
    · show Steps p.tables e below (T40.setTop (mkF m 19 #[.val (.ref a0), .val (.int p1), .val (.int (p1 / (64 : Int32))), .val (.long ((1 : Int64) <<< (p1 &&& 0x3f).toInt64)), .second] [(.int (lcmpW ((g (own_w p1)) &&& ((1 : Int64) <<< (p1 &&& 0x3f).toInt64)) (0 : Int64)))])) _
      refine XS.ifNo X40.here hx rfl (hb hby own_d3_19) rfl ((if0 _ _).trans (feq (mt (lw_eq ((g (own_w p1)) &&& ((1 : Int64) <<< (p1 &&& 0x3f).toInt64)) (0 : Int64)).mp hc43)).1) ?_
      show Steps p.tables e below (T40.setTop (mkF m 22 #[.val (.ref a0), .val (.int p1), .val (.int (p1 / (64 : Int32))), .val (.long ((1 : Int64) <<< (p1 &&& 0x3f).toInt64)), .second] [])) _
      refine XS.iconst X40.here hx rfl (hb hby own_d3_22) ?_
      show Steps p.tables e below (T40.setTop (mkF m 23 #[.val (.ref a0), .val (.int p1), .val (.int (p1 / (64 : Int32))), .val (.long ((1 : Int64) <<< (p1 &&& 0x3f).toInt64)), .second] [(.int (0 : Int32))])) _
      exact retN X40 hx (t := .boolean) Bd.returns (by simp) (hb hby own_d3_23) hr
    · show own_Q3 Z a0 p1 mm bb km kb nb g f sz n h0 n0 _ T40.heap _
      rw [e40]
      exact ⟨g, f, sz, (0 : Int32), rfl, N0, (Keep.refl h0 [a0, mm, bb]), pr0, pr1, pr2, pr3, pr4, pr5, (Or.inr ⟨hc43, rfl, rfl, rfl, rfl⟩), (own_addS hS hn hp (Or.inr ⟨hc43, rfl, rfl, rfl, rfl⟩))⟩
theorem own_d4_0 : decode prog_120_method_7_code 0 = .ok (.iconst 0, 1) := by decide +kernel
theorem own_d4_1 : decode prog_120_method_7_code 1 = .ok (.istore_n 1, 1) := by decide +kernel
theorem own_d4_2 : decode prog_120_method_7_code 2 = .ok (.iload_n 1, 1) := by decide +kernel
theorem own_d4_3 : decode prog_120_method_7_code 3 = .ok (.aload_n 0, 1) := by decide +kernel
theorem own_d4_4 : decode prog_120_method_7_code 4 = .ok (.getfield 19, 3) := by decide +kernel
theorem own_d4_7 : decode prog_120_method_7_code 7 = .ok (.if_icmp .ge 24, 3) := by decide +kernel
theorem own_d4_31 : decode prog_120_method_7_code 31 = .ok (.aload_n 0, 1) := by decide +kernel
theorem own_d4_32 : decode prog_120_method_7_code 32 = .ok (.iconst 0, 1) := by decide +kernel
theorem own_d4_33 : decode prog_120_method_7_code 33 = .ok (.putfield 19, 3) := by decide +kernel
theorem own_d4_36 : decode prog_120_method_7_code 36 = .ok (.return_, 1) := by decide +kernel
theorem own_d4_10 : decode prog_120_method_7_code 10 = .ok (.aload_n 0, 1) := by decide +kernel
theorem own_d4_11 : decode prog_120_method_7_code 11 = .ok (.getfield 15, 3) := by decide +kernel
theorem own_d4_14 : decode prog_120_method_7_code 14 = .ok (.aload_n 0, 1) := by decide +kernel
theorem own_d4_15 : decode prog_120_method_7_code 15 = .ok (.getfield 7, 3) := by decide +kernel
theorem own_d4_18 : decode prog_120_method_7_code 18 = .ok (.iload_n 1, 1) := by decide +kernel
theorem own_d4_19 : decode prog_120_method_7_code 19 = .ok (.iaload, 1) := by decide +kernel
theorem own_d4_20 : decode prog_120_method_7_code 20 = .ok (.bipush 64, 2) := by decide +kernel
theorem own_d4_22 : decode prog_120_method_7_code 22 = .ok (.idiv, 1) := by decide +kernel
theorem own_d4_23 : decode prog_120_method_7_code 23 = .ok (.lconst 0, 1) := by decide +kernel
theorem own_d4_24 : decode prog_120_method_7_code 24 = .ok (.lastore, 1) := by decide +kernel
theorem own_d4_25 : decode prog_120_method_7_code 25 = .ok (.iinc 1 1, 3) := by decide +kernel
theorem own_d4_28 : decode prog_120_method_7_code 28 = .ok (.goto (-26), 3) := by decide +kernel
theorem own_ef4 (m : MethodId) (a0 : Addr) : entryFrame m #[(.ref a0)] 2 = mkF m 0 #[.val (.ref a0), .unset] [] := by first | (simp [entryFrame, mkF, argsToLocals, Value.category]; done) | rfl
def own_Q4 (Z : State) (a0 : Addr) (mm : Addr) (bb : Addr) (km : ClassId) (kb : ClassId) (nb : Int32) (g : Nat → Int64) (f : Nat → Int32) (sz : Int32) (k : Nat) (h0 : Heap) (n0 : Nat) (v : Option Value) (h : Heap) (L : List Loc) : Prop := v = none ∧ Fr n0 L ∧ Keep h0 h [a0, bb] ∧ (Exa Z h a0 "archetest/util/StateSet") ∧ (Fld Z h a0 "archetest/util/StateSet" "members" "[I" (.ref mm)) ∧ (Fld Z h a0 "archetest/util/StateSet" "bits" "[J" (.ref bb)) ∧ (Fld Z h a0 "archetest/util/StateSet" "size" "I" (.int (0 : Int32))) ∧ (Arv Z h mm km .int (8 : Int32) (own_M f) (.int (0 : Int32))) ∧ (Arv Z h bb kb .long nb (own_L (own_clr g f k)) (.long (0 : Int64)))
set_option maxRecDepth 65536 in
set_option maxHeartbeats 40000000 in
theorem own_rm4 (l : Launch) (Z : State) (av : Array Value) (hw : ∀ d ∈ tables_1, d.before av Z = true) (ws : List Jvm.Cond) (a0 : Addr) (mm : Addr) (bb : Addr) (km : ClassId) (kb : ClassId) (nb : Int32) (g : Nat → Int64) (f : Nat → Int32) (sz : Int32) (k : Nat) (h0 : Heap) (n0 : Nat) (Z0 : n0 ≤ h0.size) (pr0 : Exa Z h0 a0 "archetest/util/StateSet") (pr1 : Fld Z h0 a0 "archetest/util/StateSet" "members" "[I" (.ref mm)) (pr2 : Fld Z h0 a0 "archetest/util/StateSet" "bits" "[J" (.ref bb)) (pr3 : Fld Z h0 a0 "archetest/util/StateSet" "size" "I" (.int sz)) (pr4 : Arv Z h0 mm km .int (8 : Int32) (own_M f) (.int (0 : Int32))) (pr5 : Arv Z h0 bb kb .long nb (own_L g) (.long (0 : Int64))) (g_a0 : n0 ≤ a0) (g_bb : n0 ≤ bb) (ne_a0_mm : a0 ≠ mm) (ne_a0_bb : a0 ≠ bb) (ne_mm_bb : mm ≠ bb) (hk : own_Sz k sz) (hin : ∀ j, j < k → own_In nb (f j)) (h4 : ¬ ((4 : Int32) < nb)) :
    MetFree l (⟨"archetest/util/StateSet", "clear", "()V"⟩ : MethodName) (head1 (Jvm.Cond.code (⟨"archetest/util/StateSet", "clear", "()V"⟩ : MethodName) prog_120_method_7_code 2 none :: ws) ({ frames := 0, cells := 0, slots := 0, locals := 0 } : Room)) (fun a U => a = #[(.ref a0)] ∧ Z.Warmed39 U.vm ∧ U.heap = h0) (fun _ _ _ _ _ => True) (fun _ U o U' => ∃ v L, o = .returned v ∧ own_Q4 Z a0 mm bb km kb nb g f sz k h0 n0 v U'.heap L ∧ FrameEnd U o U' L ({ frames := 0, cells := 0, slots := 0, locals := 0 } : Room).cells ({ frames := 0, cells := 0, slots := 0, locals := 0 } : Room).slots) := by
  refine MetFree.of_bodySF (plainFor_of_name own_pn17) hisR ?_
  intro p e s m args below meth c s₁ Bd hml0 hP hK
  obtain ⟨rfl, hZ, hh⟩ := hP
  have hx := Bd.exec
  have hby := Bd.bytes
  have hml : c.maxLocals = 2 := hml0
  have hown : s.vm.findClass "archetest/util/StateSet" = some m.cls := findClass_of_methodNamed Bd.named
  have hnm := (name_of_methodNamed Bd.named Bd.method).1
  have X0 : Stand p l e ({ frames := 0, cells := 0, slots := 0, locals := 0 } : Room) s m #[(.ref a0)] below meth c s₁ [] 0 0 := Stand.of_body Bd
  have e0 : s₁.heap = h0 := by rw [← hh, Bd.state]; rfl
  have N0 := Fr.nil n0
  have pre0 : ∀ t, Steps p.tables e below (s₁.setTop (mkF m 0 #[.val (.ref a0), .unset] [])) t → Steps p.tables e below (s₁.setTop (entryFrame m #[(.ref a0)] 2)) t := fun t k => castTop (own_ef4 m a0) k
  rcases hk with ⟨rfl, rfl⟩ | ⟨rfl, rfl⟩ | ⟨rfl, rfl⟩ | ⟨rfl, rfl⟩
  · skip
    obtain ⟨T83, X83, e83, st83⟩ := getF X0 hx hZ hown (host := "") (Or.inl (hw _ (List.mem_of_getElem? (i := 21) rfl))) Via.refl e0 pr3 (g := (mkF m 4 #[.val (.ref a0), .val (.int (0 : Int32))] [(.ref a0), (.int (0 : Int32))])) rfl rfl (hb hby own_d4_4)
    obtain ⟨T84, h84, X84, e84, W84, st84⟩ := putF X83 hx hZ hown (host := "") (Or.inl (hw _ (List.mem_of_getElem? (i := 21) rfl))) Via.refl e83 pr3 pr0 (Or.inl (hw _ (List.mem_of_getElem? (i := 22) rfl))) (hw _ (List.mem_of_getElem? (i := 2) rfl)) (ty := .int) (by decide) rfl rfl (g := (mkF m 33 #[.val (.ref a0), .val (.int (0 : Int32))] [(.int (0 : Int32)), (.ref a0)])) rfl rfl (hb hby own_d4_33)
    have f85 := pr0.wr W84
    have f86 := pr1.other W84 (Or.inr (slot_ne (Or.inl (hw _ (List.mem_of_getElem? (i := 12) rfl))) (Or.inl (hw _ (List.mem_of_getElem? (i := 22) rfl))) (by decide) (t := (.array .int)) (t' := .int) (by decide) (by decide)))
    have f87 := pr2.other W84 (Or.inr (slot_ne (Or.inr (hw _ (List.mem_of_getElem? (i := 15) rfl))) (Or.inl (hw _ (List.mem_of_getElem? (i := 22) rfl))) (by decide) (t := (.array .long)) (t' := .int) (by decide) (by decide)))
    have f88 := pr4.other W84 (Ne.symm ne_a0_mm)
    have f89 := pr5.other W84 (Ne.symm ne_a0_bb)
    have K90 : Keep h0 h84 [a0, bb] := (Keep.refl h0 [a0, bb]).wr W84 (Or.inl (List.mem_of_getElem? (i := 0) rfl))
    have z91 : n0 ≤ h84.size := Nat.le_trans Z0 (Keep.of_wr W84).1
    have N92 := Fr.snoc X84 N0 g_a0
    have f93 : Fld Z h84 a0 "archetest/util/StateSet" "size" "I" (.int (0 : Int32)) := pr3.same W84
    obtain ⟨fs, hr, hrun, hended, hW, hsame⟩ := X84.leave (v := none) (fun _ => rfl)
    refine ⟨_, _, pre0 _ ?_, hrun, hended, _, _, rfl, ?_, ⟨_, rfl⟩, hW, hsame.mono (by decide) (by decide)⟩
    · show Steps p.tables e below (s₁.setTop (mkF m 0 #[.val (.ref a0), .unset] [])) _
      refine XS.iconst X0.here hx rfl (hb hby own_d4_0) ?_
      show Steps p.tables e below (s₁.setTop (mkF m 1 #[.val (.ref a0), .unset] [(.int (0 : Int32))])) _
      refine XS.istoreN X0.here hx rfl (hb hby own_d4_1) rfl (l' := #[.val (.ref a0), .val (.int (0 : Int32))]) rfl ?_
      show Steps p.tables e below (s₁.setTop (mkF m 2 #[.val (.ref a0), .val (.int (0 : Int32))] [])) _
      refine XS.iloadN X0.here hx rfl (hb hby own_d4_2) rfl ?_
      show Steps p.tables e below (s₁.setTop (mkF m 3 #[.val (.ref a0), .val (.int (0 : Int32))] [(.int (0 : Int32))])) _
      refine XS.aloadN X0.here hx rfl (hb hby own_d4_3) rfl rfl ?_
      show Steps p.tables e below (s₁.setTop (mkF m 4 #[.val (.ref a0), .val (.int (0 : Int32))] [(.ref a0), (.int (0 : Int32))])) _
      refine st83 _ ?_
      show Steps p.tables e below (T83.setTop (mkF m 7 #[.val (.ref a0), .val (.int (0 : Int32))] [(.int (0 : Int32)), (.int (0 : Int32))])) _
      refine XS.icmpYes X83.here hx rfl (pc0 := 7) (pc' := 31) rfl (hb hby own_d4_7) rfl (flt (by decide : ¬ ((0 : Int32) < (0 : Int32)))).2.1 (by decide) (by decide) ?_
      show Steps p.tables e below (T83.setTop (mkF m 31 #[.val (.ref a0), .val (.int (0 : Int32))] [])) _
      refine XS.aloadN X83.here hx rfl (hb hby own_d4_31) rfl rfl ?_
      show Steps p.tables e below (T83.setTop (mkF m 32 #[.val (.ref a0), .val (.int (0 : Int32))] [(.ref a0)])) _
      refine XS.iconst X83.here hx rfl (hb hby own_d4_32) ?_
      show Steps p.tables e below (T83.setTop (mkF m 33 #[.val (.ref a0), .val (.int (0 : Int32))] [(.int (0 : Int32)), (.ref a0)])) _
      refine st84 _ ?_
      show Steps p.tables e below (T84.setTop (mkF m 36 #[.val (.ref a0), .val (.int (0 : Int32))] [])) _
      exact X84.returnOut hx Bd.returns (hb hby own_d4_36) hr
    · show own_Q4 Z a0 mm bb km kb nb g f (0 : Int32) 0 h0 n0 _ T84.heap _
      rw [e84]
      exact ⟨rfl, N92, K90, f85, f86, f87, f93, f88, f89⟩
  · skip
    obtain ⟨T94, X94, e94, st94⟩ := getF X0 hx hZ hown (host := "") (Or.inl (hw _ (List.mem_of_getElem? (i := 21) rfl))) Via.refl e0 pr3 (g := (mkF m 4 #[.val (.ref a0), .val (.int (0 : Int32))] [(.ref a0), (.int (0 : Int32))])) rfl rfl (hb hby own_d4_4)
    obtain ⟨T95, X95, e95, st95⟩ := getF X94 hx hZ hown (host := "") (Or.inl (hw _ (List.mem_of_getElem? (i := 14) rfl))) Via.refl e94 pr2 (g := (mkF m 11 #[.val (.ref a0), .val (.int (0 : Int32))] [(.ref a0)])) rfl rfl (hb hby own_d4_11)
    obtain ⟨T96, X96, e96, st96⟩ := getF X95 hx hZ hown (host := "") (Or.inl (hw _ (List.mem_of_getElem? (i := 11) rfl))) Via.refl e95 pr1 (g := (mkF m 15 #[.val (.ref a0), .val (.int (0 : Int32))] [(.ref a0), (.ref bb)])) rfl rfl (hb hby own_d4_15)
    obtain ⟨cl97, Ar97, q97, S97, M97, H97, G97⟩ := id pr4
    have hin97 : ¬ ((0 : Int32) < 0 ∨ cl97.slots.size ≤ ((0 : Int32)).toNatClampNeg) := inb_of S97 ⟨by decide, by decide⟩
    have hat97 : cl97.slots[((0 : Int32)).toNatClampNeg]? = some (.int (f 0)) := H97.at hin97 rfl
    obtain ⟨cl98, Ar98, q98, S98, M98, H98, G98⟩ := id pr5
    have hin98 : ¬ (((f 0) / (64 : Int32)) < 0 ∨ cl98.slots.size ≤ (((f 0) / (64 : Int32))).toNatClampNeg) := inb_of S98 (hin 0 (by decide))
    obtain ⟨T99, h99, X99, e99, W99, st99⟩ := stJ X96 hx hZ e96 Ar98 (j := ((f 0) / (64 : Int32))) hin98 (g := (mkF m 24 #[.val (.ref a0), .val (.int (0 : Int32))] [(.long (0 : Int64)), (.int ((f 0) / (64 : Int32))), (.ref bb)])) rfl rfl (hb hby own_d4_24)
    have f100 := pr0.wr W99
    have f101 := pr1.other W99 (Or.inl ne_a0_bb)
    have f102 := pr2.other W99 (Or.inl ne_a0_bb)
    have f103 := pr3.other W99 (Or.inl ne_a0_bb)
    have f104 := pr4.other W99 ne_mm_bb
    have K105 : Keep h0 h99 [a0, bb] := (Keep.refl h0 [a0, bb]).wr W99 (Or.inl (List.mem_of_getElem? (i := 1) rfl))
    have z106 : n0 ≤ h99.size := Nat.le_trans Z0 (Keep.of_wr W99).1
    have N107 := Fr.snoc X99 N0 g_bb
    have f108 : Arv Z h99 bb kb .long nb (own_L (own_upd g (own_w (f 0)) (0 : Int64))) (.long (0 : Int64)) := by rw [← own_Lset g (own_w (f 0)) _ (own_In4 (hin 0 (by decide)) h4)]; exact Arv.set Ar98 q98 S98 M98 H98 G98 rfl W99 (own_w (f 0)) rfl (own_In4 (hin 0 (by decide)) h4)
    obtain ⟨T109, X109, e109, st109⟩ := getF X99 hx hZ hown (host := "") (Or.inl (hw _ (List.mem_of_getElem? (i := 21) rfl))) Via.refl e99 f103 (g := (mkF m 4 #[.val (.ref a0), .val (.int (1 : Int32))] [(.ref a0), (.int (1 : Int32))])) rfl rfl (hb hby own_d4_4)
    obtain ⟨T110, h110, X110, e110, W110, st110⟩ := putF X109 hx hZ hown (host := "") (Or.inl (hw _ (List.mem_of_getElem? (i := 21) rfl))) Via.refl e109 f103 f100 (Or.inl (hw _ (List.mem_of_getElem? (i := 22) rfl))) (hw _ (List.mem_of_getElem? (i := 2) rfl)) (ty := .int) (by decide) rfl rfl (g := (mkF m 33 #[.val (.ref a0), .val (.int (1 : Int32))] [(.int (0 : Int32)), (.ref a0)])) rfl rfl (hb hby own_d4_33)
    have f111 := f100.wr W110
    have f112 := f101.other W110 (Or.inr (slot_ne (Or.inl (hw _ (List.mem_of_getElem? (i := 12) rfl))) (Or.inl (hw _ (List.mem_of_getElem? (i := 22) rfl))) (by decide) (t := (.array .int)) (t' := .int) (by decide) (by decide)))
    have f113 := f102.other W110 (Or.inr (slot_ne (Or.inr (hw _ (List.mem_of_getElem? (i := 15) rfl))) (Or.inl (hw _ (List.mem_of_getElem? (i := 22) rfl))) (by decide) (t := (.array .long)) (t' := .int) (by decide) (by decide)))
    have f114 := f104.other W110 (Ne.symm ne_a0_mm)
    have f115 := f108.other W110 (Ne.symm ne_a0_bb)
    have K116 : Keep h0 h110 [a0, bb] := K105.wr W110 (Or.inl (List.mem_of_getElem? (i := 0) rfl))
    have z117 : n0 ≤ h110.size := Nat.le_trans z106 (Keep.of_wr W110).1
    have N118 := Fr.snoc X110 N107 g_a0
    have f119 : Fld Z h110 a0 "archetest/util/StateSet" "size" "I" (.int (0 : Int32)) := f103.same W110
    obtain ⟨fs, hr, hrun, hended, hW, hsame⟩ := X110.leave (v := none) (fun _ => rfl)
    refine ⟨_, _, pre0 _ ?_, hrun, hended, _, _, rfl, ?_, ⟨_, rfl⟩, hW, hsame.mono (by decide) (by decide)⟩
    · show Steps p.tables e below (s₁.setTop (mkF m 0 #[.val (.ref a0), .unset] [])) _
      refine XS.iconst X0.here hx rfl (hb hby own_d4_0) ?_
      show Steps p.tables e below (s₁.setTop (mkF m 1 #[.val (.ref a0), .unset] [(.int (0 : Int32))])) _
      refine XS.istoreN X0.here hx rfl (hb hby own_d4_1) rfl (l' := #[.val (.ref a0), .val (.int (0 : Int32))]) rfl ?_
      show Steps p.tables e below (s₁.setTop (mkF m 2 #[.val (.ref a0), .val (.int (0 : Int32))] [])) _
      refine XS.iloadN X0.here hx rfl (hb hby own_d4_2) rfl ?_
      show Steps p.tables e below (s₁.setTop (mkF m 3 #[.val (.ref a0), .val (.int (0 : Int32))] [(.int (0 : Int32))])) _
      refine XS.aloadN X0.here hx rfl (hb hby own_d4_3) rfl rfl ?_
      show Steps p.tables e below (s₁.setTop (mkF m 4 #[.val (.ref a0), .val (.int (0 : Int32))] [(.ref a0), (.int (0 : Int32))])) _
      refine st94 _ ?_
      show Steps p.tables e below (T94.setTop (mkF m 7 #[.val (.ref a0), .val (.int (0 : Int32))] [(.int (1 : Int32)), (.int (0 : Int32))])) _
      refine XS.icmpNo X94.here hx rfl (hb hby own_d4_7) rfl (tlt (by decide : (0 : Int32) < (1 : Int32))).2.1 ?_
      show Steps p.tables e below (T94.setTop (mkF m 10 #[.val (.ref a0), .val (.int (0 : Int32))] [])) _
      refine XS.aloadN X94.here hx rfl (hb hby own_d4_10) rfl rfl ?_
      show Steps p.tables e below (T94.setTop (mkF m 11 #[.val (.ref a0), .val (.int (0 : Int32))] [(.ref a0)])) _
      refine st95 _ ?_
      show Steps p.tables e below (T95.setTop (mkF m 14 #[.val (.ref a0), .val (.int (0 : Int32))] [(.ref bb)])) _
      refine XS.aloadN X95.here hx rfl (hb hby own_d4_14) rfl rfl ?_
      show Steps p.tables e below (T95.setTop (mkF m 15 #[.val (.ref a0), .val (.int (0 : Int32))] [(.ref a0), (.ref bb)])) _
      refine st96 _ ?_
      show Steps p.tables e below (T96.setTop (mkF m 18 #[.val (.ref a0), .val (.int (0 : Int32))] [(.ref mm), (.ref bb)])) _
      refine XS.iloadN X96.here hx rfl (hb hby own_d4_18) rfl ?_
      show Steps p.tables e below (T96.setTop (mkF m 19 #[.val (.ref a0), .val (.int (0 : Int32))] [(.int (0 : Int32)), (.ref mm), (.ref bb)])) _
      refine X96.iaload hx (j := (0 : Int32)) (v := (.int (f 0))) (by rw [e96]; exact Ar97.1) (State.isArrayOf_alike hZ.alike Ar97.2.1) Ar97.2.2 hin97 hat97 (g := (mkF m 19 #[.val (.ref a0), .val (.int (0 : Int32))] [(.int (0 : Int32)), (.ref mm), (.ref bb)])) rfl rfl (hb hby own_d4_19) _ ?_
      show Steps p.tables e below (T96.setTop (mkF m 20 #[.val (.ref a0), .val (.int (0 : Int32))] [(.int (f 0)), (.ref bb)])) _
      refine XS.bipush X96.here hx rfl (hb hby own_d4_20) ?_
      show Steps p.tables e below (T96.setTop (mkF m 22 #[.val (.ref a0), .val (.int (0 : Int32))] [(.int (64 : Int32)), (.int (f 0)), (.ref bb)])) _
      refine XS.idiv X96.here hx rfl (hb hby own_d4_22) rfl (by decide) ?_
      show Steps p.tables e below (T96.setTop (mkF m 23 #[.val (.ref a0), .val (.int (0 : Int32))] [(.int ((f 0) / (64 : Int32))), (.ref bb)])) _
      refine XS.lconst X96.here hx rfl (hb hby own_d4_23) ?_
      show Steps p.tables e below (T96.setTop (mkF m 24 #[.val (.ref a0), .val (.int (0 : Int32))] [(.long (0 : Int64)), (.int ((f 0) / (64 : Int32))), (.ref bb)])) _
      refine st99 _ ?_
      show Steps p.tables e below (T99.setTop (mkF m 25 #[.val (.ref a0), .val (.int (0 : Int32))] [])) _
      refine XS.iinc X99.here hx rfl (hb hby own_d4_25) rfl (l' := #[.val (.ref a0), .val (.int ((0 : Int32) + (1 : Int32)))]) rfl ?_
      show Steps p.tables e below (T99.setTop (mkF m 28 #[.val (.ref a0), .val (.int ((0 : Int32) + (1 : Int32)))] [])) _
      refine castTop (congrArg (fun z : Int32 => mkF m 28 #[.val (.ref a0), .val (.int z)] []) (by decide : ((0 : Int32) + (1 : Int32)) = (1 : Int32))) ?_
      show Steps p.tables e below (T99.setTop (mkF m 28 #[.val (.ref a0), .val (.int (1 : Int32))] [])) _
      refine XS.goto X99.here hx rfl (pc0 := 28) (pc' := 2) rfl (hb hby own_d4_28) (by decide) (by decide) ?_
      show Steps p.tables e below (T99.setTop (mkF m 2 #[.val (.ref a0), .val (.int (1 : Int32))] [])) _
      refine XS.iloadN X99.here hx rfl (hb hby own_d4_2) rfl ?_
      show Steps p.tables e below (T99.setTop (mkF m 3 #[.val (.ref a0), .val (.int (1 : Int32))] [(.int (1 : Int32))])) _
      refine XS.aloadN X99.here hx rfl (hb hby own_d4_3) rfl rfl ?_
      show Steps p.tables e below (T99.setTop (mkF m 4 #[.val (.ref a0), .val (.int (1 : Int32))] [(.ref a0), (.int (1 : Int32))])) _
      refine st109 _ ?_
      show Steps p.tables e below (T109.setTop (mkF m 7 #[.val (.ref a0), .val (.int (1 : Int32))] [(.int (1 : Int32)), (.int (1 : Int32))])) _
      refine XS.icmpYes X109.here hx rfl (pc0 := 7) (pc' := 31) rfl (hb hby own_d4_7) rfl (flt (by decide : ¬ ((1 : Int32) < (1 : Int32)))).2.1 (by decide) (by decide) ?_
      show Steps p.tables e below (T109.setTop (mkF m 31 #[.val (.ref a0), .val (.int (1 : Int32))] [])) _
      refine XS.aloadN X109.here hx rfl (hb hby own_d4_31) rfl rfl ?_
      show Steps p.tables e below (T109.setTop (mkF m 32 #[.val (.ref a0), .val (.int (1 : Int32))] [(.ref a0)])) _
      refine XS.iconst X109.here hx rfl (hb hby own_d4_32) ?_
      show Steps p.tables e below (T109.setTop (mkF m 33 #[.val (.ref a0), .val (.int (1 : Int32))] [(.int (0 : Int32)), (.ref a0)])) _
      refine st110 _ ?_
      show Steps p.tables e below (T110.setTop (mkF m 36 #[.val (.ref a0), .val (.int (1 : Int32))] [])) _
      exact X110.returnOut hx Bd.returns (hb hby own_d4_36) hr
    · show own_Q4 Z a0 mm bb km kb nb g f (1 : Int32) 1 h0 n0 _ T110.heap _
      rw [e110]
      exact ⟨rfl, N118, K116, f111, f112, f113, f119, f114, f115⟩
  · skip
    obtain ⟨T120, X120, e120, st120⟩ := getF X0 hx hZ hown (host := "") (Or.inl (hw _ (List.mem_of_getElem? (i := 21) rfl))) Via.refl e0 pr3 (g := (mkF m 4 #[.val (.ref a0), .val (.int (0 : Int32))] [(.ref a0), (.int (0 : Int32))])) rfl rfl (hb hby own_d4_4)
    obtain ⟨T121, X121, e121, st121⟩ := getF X120 hx hZ hown (host := "") (Or.inl (hw _ (List.mem_of_getElem? (i := 14) rfl))) Via.refl e120 pr2 (g := (mkF m 11 #[.val (.ref a0), .val (.int (0 : Int32))] [(.ref a0)])) rfl rfl (hb hby own_d4_11)
    obtain ⟨T122, X122, e122, st122⟩ := getF X121 hx hZ hown (host := "") (Or.inl (hw _ (List.mem_of_getElem? (i := 11) rfl))) Via.refl e121 pr1 (g := (mkF m 15 #[.val (.ref a0), .val (.int (0 : Int32))] [(.ref a0), (.ref bb)])) rfl rfl (hb hby own_d4_15)
    obtain ⟨cl123, Ar123, q123, S123, M123, H123, G123⟩ := id pr4
    have hin123 : ¬ ((0 : Int32) < 0 ∨ cl123.slots.size ≤ ((0 : Int32)).toNatClampNeg) := inb_of S123 ⟨by decide, by decide⟩
    have hat123 : cl123.slots[((0 : Int32)).toNatClampNeg]? = some (.int (f 0)) := H123.at hin123 rfl
    obtain ⟨cl124, Ar124, q124, S124, M124, H124, G124⟩ := id pr5
    have hin124 : ¬ (((f 0) / (64 : Int32)) < 0 ∨ cl124.slots.size ≤ (((f 0) / (64 : Int32))).toNatClampNeg) := inb_of S124 (hin 0 (by decide))
    obtain ⟨T125, h125, X125, e125, W125, st125⟩ := stJ X122 hx hZ e122 Ar124 (j := ((f 0) / (64 : Int32))) hin124 (g := (mkF m 24 #[.val (.ref a0), .val (.int (0 : Int32))] [(.long (0 : Int64)), (.int ((f 0) / (64 : Int32))), (.ref bb)])) rfl rfl (hb hby own_d4_24)
    have f126 := pr0.wr W125
    have f127 := pr1.other W125 (Or.inl ne_a0_bb)
    have f128 := pr2.other W125 (Or.inl ne_a0_bb)
    have f129 := pr3.other W125 (Or.inl ne_a0_bb)
    have f130 := pr4.other W125 ne_mm_bb
    have K131 : Keep h0 h125 [a0, bb] := (Keep.refl h0 [a0, bb]).wr W125 (Or.inl (List.mem_of_getElem? (i := 1) rfl))
    have z132 : n0 ≤ h125.size := Nat.le_trans Z0 (Keep.of_wr W125).1
    have N133 := Fr.snoc X125 N0 g_bb
    have f134 : Arv Z h125 bb kb .long nb (own_L (own_upd g (own_w (f 0)) (0 : Int64))) (.long (0 : Int64)) := by rw [← own_Lset g (own_w (f 0)) _ (own_In4 (hin 0 (by decide)) h4)]; exact Arv.set Ar124 q124 S124 M124 H124 G124 rfl W125 (own_w (f 0)) rfl (own_In4 (hin 0 (by decide)) h4)
    obtain ⟨T135, X135, e135, st135⟩ := getF X125 hx hZ hown (host := "") (Or.inl (hw _ (List.mem_of_getElem? (i := 21) rfl))) Via.refl e125 f129 (g := (mkF m 4 #[.val (.ref a0), .val (.int (1 : Int32))] [(.ref a0), (.int (1 : Int32))])) rfl rfl (hb hby own_d4_4)
    obtain ⟨T136, X136, e136, st136⟩ := getF X135 hx hZ hown (host := "") (Or.inl (hw _ (List.mem_of_getElem? (i := 14) rfl))) Via.refl e135 f128 (g := (mkF m 11 #[.val (.ref a0), .val (.int (1 : Int32))] [(.ref a0)])) rfl rfl (hb hby own_d4_11)
    obtain ⟨T137, X137, e137, st137⟩ := getF X136 hx hZ hown (host := "") (Or.inl (hw _ (List.mem_of_getElem? (i := 11) rfl))) Via.refl e136 f127 (g := (mkF m 15 #[.val (.ref a0), .val (.int (1 : Int32))] [(.ref a0), (.ref bb)])) rfl rfl (hb hby own_d4_15)
    obtain ⟨cl138, Ar138, q138, S138, M138, H138, G138⟩ := id f130
    have hin138 : ¬ ((1 : Int32) < 0 ∨ cl138.slots.size ≤ ((1 : Int32)).toNatClampNeg) := inb_of S138 ⟨by decide, by decide⟩
    have hat138 : cl138.slots[((1 : Int32)).toNatClampNeg]? = some (.int (f 1)) := H138.at hin138 rfl
    obtain ⟨cl139, Ar139, q139, S139, M139, H139, G139⟩ := id f134
    have hin139 : ¬ (((f 1) / (64 : Int32)) < 0 ∨ cl139.slots.size ≤ (((f 1) / (64 : Int32))).toNatClampNeg) := inb_of S139 (hin 1 (by decide))
    obtain ⟨T140, h140, X140, e140, W140, st140⟩ := stJ X137 hx hZ e137 Ar139 (j := ((f 1) / (64 : Int32))) hin139 (g := (mkF m 24 #[.val (.ref a0), .val (.int (1 : Int32))] [(.long (0 : Int64)), (.int ((f 1) / (64 : Int32))), (.ref bb)])) rfl rfl (hb hby own_d4_24)
    have f141 := f126.wr W140
    have f142 := f127.other W140 (Or.inl ne_a0_bb)
    have f143 := f128.other W140 (Or.inl ne_a0_bb)
    have f144 := f129.other W140 (Or.inl ne_a0_bb)
    have f145 := f130.other W140 ne_mm_bb
    have K146 : Keep h0 h140 [a0, bb] := K131.wr W140 (Or.inl (List.mem_of_getElem? (i := 1) rfl))
    have z147 : n0 ≤ h140.size := Nat.le_trans z132 (Keep.of_wr W140).1
    have N148 := Fr.snoc X140 N133 g_bb
    have f149 : Arv Z h140 bb kb .long nb (own_L (own_upd (own_upd g (own_w (f 0)) (0 : Int64)) (own_w (f 1)) (0 : Int64))) (.long (0 : Int64)) := by rw [← own_Lset (own_upd g (own_w (f 0)) (0 : Int64)) (own_w (f 1)) _ (own_In4 (hin 1 (by decide)) h4)]; exact Arv.set Ar139 q139 S139 M139 H139 G139 rfl W140 (own_w (f 1)) rfl (own_In4 (hin 1 (by decide)) h4)
    obtain ⟨T150, X150, e150, st150⟩ := getF X140 hx hZ hown (host := "") (Or.inl (hw _ (List.mem_of_getElem? (i := 21) rfl))) Via.refl e140 f144 (g := (mkF m 4 #[.val (.ref a0), .val (.int (2 : Int32))] [(.ref a0), (.int (2 : Int32))])) rfl rfl (hb hby own_d4_4)
    obtain ⟨T151, h151, X151, e151, W151, st151⟩ := putF X150 hx hZ hown (host := "") (Or.inl (hw _ (List.mem_of_getElem? (i := 21) rfl))) Via.refl e150 f144 f141 (Or.inl (hw _ (List.mem_of_getElem? (i := 22) rfl))) (hw _ (List.mem_of_getElem? (i := 2) rfl)) (ty := .int) (by decide) rfl rfl (g := (mkF m 33 #[.val (.ref a0), .val (.int (2 : Int32))] [(.int (0 : Int32)), (.ref a0)])) rfl rfl (hb hby own_d4_33)
    have f152 := f141.wr W151
    have f153 := f142.other W151 (Or.inr (slot_ne (Or.inl (hw _ (List.mem_of_getElem? (i := 12) rfl))) (Or.inl (hw _ (List.mem_of_getElem? (i := 22) rfl))) (by decide) (t := (.array .int)) (t' := .int) (by decide) (by decide)))
    have f154 := f143.other W151 (Or.inr (slot_ne (Or.inr (hw _ (List.mem_of_getElem? (i := 15) rfl))) (Or.inl (hw _ (List.mem_of_getElem? (i := 22) rfl))) (by decide) (t := (.array .long)) (t' := .int) (by decide) (by decide)))
    have f155 := f145.other W151 (Ne.symm ne_a0_mm)
    have f156 := f149.other W151 (Ne.symm ne_a0_bb)
    have K157 : Keep h0 h151 [a0, bb] := K146.wr W151 (Or.inl (List.mem_of_getElem? (i := 0) rfl))
    have z158 : n0 ≤ h151.size := Nat.le_trans z147 (Keep.of_wr W151).1
    have N159 := Fr.snoc X151 N148 g_a0
    have f160 : Fld Z h151 a0 "archetest/util/StateSet" "size" "I" (.int (0 : Int32)) := f144.same W151
    obtain ⟨fs, hr, hrun, hended, hW, hsame⟩ := X151.leave (v := none) (fun _ => rfl)
    refine ⟨_, _, pre0 _ ?_, hrun, hended, _, _, rfl, ?_, ⟨_, rfl⟩, hW, hsame.mono (by decide) (by decide)⟩
    · show Steps p.tables e below (s₁.setTop (mkF m 0 #[.val (.ref a0), .unset] [])) _
      refine XS.iconst X0.here hx rfl (hb hby own_d4_0) ?_
      show Steps p.tables e below (s₁.setTop (mkF m 1 #[.val (.ref a0), .unset] [(.int (0 : Int32))])) _
      refine XS.istoreN X0.here hx rfl (hb hby own_d4_1) rfl (l' := #[.val (.ref a0), .val (.int (0 : Int32))]) rfl ?_
      show Steps p.tables e below (s₁.setTop (mkF m 2 #[.val (.ref a0), .val (.int (0 : Int32))] [])) _
      refine XS.iloadN X0.here hx rfl (hb hby own_d4_2) rfl ?_
      show Steps p.tables e below (s₁.setTop (mkF m 3 #[.val (.ref a0), .val (.int (0 : Int32))] [(.int (0 : Int32))])) _
      refine XS.aloadN X0.here hx rfl (hb hby own_d4_3) rfl rfl ?_
      show Steps p.tables e below (s₁.setTop (mkF m 4 #[.val (.ref a0), .val (.int (0 : Int32))] [(.ref a0), (.int (0 : Int32))])) _
      refine st120 _ ?_
      show Steps p.tables e below (T120.setTop (mkF m 7 #[.val (.ref a0), .val (.int (0 : Int32))] [(.int (2 : Int32)), (.int (0 : Int32))])) _
      refine XS.icmpNo X120.here hx rfl (hb hby own_d4_7) rfl (tlt (by decide : (0 : Int32) < (2 : Int32))).2.1 ?_
      show Steps p.tables e below (T120.setTop (mkF m 10 #[.val (.ref a0), .val (.int (0 : Int32))] [])) _
      refine XS.aloadN X120.here hx rfl (hb hby own_d4_10) rfl rfl ?_
      show Steps p.tables e below (T120.setTop (mkF m 11 #[.val (.ref a0), .val (.int (0 : Int32))] [(.ref a0)])) _
      refine st121 _ ?_
      show Steps p.tables e below (T121.setTop (mkF m 14 #[.val (.ref a0), .val (.int (0 : Int32))] [(.ref bb)])) _
      refine XS.aloadN X121.here hx rfl (hb hby own_d4_14) rfl rfl ?_
      show Steps p.tables e below (T121.setTop (mkF m 15 #[.val (.ref a0), .val (.int (0 : Int32))] [(.ref a0), (.ref bb)])) _
      refine st122 _ ?_
      show Steps p.tables e below (T122.setTop (mkF m 18 #[.val (.ref a0), .val (.int (0 : Int32))] [(.ref mm), (.ref bb)])) _
      refine XS.iloadN X122.here hx rfl (hb hby own_d4_18) rfl ?_
      show Steps p.tables e below (T122.setTop (mkF m 19 #[.val (.ref a0), .val (.int (0 : Int32))] [(.int (0 : Int32)), (.ref mm), (.ref bb)])) _
      refine X122.iaload hx (j := (0 : Int32)) (v := (.int (f 0))) (by rw [e122]; exact Ar123.1) (State.isArrayOf_alike hZ.alike Ar123.2.1) Ar123.2.2 hin123 hat123 (g := (mkF m 19 #[.val (.ref a0), .val (.int (0 : Int32))] [(.int (0 : Int32)), (.ref mm), (.ref bb)])) rfl rfl (hb hby own_d4_19) _ ?_
      show Steps p.tables e below (T122.setTop (mkF m 20 #[.val (.ref a0), .val (.int (0 : Int32))] [(.int (f 0)), (.ref bb)])) _
      refine XS.bipush X122.here hx rfl (hb hby own_d4_20) ?_
      show Steps p.tables e below (T122.setTop (mkF m 22 #[.val (.ref a0), .val (.int (0 : Int32))] [(.int (64 : Int32)), (.int (f 0)), (.ref bb)])) _
      refine XS.idiv X122.here hx rfl (hb hby own_d4_22) rfl (by decide) ?_
      show Steps p.tables e below (T122.setTop (mkF m 23 #[.val (.ref a0), .val (.int (0 : Int32))] [(.int ((f 0) / (64 : Int32))), (.ref bb)])) _
      refine XS.lconst X122.here hx rfl (hb hby own_d4_23) ?_
      show Steps p.tables e below (T122.setTop (mkF m 24 #[.val (.ref a0), .val (.int (0 : Int32))] [(.long (0 : Int64)), (.int ((f 0) / (64 : Int32))), (.ref bb)])) _
      refine st125 _ ?_
      show Steps p.tables e below (T125.setTop (mkF m 25 #[.val (.ref a0), .val (.int (0 : Int32))] [])) _
      refine XS.iinc X125.here hx rfl (hb hby own_d4_25) rfl (l' := #[.val (.ref a0), .val (.int ((0 : Int32) + (1 : Int32)))]) rfl ?_
      show Steps p.tables e below (T125.setTop (mkF m 28 #[.val (.ref a0), .val (.int ((0 : Int32) + (1 : Int32)))] [])) _
      refine castTop (congrArg (fun z : Int32 => mkF m 28 #[.val (.ref a0), .val (.int z)] []) (by decide : ((0 : Int32) + (1 : Int32)) = (1 : Int32))) ?_
      show Steps p.tables e below (T125.setTop (mkF m 28 #[.val (.ref a0), .val (.int (1 : Int32))] [])) _
      refine XS.goto X125.here hx rfl (pc0 := 28) (pc' := 2) rfl (hb hby own_d4_28) (by decide) (by decide) ?_
      show Steps p.tables e below (T125.setTop (mkF m 2 #[.val (.ref a0), .val (.int (1 : Int32))] [])) _
      refine XS.iloadN X125.here hx rfl (hb hby own_d4_2) rfl ?_
      show Steps p.tables e below (T125.setTop (mkF m 3 #[.val (.ref a0), .val (.int (1 : Int32))] [(.int (1 : Int32))])) _
      refine XS.aloadN X125.here hx rfl (hb hby own_d4_3) rfl rfl ?_
      show Steps p.tables e below (T125.setTop (mkF m 4 #[.val (.ref a0), .val (.int (1 : Int32))] [(.ref a0), (.int (1 : Int32))])) _
      refine st135 _ ?_
      show Steps p.tables e below (T135.setTop (mkF m 7 #[.val (.ref a0), .val (.int (1 : Int32))] [(.int (2 : Int32)), (.int (1 : Int32))])) _
      refine XS.icmpNo X135.here hx rfl (hb hby own_d4_7) rfl (tlt (by decide : (1 : Int32) < (2 : Int32))).2.1 ?_
      show Steps p.tables e below (T135.setTop (mkF m 10 #[.val (.ref a0), .val (.int (1 : Int32))] [])) _
      refine XS.aloadN X135.here hx rfl (hb hby own_d4_10) rfl rfl ?_
      show Steps p.tables e below (T135.setTop (mkF m 11 #[.val (.ref a0), .val (.int (1 : Int32))] [(.ref a0)])) _
      refine st136 _ ?_
      show Steps p.tables e below (T136.setTop (mkF m 14 #[.val (.ref a0), .val (.int (1 : Int32))] [(.ref bb)])) _
      refine XS.aloadN X136.here hx rfl (hb hby own_d4_14) rfl rfl ?_
      show Steps p.tables e below (T136.setTop (mkF m 15 #[.val (.ref a0), .val (.int (1 : Int32))] [(.ref a0), (.ref bb)])) _
      refine st137 _ ?_
      show Steps p.tables e below (T137.setTop (mkF m 18 #[.val (.ref a0), .val (.int (1 : Int32))] [(.ref mm), (.ref bb)])) _
      refine XS.iloadN X137.here hx rfl (hb hby own_d4_18) rfl ?_
      show Steps p.tables e below (T137.setTop (mkF m 19 #[.val (.ref a0), .val (.int (1 : Int32))] [(.int (1 : Int32)), (.ref mm), (.ref bb)])) _
      refine X137.iaload hx (j := (1 : Int32)) (v := (.int (f 1))) (by rw [e137]; exact Ar138.1) (State.isArrayOf_alike hZ.alike Ar138.2.1) Ar138.2.2 hin138 hat138 (g := (mkF m 19 #[.val (.ref a0), .val (.int (1 : Int32))] [(.int (1 : Int32)), (.ref mm), (.ref bb)])) rfl rfl (hb hby own_d4_19) _ ?_
      show Steps p.tables e below (T137.setTop (mkF m 20 #[.val (.ref a0), .val (.int (1 : Int32))] [(.int (f 1)), (.ref bb)])) _
      refine XS.bipush X137.here hx rfl (hb hby own_d4_20) ?_
      show Steps p.tables e below (T137.setTop (mkF m 22 #[.val (.ref a0), .val (.int (1 : Int32))] [(.int (64 : Int32)), (.int (f 1)), (.ref bb)])) _
      refine XS.idiv X137.here hx rfl (hb hby own_d4_22) rfl (by decide) ?_
      show Steps p.tables e below (T137.setTop (mkF m 23 #[.val (.ref a0), .val (.int (1 : Int32))] [(.int ((f 1) / (64 : Int32))), (.ref bb)])) _
      refine XS.lconst X137.here hx rfl (hb hby own_d4_23) ?_
      show Steps p.tables e below (T137.setTop (mkF m 24 #[.val (.ref a0), .val (.int (1 : Int32))] [(.long (0 : Int64)), (.int ((f 1) / (64 : Int32))), (.ref bb)])) _
      refine st140 _ ?_
      show Steps p.tables e below (T140.setTop (mkF m 25 #[.val (.ref a0), .val (.int (1 : Int32))] [])) _
      refine XS.iinc X140.here hx rfl (hb hby own_d4_25) rfl (l' := #[.val (.ref a0), .val (.int ((1 : Int32) + (1 : Int32)))]) rfl ?_
      show Steps p.tables e below (T140.setTop (mkF m 28 #[.val (.ref a0), .val (.int ((1 : Int32) + (1 : Int32)))] [])) _
      refine castTop (congrArg (fun z : Int32 => mkF m 28 #[.val (.ref a0), .val (.int z)] []) (by decide : ((1 : Int32) + (1 : Int32)) = (2 : Int32))) ?_
      show Steps p.tables e below (T140.setTop (mkF m 28 #[.val (.ref a0), .val (.int (2 : Int32))] [])) _
      refine XS.goto X140.here hx rfl (pc0 := 28) (pc' := 2) rfl (hb hby own_d4_28) (by decide) (by decide) ?_
      show Steps p.tables e below (T140.setTop (mkF m 2 #[.val (.ref a0), .val (.int (2 : Int32))] [])) _
      refine XS.iloadN X140.here hx rfl (hb hby own_d4_2) rfl ?_
      show Steps p.tables e below (T140.setTop (mkF m 3 #[.val (.ref a0), .val (.int (2 : Int32))] [(.int (2 : Int32))])) _
      refine XS.aloadN X140.here hx rfl (hb hby own_d4_3) rfl rfl ?_
      show Steps p.tables e below (T140.setTop (mkF m 4 #[.val (.ref a0), .val (.int (2 : Int32))] [(.ref a0), (.int (2 : Int32))])) _
      refine st150 _ ?_
      show Steps p.tables e below (T150.setTop (mkF m 7 #[.val (.ref a0), .val (.int (2 : Int32))] [(.int (2 : Int32)), (.int (2 : Int32))])) _
      refine XS.icmpYes X150.here hx rfl (pc0 := 7) (pc' := 31) rfl (hb hby own_d4_7) rfl (flt (by decide : ¬ ((2 : Int32) < (2 : Int32)))).2.1 (by decide) (by decide) ?_
      show Steps p.tables e below (T150.setTop (mkF m 31 #[.val (.ref a0), .val (.int (2 : Int32))] [])) _
      refine XS.aloadN X150.here hx rfl (hb hby own_d4_31) rfl rfl ?_
      show Steps p.tables e below (T150.setTop (mkF m 32 #[.val (.ref a0), .val (.int (2 : Int32))] [(.ref a0)])) _
      refine XS.iconst X150.here hx rfl (hb hby own_d4_32) ?_
      show Steps p.tables e below (T150.setTop (mkF m 33 #[.val (.ref a0), .val (.int (2 : Int32))] [(.int (0 : Int32)), (.ref a0)])) _
      refine st151 _ ?_
      show Steps p.tables e below (T151.setTop (mkF m 36 #[.val (.ref a0), .val (.int (2 : Int32))] [])) _
      exact X151.returnOut hx Bd.returns (hb hby own_d4_36) hr
    · show own_Q4 Z a0 mm bb km kb nb g f (2 : Int32) 2 h0 n0 _ T151.heap _
      rw [e151]
      exact ⟨rfl, N159, K157, f152, f153, f154, f160, f155, f156⟩
  · skip
    obtain ⟨T161, X161, e161, st161⟩ := getF X0 hx hZ hown (host := "") (Or.inl (hw _ (List.mem_of_getElem? (i := 21) rfl))) Via.refl e0 pr3 (g := (mkF m 4 #[.val (.ref a0), .val (.int (0 : Int32))] [(.ref a0), (.int (0 : Int32))])) rfl rfl (hb hby own_d4_4)
    obtain ⟨T162, X162, e162, st162⟩ := getF X161 hx hZ hown (host := "") (Or.inl (hw _ (List.mem_of_getElem? (i := 14) rfl))) Via.refl e161 pr2 (g := (mkF m 11 #[.val (.ref a0), .val (.int (0 : Int32))] [(.ref a0)])) rfl rfl (hb hby own_d4_11)
    obtain ⟨T163, X163, e163, st163⟩ := getF X162 hx hZ hown (host := "") (Or.inl (hw _ (List.mem_of_getElem? (i := 11) rfl))) Via.refl e162 pr1 (g := (mkF m 15 #[.val (.ref a0), .val (.int (0 : Int32))] [(.ref a0), (.ref bb)])) rfl rfl (hb hby own_d4_15)
    obtain ⟨cl164, Ar164, q164, S164, M164, H164, G164⟩ := id pr4
    have hin164 : ¬ ((0 : Int32) < 0 ∨ cl164.slots.size ≤ ((0 : Int32)).toNatClampNeg) := inb_of S164 ⟨by decide, by decide⟩
    have hat164 : cl164.slots[((0 : Int32)).toNatClampNeg]? = some (.int (f 0)) := H164.at hin164 rfl
    obtain ⟨cl165, Ar165, q165, S165, M165, H165, G165⟩ := id pr5
    have hin165 : ¬ (((f 0) / (64 : Int32)) < 0 ∨ cl165.slots.size ≤ (((f 0) / (64 : Int32))).toNatClampNeg) := inb_of S165 (hin 0 (by decide))
    obtain ⟨T166, h166, X166, e166, W166, st166⟩ := stJ X163 hx hZ e163 Ar165 (j := ((f 0) / (64 : Int32))) hin165 (g := (mkF m 24 #[.val (.ref a0), .val (.int (0 : Int32))] [(.long (0 : Int64)), (.int ((f 0) / (64 : Int32))), (.ref bb)])) rfl rfl (hb hby own_d4_24)
    have f167 := pr0.wr W166
    have f168 := pr1.other W166 (Or.inl ne_a0_bb)
    have f169 := pr2.other W166 (Or.inl ne_a0_bb)
    have f170 := pr3.other W166 (Or.inl ne_a0_bb)
    have f171 := pr4.other W166 ne_mm_bb
    have K172 : Keep h0 h166 [a0, bb] := (Keep.refl h0 [a0, bb]).wr W166 (Or.inl (List.mem_of_getElem? (i := 1) rfl))
    have z173 : n0 ≤ h166.size := Nat.le_trans Z0 (Keep.of_wr W166).1
    have N174 := Fr.snoc X166 N0 g_bb
    have f175 : Arv Z h166 bb kb .long nb (own_L (own_upd g (own_w (f 0)) (0 : Int64))) (.long (0 : Int64)) := by rw [← own_Lset g (own_w (f 0)) _ (own_In4 (hin 0 (by decide)) h4)]; exact Arv.set Ar165 q165 S165 M165 H165 G165 rfl W166 (own_w (f 0)) rfl (own_In4 (hin 0 (by decide)) h4)
    obtain ⟨T176, X176, e176, st176⟩ := getF X166 hx hZ hown (host := "") (Or.inl (hw _ (List.mem_of_getElem? (i := 21) rfl))) Via.refl e166 f170 (g := (mkF m 4 #[.val (.ref a0), .val (.int (1 : Int32))] [(.ref a0), (.int (1 : Int32))])) rfl rfl (hb hby own_d4_4)
    obtain ⟨T177, X177, e177, st177⟩ := getF X176 hx hZ hown (host := "") (Or.inl (hw _ (List.mem_of_getElem? (i := 14) rfl))) Via.refl e176 f169 (g := (mkF m 11 #[.val (.ref a0), .val (.int (1 : Int32))] [(.ref a0)])) rfl rfl (hb hby own_d4_11)
    obtain ⟨T178, X178, e178, st178⟩ := getF X177 hx hZ hown (host := "") (Or.inl (hw _ (List.mem_of_getElem? (i := 11) rfl))) Via.refl e177 f168 (g := (mkF m 15 #[.val (.ref a0), .val (.int (1 : Int32))] [(.ref a0), (.ref bb)])) rfl rfl (hb hby own_d4_15)
    obtain ⟨cl179, Ar179, q179, S179, M179, H179, G179⟩ := id f171
    have hin179 : ¬ ((1 : Int32) < 0 ∨ cl179.slots.size ≤ ((1 : Int32)).toNatClampNeg) := inb_of S179 ⟨by decide, by decide⟩
    have hat179 : cl179.slots[((1 : Int32)).toNatClampNeg]? = some (.int (f 1)) := H179.at hin179 rfl
    obtain ⟨cl180, Ar180, q180, S180, M180, H180, G180⟩ := id f175
    have hin180 : ¬ (((f 1) / (64 : Int32)) < 0 ∨ cl180.slots.size ≤ (((f 1) / (64 : Int32))).toNatClampNeg) := inb_of S180 (hin 1 (by decide))
    obtain ⟨T181, h181, X181, e181, W181, st181⟩ := stJ X178 hx hZ e178 Ar180 (j := ((f 1) / (64 : Int32))) hin180 (g := (mkF m 24 #[.val (.ref a0), .val (.int (1 : Int32))] [(.long (0 : Int64)), (.int ((f 1) / (64 : Int32))), (.ref bb)])) rfl rfl (hb hby own_d4_24)
    have f182 := f167.wr W181
    have f183 := f168.other W181 (Or.inl ne_a0_bb)
    have f184 := f169.other W181 (Or.inl ne_a0_bb)
    have f185 := f170.other W181 (Or.inl ne_a0_bb)
    have f186 := f171.other W181 ne_mm_bb
    have K187 : Keep h0 h181 [a0, bb] := K172.wr W181 (Or.inl (List.mem_of_getElem? (i := 1) rfl))
    have z188 : n0 ≤ h181.size := Nat.le_trans z173 (Keep.of_wr W181).1
    have N189 := Fr.snoc X181 N174 g_bb
    have f190 : Arv Z h181 bb kb .long nb (own_L (own_upd (own_upd g (own_w (f 0)) (0 : Int64)) (own_w (f 1)) (0 : Int64))) (.long (0 : Int64)) := by rw [← own_Lset (own_upd g (own_w (f 0)) (0 : Int64)) (own_w (f 1)) _ (own_In4 (hin 1 (by decide)) h4)]; exact Arv.set Ar180 q180 S180 M180 H180 G180 rfl W181 (own_w (f 1)) rfl (own_In4 (hin 1 (by decide)) h4)
    obtain ⟨T191, X191, e191, st191⟩ := getF X181 hx hZ hown (host := "") (Or.inl (hw _ (List.mem_of_getElem? (i := 21) rfl))) Via.refl e181 f185 (g := (mkF m 4 #[.val (.ref a0), .val (.int (2 : Int32))] [(.ref a0), (.int (2 : Int32))])) rfl rfl (hb hby own_d4_4)
    obtain ⟨T192, X192, e192, st192⟩ := getF X191 hx hZ hown (host := "") (Or.inl (hw _ (List.mem_of_getElem? (i := 14) rfl))) Via.refl e191 f184 (g := (mkF m 11 #[.val (.ref a0), .val (.int (2 : Int32))] [(.ref a0)])) rfl rfl (hb hby own_d4_11)
    obtain ⟨T193, X193, e193, st193⟩ := getF X192 hx hZ hown (host := "") (Or.inl (hw _ (List.mem_of_getElem? (i := 11) rfl))) Via.refl e192 f183 (g := (mkF m 15 #[.val (.ref a0), .val (.int (2 : Int32))] [(.ref a0), (.ref bb)])) rfl rfl (hb hby own_d4_15)
    obtain ⟨cl194, Ar194, q194, S194, M194, H194, G194⟩ := id f186
    have hin194 : ¬ ((2 : Int32) < 0 ∨ cl194.slots.size ≤ ((2 : Int32)).toNatClampNeg) := inb_of S194 ⟨by decide, by decide⟩
    have hat194 : cl194.slots[((2 : Int32)).toNatClampNeg]? = some (.int (f 2)) := H194.at hin194 rfl
    obtain ⟨cl195, Ar195, q195, S195, M195, H195, G195⟩ := id f190
    have hin195 : ¬ (((f 2) / (64 : Int32)) < 0 ∨ cl195.slots.size ≤ (((f 2) / (64 : Int32))).toNatClampNeg) := inb_of S195 (hin 2 (by decide))
    obtain ⟨T196, h196, X196, e196, W196, st196⟩ := stJ X193 hx hZ e193 Ar195 (j := ((f 2) / (64 : Int32))) hin195 (g := (mkF m 24 #[.val (.ref a0), .val (.int (2 : Int32))] [(.long (0 : Int64)), (.int ((f 2) / (64 : Int32))), (.ref bb)])) rfl rfl (hb hby own_d4_24)
    have f197 := f182.wr W196
    have f198 := f183.other W196 (Or.inl ne_a0_bb)
    have f199 := f184.other W196 (Or.inl ne_a0_bb)
    have f200 := f185.other W196 (Or.inl ne_a0_bb)
    have f201 := f186.other W196 ne_mm_bb
    have K202 : Keep h0 h196 [a0, bb] := K187.wr W196 (Or.inl (List.mem_of_getElem? (i := 1) rfl))
    have z203 : n0 ≤ h196.size := Nat.le_trans z188 (Keep.of_wr W196).1
    have N204 := Fr.snoc X196 N189 g_bb
    have f205 : Arv Z h196 bb kb .long nb (own_L (own_upd (own_upd (own_upd g (own_w (f 0)) (0 : Int64)) (own_w (f 1)) (0 : Int64)) (own_w (f 2)) (0 : Int64))) (.long (0 : Int64)) := by rw [← own_Lset (own_upd (own_upd g (own_w (f 0)) (0 : Int64)) (own_w (f 1)) (0 : Int64)) (own_w (f 2)) _ (own_In4 (hin 2 (by decide)) h4)]; exact Arv.set Ar195 q195 S195 M195 H195 G195 rfl W196 (own_w (f 2)) rfl (own_In4 (hin 2 (by decide)) h4)
    obtain ⟨T206, X206, e206, st206⟩ := getF X196 hx hZ hown (host := "") (Or.inl (hw _ (List.mem_of_getElem? (i := 21) rfl))) Via.refl e196 f200 (g := (mkF m 4 #[.val (.ref a0), .val (.int (3 : Int32))] [(.ref a0), (.int (3 : Int32))])) rfl rfl (hb hby own_d4_4)
    obtain ⟨T207, h207, X207, e207, W207, st207⟩ := putF X206 hx hZ hown (host := "") (Or.inl (hw _ (List.mem_of_getElem? (i := 21) rfl))) Via.refl e206 f200 f197 (Or.inl (hw _ (List.mem_of_getElem? (i := 22) rfl))) (hw _ (List.mem_of_getElem? (i := 2) rfl)) (ty := .int) (by decide) rfl rfl (g := (mkF m 33 #[.val (.ref a0), .val (.int (3 : Int32))] [(.int (0 : Int32)), (.ref a0)])) rfl rfl (hb hby own_d4_33)
    have f208 := f197.wr W207
    have f209 := f198.other W207 (Or.inr (slot_ne (Or.inl (hw _ (List.mem_of_getElem? (i := 12) rfl))) (Or.inl (hw _ (List.mem_of_getElem? (i := 22) rfl))) (by decide) (t := (.array .int)) (t' := .int) (by decide) (by decide)))
    have f210 := f199.other W207 (Or.inr (slot_ne (Or.inr (hw _ (List.mem_of_getElem? (i := 15) rfl))) (Or.inl (hw _ (List.mem_of_getElem? (i := 22) rfl))) (by decide) (t := (.array .long)) (t' := .int) (by decide) (by decide)))
    have f211 := f201.other W207 (Ne.symm ne_a0_mm)
    have f212 := f205.other W207 (Ne.symm ne_a0_bb)
    have K213 : Keep h0 h207 [a0, bb] := K202.wr W207 (Or.inl (List.mem_of_getElem? (i := 0) rfl))
    have z214 : n0 ≤ h207.size := Nat.le_trans z203 (Keep.of_wr W207).1
    have N215 := Fr.snoc X207 N204 g_a0
    have f216 : Fld Z h207 a0 "archetest/util/StateSet" "size" "I" (.int (0 : Int32)) := f200.same W207
    obtain ⟨fs, hr, hrun, hended, hW, hsame⟩ := X207.leave (v := none) (fun _ => rfl)
    refine ⟨_, _, pre0 _ ?_, hrun, hended, _, _, rfl, ?_, ⟨_, rfl⟩, hW, hsame.mono (by decide) (by decide)⟩
    · show Steps p.tables e below (s₁.setTop (mkF m 0 #[.val (.ref a0), .unset] [])) _
      refine XS.iconst X0.here hx rfl (hb hby own_d4_0) ?_
      show Steps p.tables e below (s₁.setTop (mkF m 1 #[.val (.ref a0), .unset] [(.int (0 : Int32))])) _
      refine XS.istoreN X0.here hx rfl (hb hby own_d4_1) rfl (l' := #[.val (.ref a0), .val (.int (0 : Int32))]) rfl ?_
      show Steps p.tables e below (s₁.setTop (mkF m 2 #[.val (.ref a0), .val (.int (0 : Int32))] [])) _
      refine XS.iloadN X0.here hx rfl (hb hby own_d4_2) rfl ?_
      show Steps p.tables e below (s₁.setTop (mkF m 3 #[.val (.ref a0), .val (.int (0 : Int32))] [(.int (0 : Int32))])) _
      refine XS.aloadN X0.here hx rfl (hb hby own_d4_3) rfl rfl ?_
      show Steps p.tables e below (s₁.setTop (mkF m 4 #[.val (.ref a0), .val (.int (0 : Int32))] [(.ref a0), (.int (0 : Int32))])) _
      refine st161 _ ?_
      show Steps p.tables e below (T161.setTop (mkF m 7 #[.val (.ref a0), .val (.int (0 : Int32))] [(.int (3 : Int32)), (.int (0 : Int32))])) _
      refine XS.icmpNo X161.here hx rfl (hb hby own_d4_7) rfl (tlt (by decide : (0 : Int32) < (3 : Int32))).2.1 ?_
      show Steps p.tables e below (T161.setTop (mkF m 10 #[.val (.ref a0), .val (.int (0 : Int32))] [])) _
      refine XS.aloadN X161.here hx rfl (hb hby own_d4_10) rfl rfl ?_
      show Steps p.tables e below (T161.setTop (mkF m 11 #[.val (.ref a0), .val (.int (0 : Int32))] [(.ref a0)])) _
      refine st162 _ ?_
      show Steps p.tables e below (T162.setTop (mkF m 14 #[.val (.ref a0), .val (.int (0 : Int32))] [(.ref bb)])) _
      refine XS.aloadN X162.here hx rfl (hb hby own_d4_14) rfl rfl ?_
      show Steps p.tables e below (T162.setTop (mkF m 15 #[.val (.ref a0), .val (.int (0 : Int32))] [(.ref a0), (.ref bb)])) _
      refine st163 _ ?_
      show Steps p.tables e below (T163.setTop (mkF m 18 #[.val (.ref a0), .val (.int (0 : Int32))] [(.ref mm), (.ref bb)])) _
      refine XS.iloadN X163.here hx rfl (hb hby own_d4_18) rfl ?_
      show Steps p.tables e below (T163.setTop (mkF m 19 #[.val (.ref a0), .val (.int (0 : Int32))] [(.int (0 : Int32)), (.ref mm), (.ref bb)])) _
      refine X163.iaload hx (j := (0 : Int32)) (v := (.int (f 0))) (by rw [e163]; exact Ar164.1) (State.isArrayOf_alike hZ.alike Ar164.2.1) Ar164.2.2 hin164 hat164 (g := (mkF m 19 #[.val (.ref a0), .val (.int (0 : Int32))] [(.int (0 : Int32)), (.ref mm), (.ref bb)])) rfl rfl (hb hby own_d4_19) _ ?_
      show Steps p.tables e below (T163.setTop (mkF m 20 #[.val (.ref a0), .val (.int (0 : Int32))] [(.int (f 0)), (.ref bb)])) _
      refine XS.bipush X163.here hx rfl (hb hby own_d4_20) ?_
      show Steps p.tables e below (T163.setTop (mkF m 22 #[.val (.ref a0), .val (.int (0 : Int32))] [(.int (64 : Int32)), (.int (f 0)), (.ref bb)])) _
      refine XS.idiv X163.here hx rfl (hb hby own_d4_22) rfl (by decide) ?_
      show Steps p.tables e below (T163.setTop (mkF m 23 #[.val (.ref a0), .val (.int (0 : Int32))] [(.int ((f 0) / (64 : Int32))), (.ref bb)])) _
      refine XS.lconst X163.here hx rfl (hb hby own_d4_23) ?_
      show Steps p.tables e below (T163.setTop (mkF m 24 #[.val (.ref a0), .val (.int (0 : Int32))] [(.long (0 : Int64)), (.int ((f 0) / (64 : Int32))), (.ref bb)])) _
      refine st166 _ ?_
      show Steps p.tables e below (T166.setTop (mkF m 25 #[.val (.ref a0), .val (.int (0 : Int32))] [])) _
      refine XS.iinc X166.here hx rfl (hb hby own_d4_25) rfl (l' := #[.val (.ref a0), .val (.int ((0 : Int32) + (1 : Int32)))]) rfl ?_
      show Steps p.tables e below (T166.setTop (mkF m 28 #[.val (.ref a0), .val (.int ((0 : Int32) + (1 : Int32)))] [])) _
      refine castTop (congrArg (fun z : Int32 => mkF m 28 #[.val (.ref a0), .val (.int z)] []) (by decide : ((0 : Int32) + (1 : Int32)) = (1 : Int32))) ?_
      show Steps p.tables e below (T166.setTop (mkF m 28 #[.val (.ref a0), .val (.int (1 : Int32))] [])) _
      refine XS.goto X166.here hx rfl (pc0 := 28) (pc' := 2) rfl (hb hby own_d4_28) (by decide) (by decide) ?_
      show Steps p.tables e below (T166.setTop (mkF m 2 #[.val (.ref a0), .val (.int (1 : Int32))] [])) _
      refine XS.iloadN X166.here hx rfl (hb hby own_d4_2) rfl ?_
      show Steps p.tables e below (T166.setTop (mkF m 3 #[.val (.ref a0), .val (.int (1 : Int32))] [(.int (1 : Int32))])) _
      refine XS.aloadN X166.here hx rfl (hb hby own_d4_3) rfl rfl ?_
      show Steps p.tables e below (T166.setTop (mkF m 4 #[.val (.ref a0), .val (.int (1 : Int32))] [(.ref a0), (.int (1 : Int32))])) _
      refine st176 _ ?_
      show Steps p.tables e below (T176.setTop (mkF m 7 #[.val (.ref a0), .val (.int (1 : Int32))] [(.int (3 : Int32)), (.int (1 : Int32))])) _
      refine XS.icmpNo X176.here hx rfl (hb hby own_d4_7) rfl (tlt (by decide : (1 : Int32) < (3 : Int32))).2.1 ?_
      show Steps p.tables e below (T176.setTop (mkF m 10 #[.val (.ref a0), .val (.int (1 : Int32))] [])) _
      refine XS.aloadN X176.here hx rfl (hb hby own_d4_10) rfl rfl ?_
      show Steps p.tables e below (T176.setTop (mkF m 11 #[.val (.ref a0), .val (.int (1 : Int32))] [(.ref a0)])) _
      refine st177 _ ?_
      show Steps p.tables e below (T177.setTop (mkF m 14 #[.val (.ref a0), .val (.int (1 : Int32))] [(.ref bb)])) _
      refine XS.aloadN X177.here hx rfl (hb hby own_d4_14) rfl rfl ?_
      show Steps p.tables e below (T177.setTop (mkF m 15 #[.val (.ref a0), .val (.int (1 : Int32))] [(.ref a0), (.ref bb)])) _
      refine st178 _ ?_
      show Steps p.tables e below (T178.setTop (mkF m 18 #[.val (.ref a0), .val (.int (1 : Int32))] [(.ref mm), (.ref bb)])) _
      refine XS.iloadN X178.here hx rfl (hb hby own_d4_18) rfl ?_
      show Steps p.tables e below (T178.setTop (mkF m 19 #[.val (.ref a0), .val (.int (1 : Int32))] [(.int (1 : Int32)), (.ref mm), (.ref bb)])) _
      refine X178.iaload hx (j := (1 : Int32)) (v := (.int (f 1))) (by rw [e178]; exact Ar179.1) (State.isArrayOf_alike hZ.alike Ar179.2.1) Ar179.2.2 hin179 hat179 (g := (mkF m 19 #[.val (.ref a0), .val (.int (1 : Int32))] [(.int (1 : Int32)), (.ref mm), (.ref bb)])) rfl rfl (hb hby own_d4_19) _ ?_
      show Steps p.tables e below (T178.setTop (mkF m 20 #[.val (.ref a0), .val (.int (1 : Int32))] [(.int (f 1)), (.ref bb)])) _
      refine XS.bipush X178.here hx rfl (hb hby own_d4_20) ?_
      show Steps p.tables e below (T178.setTop (mkF m 22 #[.val (.ref a0), .val (.int (1 : Int32))] [(.int (64 : Int32)), (.int (f 1)), (.ref bb)])) _
      refine XS.idiv X178.here hx rfl (hb hby own_d4_22) rfl (by decide) ?_
      show Steps p.tables e below (T178.setTop (mkF m 23 #[.val (.ref a0), .val (.int (1 : Int32))] [(.int ((f 1) / (64 : Int32))), (.ref bb)])) _
      refine XS.lconst X178.here hx rfl (hb hby own_d4_23) ?_
      show Steps p.tables e below (T178.setTop (mkF m 24 #[.val (.ref a0), .val (.int (1 : Int32))] [(.long (0 : Int64)), (.int ((f 1) / (64 : Int32))), (.ref bb)])) _
      refine st181 _ ?_
      show Steps p.tables e below (T181.setTop (mkF m 25 #[.val (.ref a0), .val (.int (1 : Int32))] [])) _
      refine XS.iinc X181.here hx rfl (hb hby own_d4_25) rfl (l' := #[.val (.ref a0), .val (.int ((1 : Int32) + (1 : Int32)))]) rfl ?_
      show Steps p.tables e below (T181.setTop (mkF m 28 #[.val (.ref a0), .val (.int ((1 : Int32) + (1 : Int32)))] [])) _
      refine castTop (congrArg (fun z : Int32 => mkF m 28 #[.val (.ref a0), .val (.int z)] []) (by decide : ((1 : Int32) + (1 : Int32)) = (2 : Int32))) ?_
      show Steps p.tables e below (T181.setTop (mkF m 28 #[.val (.ref a0), .val (.int (2 : Int32))] [])) _
      refine XS.goto X181.here hx rfl (pc0 := 28) (pc' := 2) rfl (hb hby own_d4_28) (by decide) (by decide) ?_
      show Steps p.tables e below (T181.setTop (mkF m 2 #[.val (.ref a0), .val (.int (2 : Int32))] [])) _
      refine XS.iloadN X181.here hx rfl (hb hby own_d4_2) rfl ?_
      show Steps p.tables e below (T181.setTop (mkF m 3 #[.val (.ref a0), .val (.int (2 : Int32))] [(.int (2 : Int32))])) _
      refine XS.aloadN X181.here hx rfl (hb hby own_d4_3) rfl rfl ?_
      show Steps p.tables e below (T181.setTop (mkF m 4 #[.val (.ref a0), .val (.int (2 : Int32))] [(.ref a0), (.int (2 : Int32))])) _
      refine st191 _ ?_
      show Steps p.tables e below (T191.setTop (mkF m 7 #[.val (.ref a0), .val (.int (2 : Int32))] [(.int (3 : Int32)), (.int (2 : Int32))])) _
      refine XS.icmpNo X191.here hx rfl (hb hby own_d4_7) rfl (tlt (by decide : (2 : Int32) < (3 : Int32))).2.1 ?_
      show Steps p.tables e below (T191.setTop (mkF m 10 #[.val (.ref a0), .val (.int (2 : Int32))] [])) _
      refine XS.aloadN X191.here hx rfl (hb hby own_d4_10) rfl rfl ?_
      show Steps p.tables e below (T191.setTop (mkF m 11 #[.val (.ref a0), .val (.int (2 : Int32))] [(.ref a0)])) _
      refine st192 _ ?_
      show Steps p.tables e below (T192.setTop (mkF m 14 #[.val (.ref a0), .val (.int (2 : Int32))] [(.ref bb)])) _
      refine XS.aloadN X192.here hx rfl (hb hby own_d4_14) rfl rfl ?_
      show Steps p.tables e below (T192.setTop (mkF m 15 #[.val (.ref a0), .val (.int (2 : Int32))] [(.ref a0), (.ref bb)])) _
      refine st193 _ ?_
      show Steps p.tables e below (T193.setTop (mkF m 18 #[.val (.ref a0), .val (.int (2 : Int32))] [(.ref mm), (.ref bb)])) _
      refine XS.iloadN X193.here hx rfl (hb hby own_d4_18) rfl ?_
      show Steps p.tables e below (T193.setTop (mkF m 19 #[.val (.ref a0), .val (.int (2 : Int32))] [(.int (2 : Int32)), (.ref mm), (.ref bb)])) _
      refine X193.iaload hx (j := (2 : Int32)) (v := (.int (f 2))) (by rw [e193]; exact Ar194.1) (State.isArrayOf_alike hZ.alike Ar194.2.1) Ar194.2.2 hin194 hat194 (g := (mkF m 19 #[.val (.ref a0), .val (.int (2 : Int32))] [(.int (2 : Int32)), (.ref mm), (.ref bb)])) rfl rfl (hb hby own_d4_19) _ ?_
      show Steps p.tables e below (T193.setTop (mkF m 20 #[.val (.ref a0), .val (.int (2 : Int32))] [(.int (f 2)), (.ref bb)])) _
      refine XS.bipush X193.here hx rfl (hb hby own_d4_20) ?_
      show Steps p.tables e below (T193.setTop (mkF m 22 #[.val (.ref a0), .val (.int (2 : Int32))] [(.int (64 : Int32)), (.int (f 2)), (.ref bb)])) _
      refine XS.idiv X193.here hx rfl (hb hby own_d4_22) rfl (by decide) ?_
      show Steps p.tables e below (T193.setTop (mkF m 23 #[.val (.ref a0), .val (.int (2 : Int32))] [(.int ((f 2) / (64 : Int32))), (.ref bb)])) _
      refine XS.lconst X193.here hx rfl (hb hby own_d4_23) ?_
      show Steps p.tables e below (T193.setTop (mkF m 24 #[.val (.ref a0), .val (.int (2 : Int32))] [(.long (0 : Int64)), (.int ((f 2) / (64 : Int32))), (.ref bb)])) _
      refine st196 _ ?_
      show Steps p.tables e below (T196.setTop (mkF m 25 #[.val (.ref a0), .val (.int (2 : Int32))] [])) _
      refine XS.iinc X196.here hx rfl (hb hby own_d4_25) rfl (l' := #[.val (.ref a0), .val (.int ((2 : Int32) + (1 : Int32)))]) rfl ?_
      show Steps p.tables e below (T196.setTop (mkF m 28 #[.val (.ref a0), .val (.int ((2 : Int32) + (1 : Int32)))] [])) _
      refine castTop (congrArg (fun z : Int32 => mkF m 28 #[.val (.ref a0), .val (.int z)] []) (by decide : ((2 : Int32) + (1 : Int32)) = (3 : Int32))) ?_
      show Steps p.tables e below (T196.setTop (mkF m 28 #[.val (.ref a0), .val (.int (3 : Int32))] [])) _
      refine XS.goto X196.here hx rfl (pc0 := 28) (pc' := 2) rfl (hb hby own_d4_28) (by decide) (by decide) ?_
      show Steps p.tables e below (T196.setTop (mkF m 2 #[.val (.ref a0), .val (.int (3 : Int32))] [])) _
      refine XS.iloadN X196.here hx rfl (hb hby own_d4_2) rfl ?_
      show Steps p.tables e below (T196.setTop (mkF m 3 #[.val (.ref a0), .val (.int (3 : Int32))] [(.int (3 : Int32))])) _
      refine XS.aloadN X196.here hx rfl (hb hby own_d4_3) rfl rfl ?_
      show Steps p.tables e below (T196.setTop (mkF m 4 #[.val (.ref a0), .val (.int (3 : Int32))] [(.ref a0), (.int (3 : Int32))])) _
      refine st206 _ ?_
      show Steps p.tables e below (T206.setTop (mkF m 7 #[.val (.ref a0), .val (.int (3 : Int32))] [(.int (3 : Int32)), (.int (3 : Int32))])) _
      refine XS.icmpYes X206.here hx rfl (pc0 := 7) (pc' := 31) rfl (hb hby own_d4_7) rfl (flt (by decide : ¬ ((3 : Int32) < (3 : Int32)))).2.1 (by decide) (by decide) ?_
      show Steps p.tables e below (T206.setTop (mkF m 31 #[.val (.ref a0), .val (.int (3 : Int32))] [])) _
      refine XS.aloadN X206.here hx rfl (hb hby own_d4_31) rfl rfl ?_
      show Steps p.tables e below (T206.setTop (mkF m 32 #[.val (.ref a0), .val (.int (3 : Int32))] [(.ref a0)])) _
      refine XS.iconst X206.here hx rfl (hb hby own_d4_32) ?_
      show Steps p.tables e below (T206.setTop (mkF m 33 #[.val (.ref a0), .val (.int (3 : Int32))] [(.int (0 : Int32)), (.ref a0)])) _
      refine st207 _ ?_
      show Steps p.tables e below (T207.setTop (mkF m 36 #[.val (.ref a0), .val (.int (3 : Int32))] [])) _
      exact X207.returnOut hx Bd.returns (hb hby own_d4_36) hr
    · show own_Q4 Z a0 mm bb km kb nb g f (3 : Int32) 3 h0 n0 _ T207.heap _
      rw [e207]
      exact ⟨rfl, N215, K213, f208, f209, f210, f216, f211, f212⟩
theorem own_d5_0 : decode prog_120_method_4_code 0 = .ok (.aload_n 0, 1) := by decide +kernel
theorem own_d5_1 : decode prog_120_method_4_code 1 = .ok (.getfield 19, 3) := by decide +kernel
theorem own_d5_4 : decode prog_120_method_4_code 4 = .ok (.ireturn, 1) := by decide +kernel
theorem own_ef5 (m : MethodId) (a0 : Addr) : entryFrame m #[(.ref a0)] 1 = mkF m 0 #[.val (.ref a0)] [] := by first | (simp [entryFrame, mkF, argsToLocals, Value.category]; done) | rfl
def own_Q5 (Z : State) (a0 : Addr) (sz : Int32) (h0 : Heap) (n0 : Nat) (v : Option Value) (h : Heap) (L : List Loc) : Prop := v = some (.int sz) ∧ Fr n0 L ∧ h = h0
set_option maxRecDepth 65536 in
set_option maxHeartbeats 40000000 in
theorem own_rm5 (l : Launch) (Z : State) (av : Array Value) (hw : ∀ d ∈ tables_1, d.before av Z = true) (ws : List Jvm.Cond) (a0 : Addr) (sz : Int32) (h0 : Heap) (n0 : Nat) (Z0 : n0 ≤ h0.size) (pr0 : Fld Z h0 a0 "archetest/util/StateSet" "size" "I" (.int sz)) :
    MetFree l (⟨"archetest/util/StateSet", "size", "()I"⟩ : MethodName) (head1 (Jvm.Cond.code (⟨"archetest/util/StateSet", "size", "()I"⟩ : MethodName) prog_120_method_4_code 1 (some .int) :: ws) ({ frames := 0, cells := 0, slots := 0, locals := 0 } : Room)) (fun a U => a = #[(.ref a0)] ∧ Z.Warmed39 U.vm ∧ U.heap = h0) (fun _ _ _ _ _ => True) (fun _ U o U' => ∃ v L, o = .returned v ∧ own_Q5 Z a0 sz h0 n0 v U'.heap L ∧ FrameEnd U o U' L ({ frames := 0, cells := 0, slots := 0, locals := 0 } : Room).cells ({ frames := 0, cells := 0, slots := 0, locals := 0 } : Room).slots) := by
  refine MetFree.of_bodySF (plainFor_of_name own_pn17) hisR ?_
  intro p e s m args below meth c s₁ Bd hml0 hP hK
  obtain ⟨rfl, hZ, hh⟩ := hP
  have hx := Bd.exec
  have hby := Bd.bytes
  have hml : c.maxLocals = 1 := hml0
  have hown : s.vm.findClass "archetest/util/StateSet" = some m.cls := findClass_of_methodNamed Bd.named
  have hnm := (name_of_methodNamed Bd.named Bd.method).1
  have X0 : Stand p l e ({ frames := 0, cells := 0, slots := 0, locals := 0 } : Room) s m #[(.ref a0)] below meth c s₁ [] 0 0 := Stand.of_body Bd
  have e0 : s₁.heap = h0 := by rw [← hh, Bd.state]; rfl
  have N0 := Fr.nil n0
  have pre0 : ∀ t, Steps p.tables e below (s₁.setTop (mkF m 0 #[.val (.ref a0)] [])) t → Steps p.tables e below (s₁.setTop (entryFrame m #[(.ref a0)] 1)) t := fun t k => castTop (own_ef5 m a0) k
  obtain ⟨T217, X217, e217, st217⟩ := getF X0 hx hZ hown (host := "") (Or.inl (hw _ (List.mem_of_getElem? (i := 21) rfl))) Via.refl e0 pr0 (g := (mkF m 1 #[.val (.ref a0)] [(.ref a0)])) rfl rfl (hb hby own_d5_1)
  obtain ⟨fs, hr, hrun, hended, hW, hsame⟩ := X217.leave (v := some (.int sz)) (fun h => by rw [Bd.returns] at h; cases h)
  refine ⟨_, _, pre0 _ ?_, hrun, hended, _, _, rfl, ?_, ⟨_, rfl⟩, hW, hsame.mono (by decide) (by decide)⟩
  · show Steps p.tables e below (s₁.setTop (mkF m 0 #[.val (.ref a0)] [])) _
    refine XS.aloadN X0.here hx rfl (hb hby own_d5_0) rfl rfl ?_
    show Steps p.tables e below (s₁.setTop (mkF m 1 #[.val (.ref a0)] [(.ref a0)])) _
    refine st217 _ ?_
    show Steps p.tables e below (T217.setTop (mkF m 4 #[.val (.ref a0)] [(.int sz)])) _
    exact retI X217 hx Bd.returns (hb hby own_d5_4) hr
  · show own_Q5 Z a0 sz h0 n0 _ T217.heap _
    rw [e217]
    exact ⟨rfl, N0, rfl⟩
theorem own_d6_0 : decode prog_120_method_3_code 0 = .ok (.aload_n 0, 1) := by decide +kernel
theorem own_d6_1 : decode prog_120_method_3_code 1 = .ok (.getfield 15, 3) := by decide +kernel
theorem own_d6_4 : decode prog_120_method_3_code 4 = .ok (.iload_n 1, 1) := by decide +kernel
theorem own_d6_5 : decode prog_120_method_3_code 5 = .ok (.bipush 64, 2) := by decide +kernel
theorem own_d6_7 : decode prog_120_method_3_code 7 = .ok (.idiv, 1) := by decide +kernel
theorem own_d6_8 : decode prog_120_method_3_code 8 = .ok (.laload, 1) := by decide +kernel
theorem own_d6_9 : decode prog_120_method_3_code 9 = .ok (.lconst 1, 1) := by decide +kernel
theorem own_d6_10 : decode prog_120_method_3_code 10 = .ok (.iload_n 1, 1) := by decide +kernel
theorem own_d6_11 : decode prog_120_method_3_code 11 = .ok (.lshl, 1) := by decide +kernel
theorem own_d6_12 : decode prog_120_method_3_code 12 = .ok (.land, 1) := by decide +kernel
theorem own_d6_13 : decode prog_120_method_3_code 13 = .ok (.lconst 0, 1) := by decide +kernel
theorem own_d6_14 : decode prog_120_method_3_code 14 = .ok (.lcmp, 1) := by decide +kernel
theorem own_d6_15 : decode prog_120_method_3_code 15 = .ok (.ifCond .eq 7, 3) := by decide +kernel
theorem own_d6_22 : decode prog_120_method_3_code 22 = .ok (.iconst 0, 1) := by decide +kernel
theorem own_d6_23 : decode prog_120_method_3_code 23 = .ok (.ireturn, 1) := by decide +kernel
theorem own_d6_18 : decode prog_120_method_3_code 18 = .ok (.iconst 1, 1) := by decide +kernel
theorem own_d6_19 : decode prog_120_method_3_code 19 = .ok (.goto 4, 3) := by decide +kernel
theorem own_ef6 (m : MethodId) (a0 : Addr) (p1 : Int32) : entryFrame m #[(.ref a0), (.int p1)] 2 = mkF m 0 #[.val (.ref a0), .val (.int p1)] [] := by first | (simp [entryFrame, mkF, argsToLocals, Value.category]; done) | rfl
def own_Q6 (Z : State) (a0 : Addr) (p1 : Int32) (bb : Addr) (kb : ClassId) (nb : Int32) (g : Nat → Int64) (h0 : Heap) (n0 : Nat) (v : Option Value) (h : Heap) (L : List Loc) : Prop := v = some (.int (own_ct g p1)) ∧ Fr n0 L ∧ h = h0
set_option maxRecDepth 65536 in
set_option maxHeartbeats 40000000 in
theorem own_rm6 (l : Launch) (Z : State) (av : Array Value) (hw : ∀ d ∈ tables_1, d.before av Z = true) (ws : List Jvm.Cond) (a0 : Addr) (p1 : Int32) (bb : Addr) (kb : ClassId) (nb : Int32) (g : Nat → Int64) (h0 : Heap) (n0 : Nat) (Z0 : n0 ≤ h0.size) (pr0 : Fld Z h0 a0 "archetest/util/StateSet" "bits" "[J" (.ref bb)) (pr1 : Arv Z h0 bb kb .long nb (own_L g) (.long (0 : Int64))) (hp : own_In nb p1) (h4 : ¬ ((4 : Int32) < nb)) :
    MetFree l (⟨"archetest/util/StateSet", "contains", "(I)Z"⟩ : MethodName) (head1 (Jvm.Cond.code (⟨"archetest/util/StateSet", "contains", "(I)Z"⟩ : MethodName) prog_120_method_3_code 2 (some .boolean) :: ws) ({ frames := 0, cells := 0, slots := 0, locals := 0 } : Room)) (fun a U => a = #[(.ref a0), (.int p1)] ∧ Z.Warmed39 U.vm ∧ U.heap = h0) (fun _ _ _ _ _ => True) (fun _ U o U' => ∃ v L, o = .returned v ∧ own_Q6 Z a0 p1 bb kb nb g h0 n0 v U'.heap L ∧ FrameEnd U o U' L ({ frames := 0, cells := 0, slots := 0, locals := 0 } : Room).cells ({ frames := 0, cells := 0, slots := 0, locals := 0 } : Room).slots) := by
  refine MetFree.of_bodySF (plainFor_of_name own_pn17) hisR ?_
  intro p e s m args below meth c s₁ Bd hml0 hP hK
  obtain ⟨rfl, hZ, hh⟩ := hP
  have hx := Bd.exec
  have hby := Bd.bytes
  have hml : c.maxLocals = 2 := hml0
  have hown : s.vm.findClass "archetest/util/StateSet" = some m.cls := findClass_of_methodNamed Bd.named
  have hnm := (name_of_methodNamed Bd.named Bd.method).1
  have X0 : Stand p l e ({ frames := 0, cells := 0, slots := 0, locals := 0 } : Room) s m #[(.ref a0), (.int p1)] below meth c s₁ [] 0 0 := Stand.of_body Bd
  have e0 : s₁.heap = h0 := by rw [← hh, Bd.state]; rfl
  have N0 := Fr.nil n0
  have pre0 : ∀ t, Steps p.tables e below (s₁.setTop (mkF m 0 #[.val (.ref a0), .val (.int p1)] [])) t → Steps p.tables e below (s₁.setTop (entryFrame m #[(.ref a0), (.int p1)] 2)) t := fun t k => castTop (own_ef6 m a0 p1) k
  obtain ⟨T218, X218, e218, st218⟩ := getF X0 hx hZ hown (host := "") (Or.inl (hw _ (List.mem_of_getElem? (i := 14) rfl))) Via.refl e0 pr0 (g := (mkF m 1 #[.val (.ref a0), .val (.int p1)] [(.ref a0)])) rfl rfl (hb hby own_d6_1)
  obtain ⟨cl219, Ar219, q219, S219, M219, H219, G219⟩ := id pr1
  have hin219 : ¬ ((p1 / (64 : Int32)) < 0 ∨ cl219.slots.size ≤ ((p1 / (64 : Int32))).toNatClampNeg) := inb_of S219 hp
  have hat219 : cl219.slots[((p1 / (64 : Int32))).toNatClampNeg]? = some (.long (g (own_w p1))) := H219.at hin219 (own_Lget g (own_w p1) (own_In4 hp h4))
  have pre220 : ∀ t, Steps p.tables e below (T218.setTop (mkF m 15 #[.val (.ref a0), .val (.int p1)] [(.int (lcmpW ((g (own_w p1)) &&& ((1 : Int64) <<< (p1 &&& 0x3f).toInt64)) (0 : Int64)))])) t → Steps p.tables e below (s₁.setTop (entryFrame m #[(.ref a0), (.int p1)] 2)) t := fun t kk => pre0 t (by
    show Steps p.tables e below (s₁.setTop (mkF m 0 #[.val (.ref a0), .val (.int p1)] [])) _
    refine XS.aloadN X0.here hx rfl (hb hby own_d6_0) rfl rfl ?_
    show Steps p.tables e below (s₁.setTop (mkF m 1 #[.val (.ref a0), .val (.int p1)] [(.ref a0)])) _
    refine st218 _ ?_
    show Steps p.tables e below (T218.setTop (mkF m 4 #[.val (.ref a0), .val (.int p1)] [(.ref bb)])) _
    refine XS.iloadN X218.here hx rfl (hb hby own_d6_4) rfl ?_
    show Steps p.tables e below (T218.setTop (mkF m 5 #[.val (.ref a0), .val (.int p1)] [(.int p1), (.ref bb)])) _
    refine XS.bipush X218.here hx rfl (hb hby own_d6_5) ?_
    show Steps p.tables e below (T218.setTop (mkF m 7 #[.val (.ref a0), .val (.int p1)] [(.int (64 : Int32)), (.int p1), (.ref bb)])) _
    refine XS.idiv X218.here hx rfl (hb hby own_d6_7) rfl (by decide) ?_
    show Steps p.tables e below (T218.setTop (mkF m 8 #[.val (.ref a0), .val (.int p1)] [(.int (p1 / (64 : Int32))), (.ref bb)])) _
    refine X218.laload hx (j := (p1 / (64 : Int32))) (v := (.long (g (own_w p1)))) (by rw [e218]; exact Ar219.1) (State.isArrayOf_alike hZ.alike Ar219.2.1) Ar219.2.2 hin219 hat219 (g := (mkF m 8 #[.val (.ref a0), .val (.int p1)] [(.int (p1 / (64 : Int32))), (.ref bb)])) rfl rfl (hb hby own_d6_8) _ ?_
    show Steps p.tables e below (T218.setTop (mkF m 9 #[.val (.ref a0), .val (.int p1)] [(.long (g (own_w p1)))])) _
    refine XS.lconst X218.here hx rfl (hb hby own_d6_9) ?_
    show Steps p.tables e below (T218.setTop (mkF m 10 #[.val (.ref a0), .val (.int p1)] [(.long (1 : Int64)), (.long (g (own_w p1)))])) _
    refine XS.iloadN X218.here hx rfl (hb hby own_d6_10) rfl ?_
    show Steps p.tables e below (T218.setTop (mkF m 11 #[.val (.ref a0), .val (.int p1)] [(.int p1), (.long (1 : Int64)), (.long (g (own_w p1)))])) _
    refine XS.lshl X218.here hx rfl (hb hby own_d6_11) rfl ?_
    show Steps p.tables e below (T218.setTop (mkF m 12 #[.val (.ref a0), .val (.int p1)] [(.long ((1 : Int64) <<< (p1 &&& 0x3f).toInt64)), (.long (g (own_w p1)))])) _
    refine XS.land X218.here hx rfl (hb hby own_d6_12) rfl ?_
    show Steps p.tables e below (T218.setTop (mkF m 13 #[.val (.ref a0), .val (.int p1)] [(.long ((g (own_w p1)) &&& ((1 : Int64) <<< (p1 &&& 0x3f).toInt64)))])) _
    refine XS.lconst X218.here hx rfl (hb hby own_d6_13) ?_
    show Steps p.tables e below (T218.setTop (mkF m 14 #[.val (.ref a0), .val (.int p1)] [(.long (0 : Int64)), (.long ((g (own_w p1)) &&& ((1 : Int64) <<< (p1 &&& 0x3f).toInt64)))])) _
    refine XS.lcmp X218.here hx rfl (hb hby own_d6_14) rfl ?_
    show Steps p.tables e below (T218.setTop (mkF m 15 #[.val (.ref a0), .val (.int p1)] [(.int (lcmpW ((g (own_w p1)) &&& ((1 : Int64) <<< (p1 &&& 0x3f).toInt64)) (0 : Int64)))])) _
    exact kk)
  by_cases hc221 : ((g (own_w p1)) &&& ((1 : Int64) <<< (p1 &&& 0x3f).toInt64)) = (0 : Int64)
  · obtain ⟨fs, hr, hrun, hended, hW, hsame⟩ := X218.leave (v := some (.int (0 : Int32))) (fun h => by rw [Bd.returns] at h; cases h)
    refine ⟨_, _, pre220 _ ?_, hrun, hended, _, _, rfl, ?_, ⟨_, rfl⟩, hW, hsame.mono (by decide) (by decide)⟩
    · show Steps p.tables e below (T218.setTop (mkF m 15 #[.val (.ref a0), .val (.int p1)] [(.int (lcmpW ((g (own_w p1)) &&& ((1 : Int64) <<< (p1 &&& 0x3f).toInt64)) (0 : Int64)))])) _
      refine XS.ifYes X218.here hx rfl (pc0 := 15) (pc' := 22) rfl (hb hby own_d6_15) rfl ((if0 _ _).trans (teq ((lw_eq ((g (own_w p1)) &&& ((1 : Int64) <<< (p1 &&& 0x3f).toInt64)) (0 : Int64)).mpr hc221)).1) (by decide) (by decide) ?_
      show Steps p.tables e below (T218.setTop (mkF m 22 #[.val (.ref a0), .val (.int p1)] [])) _
      refine XS.iconst X218.here hx rfl (hb hby own_d6_22) ?_
      show Steps p.tables e below (T218.setTop (mkF m 23 #[.val (.ref a0), .val (.int p1)] [(.int (0 : Int32))])) _
      exact retN X218 hx (t := .boolean) Bd.returns (by simp) (hb hby own_d6_23) hr
    · show own_Q6 Z a0 p1 bb kb nb g h0 n0 _ T218.heap _
      rw [e218]
      exact ⟨(congrArg (fun z => some (Value.int z)) (if_pos hc221).symm), N0, rfl⟩
  · obtain ⟨fs, hr, hrun, hended, hW, hsame⟩ := X218.leave (v := some (.int (1 : Int32))) (fun h => by rw [Bd.returns] at h; cases h)
    refine ⟨_, _, pre220 _ ?_, hrun, hended, _, _, rfl, ?_, ⟨_, rfl⟩, hW, hsame.mono (by decide) (by decide)⟩
    · show Steps p.tables e below (T218.setTop (mkF m 15 #[.val (.ref a0), .val (.int p1)] [(.int (lcmpW ((g (own_w p1)) &&& ((1 : Int64) <<< (p1 &&& 0x3f).toInt64)) (0 : Int64)))])) _
      refine XS.ifNo X218.here hx rfl (hb hby own_d6_15) rfl ((if0 _ _).trans (feq (mt (lw_eq ((g (own_w p1)) &&& ((1 : Int64) <<< (p1 &&& 0x3f).toInt64)) (0 : Int64)).mp hc221)).1) ?_
      show Steps p.tables e below (T218.setTop (mkF m 18 #[.val (.ref a0), .val (.int p1)] [])) _
      refine XS.iconst X218.here hx rfl (hb hby own_d6_18) ?_
      show Steps p.tables e below (T218.setTop (mkF m 19 #[.val (.ref a0), .val (.int p1)] [(.int (1 : Int32))])) _
      refine XS.goto X218.here hx rfl (pc0 := 19) (pc' := 23) rfl (hb hby own_d6_19) (by decide) (by decide) ?_
      show Steps p.tables e below (T218.setTop (mkF m 23 #[.val (.ref a0), .val (.int p1)] [(.int (1 : Int32))])) _
      exact retN X218 hx (t := .boolean) Bd.returns (by simp) (hb hby own_d6_23) hr
    · show own_Q6 Z a0 p1 bb kb nb g h0 n0 _ T218.heap _
      rw [e218]
      exact ⟨(congrArg (fun z => some (Value.int z)) (if_neg hc221).symm), N0, rfl⟩
theorem own_d7_0 : decode prog_120_method_5_code 0 = .ok (.aload_n 0, 1) := by decide +kernel
theorem own_d7_1 : decode prog_120_method_5_code 1 = .ok (.getfield 7, 3) := by decide +kernel
theorem own_d7_4 : decode prog_120_method_5_code 4 = .ok (.iload_n 1, 1) := by decide +kernel
theorem own_d7_5 : decode prog_120_method_5_code 5 = .ok (.iaload, 1) := by decide +kernel
theorem own_d7_6 : decode prog_120_method_5_code 6 = .ok (.ireturn, 1) := by decide +kernel
theorem own_ef7 (m : MethodId) (a0 : Addr) (p1 : Int32) : entryFrame m #[(.ref a0), (.int p1)] 2 = mkF m 0 #[.val (.ref a0), .val (.int p1)] [] := by first | (simp [entryFrame, mkF, argsToLocals, Value.category]; done) | rfl
def own_Q7 (Z : State) (a0 : Addr) (p1 : Int32) (mm : Addr) (km : ClassId) (f : Nat → Int32) (h0 : Heap) (n0 : Nat) (v : Option Value) (h : Heap) (L : List Loc) : Prop := v = some (.int (f 0)) ∧ Fr n0 L ∧ h = h0
set_option maxRecDepth 65536 in
set_option maxHeartbeats 40000000 in
theorem own_rm7 (l : Launch) (Z : State) (av : Array Value) (hw : ∀ d ∈ tables_1, d.before av Z = true) (ws : List Jvm.Cond) (a0 : Addr) (p1 : Int32) (mm : Addr) (km : ClassId) (f : Nat → Int32) (h0 : Heap) (n0 : Nat) (Z0 : n0 ≤ h0.size) (pr0 : Fld Z h0 a0 "archetest/util/StateSet" "members" "[I" (.ref mm)) (pr1 : Arv Z h0 mm km .int (8 : Int32) (own_M f) (.int (0 : Int32))) (hp : p1 = (0 : Int32)) :
    MetFree l (⟨"archetest/util/StateSet", "get", "(I)I"⟩ : MethodName) (head1 (Jvm.Cond.code (⟨"archetest/util/StateSet", "get", "(I)I"⟩ : MethodName) prog_120_method_5_code 2 (some .int) :: ws) ({ frames := 0, cells := 0, slots := 0, locals := 0 } : Room)) (fun a U => a = #[(.ref a0), (.int p1)] ∧ Z.Warmed39 U.vm ∧ U.heap = h0) (fun _ _ _ _ _ => True) (fun _ U o U' => ∃ v L, o = .returned v ∧ own_Q7 Z a0 p1 mm km f h0 n0 v U'.heap L ∧ FrameEnd U o U' L ({ frames := 0, cells := 0, slots := 0, locals := 0 } : Room).cells ({ frames := 0, cells := 0, slots := 0, locals := 0 } : Room).slots) := by
  refine MetFree.of_bodySF (plainFor_of_name own_pn17) hisR ?_
  intro p e s m args below meth c s₁ Bd hml0 hP hK
  obtain ⟨rfl, hZ, hh⟩ := hP
  have hx := Bd.exec
  have hby := Bd.bytes
  have hml : c.maxLocals = 2 := hml0
  have hown : s.vm.findClass "archetest/util/StateSet" = some m.cls := findClass_of_methodNamed Bd.named
  have hnm := (name_of_methodNamed Bd.named Bd.method).1
  have X0 : Stand p l e ({ frames := 0, cells := 0, slots := 0, locals := 0 } : Room) s m #[(.ref a0), (.int p1)] below meth c s₁ [] 0 0 := Stand.of_body Bd
  have e0 : s₁.heap = h0 := by rw [← hh, Bd.state]; rfl
  have N0 := Fr.nil n0
  have pre0 : ∀ t, Steps p.tables e below (s₁.setTop (mkF m 0 #[.val (.ref a0), .val (.int p1)] [])) t → Steps p.tables e below (s₁.setTop (entryFrame m #[(.ref a0), (.int p1)] 2)) t := fun t k => castTop (own_ef7 m a0 p1) k
  obtain ⟨T222, X222, e222, st222⟩ := getF X0 hx hZ hown (host := "") (Or.inl (hw _ (List.mem_of_getElem? (i := 11) rfl))) Via.refl e0 pr0 (g := (mkF m 1 #[.val (.ref a0), .val (.int p1)] [(.ref a0)])) rfl rfl (hb hby own_d7_1)
  obtain ⟨cl223, Ar223, q223, S223, M223, H223, G223⟩ := id pr1
  have hin223 : ¬ (p1 < 0 ∨ cl223.slots.size ≤ (p1).toNatClampNeg) := inb_of S223 ⟨by rw [hp]; decide, by rw [hp]; decide⟩
  have hat223 : cl223.slots[(p1).toNatClampNeg]? = some (.int (f 0)) := H223.at hin223 (by rw [hp]; rfl)
  obtain ⟨fs, hr, hrun, hended, hW, hsame⟩ := X222.leave (v := some (.int (f 0))) (fun h => by rw [Bd.returns] at h; cases h)
  refine ⟨_, _, pre0 _ ?_, hrun, hended, _, _, rfl, ?_, ⟨_, rfl⟩, hW, hsame.mono (by decide) (by decide)⟩
  · show Steps p.tables e below (s₁.setTop (mkF m 0 #[.val (.ref a0), .val (.int p1)] [])) _
    refine XS.aloadN X0.here hx rfl (hb hby own_d7_0) rfl rfl ?_
    show Steps p.tables e below (s₁.setTop (mkF m 1 #[.val (.ref a0), .val (.int p1)] [(.ref a0)])) _
    refine st222 _ ?_
    show Steps p.tables e below (T222.setTop (mkF m 4 #[.val (.ref a0), .val (.int p1)] [(.ref mm)])) _
    refine XS.iloadN X222.here hx rfl (hb hby own_d7_4) rfl ?_
    show Steps p.tables e below (T222.setTop (mkF m 5 #[.val (.ref a0), .val (.int p1)] [(.int p1), (.ref mm)])) _
    refine X222.iaload hx (j := p1) (v := (.int (f 0))) (by rw [e222]; exact Ar223.1) (State.isArrayOf_alike hZ.alike Ar223.2.1) Ar223.2.2 hin223 hat223 (g := (mkF m 5 #[.val (.ref a0), .val (.int p1)] [(.int p1), (.ref mm)])) rfl rfl (hb hby own_d7_5) _ ?_
    show Steps p.tables e below (T222.setTop (mkF m 6 #[.val (.ref a0), .val (.int p1)] [(.int (f 0))])) _
    exact retI X222 hx Bd.returns (hb hby own_d7_6) hr
  · show own_Q7 Z a0 p1 mm km f h0 n0 _ T222.heap _
    rw [e222]
    exact ⟨rfl, N0, rfl⟩
theorem own_pd0 : parseMethodDescriptor "(I)V" = some ⟨[.int], none⟩ := by decide +kernel
theorem own_pd1 : parseMethodDescriptor "()V" = some ⟨[], none⟩ := by decide +kernel
theorem own_pd2 : parseMethodDescriptor "()I" = some ⟨[], some .int⟩ := by decide +kernel
theorem own_pd3 : parseMethodDescriptor "(I)Z" = some ⟨[.int], some .boolean⟩ := by decide +kernel
theorem own_pd4 : parseMethodDescriptor "(I)I" = some ⟨[.int], some .int⟩ := by decide +kernel
set_option maxRecDepth 65536 in
set_option maxHeartbeats 40000000 in
theorem own_side225 (p0 : Int32) (v224 : Int32) (hv224 : v224 = ((1 : Int32) + (p0 &&& (255 : Int32)))) : ¬ (v224 = (0 : Int32)) := by
  generalize hex1 : (p0 &&& (255 : Int32)) = ex1 at *
  generalize hex2 : ((1 : Int32) + ex1) = ex2 at *
  try simp only [Int32.reduceAdd, Int32.reduceSub, Int32.reduceMul, Int64.reduceAdd, Int64.reduceSub, Int64.reduceMul, Int32.lt_iff_toInt_lt, Int64.lt_iff_toInt_lt, ← Int32.toInt_inj, ← Int64.toInt_inj, Int32.reduceToInt, Int64.reduceToInt, not_true_eq_false, not_false_eq_true, false_and, and_false, true_and, and_true, false_or, or_false, true_or, or_true] at hv224
  try simp only [Int32.reduceAdd, Int32.reduceSub, Int32.reduceMul, Int64.reduceAdd, Int64.reduceSub, Int64.reduceMul, Int32.lt_iff_toInt_lt, Int64.lt_iff_toInt_lt, ← Int32.toInt_inj, ← Int64.toInt_inj, Int32.reduceToInt, Int64.reduceToInt, not_true_eq_false, not_false_eq_true, false_and, and_false, true_and, and_true, false_or, or_false, true_or, or_true]
  have := Int32.le_toInt p0; have := Int32.toInt_lt p0
  have := Int32.le_toInt v224; have := Int32.toInt_lt v224
  have bl1 := Int32.le_toInt ex1; have bu1 := Int32.toInt_lt ex1
  have fa1 := c_mask p0 (255 : Int32) 8 (by decide) (by decide); rw [hex1] at fa1; try simp only [Int32.reduceAdd, Int32.reduceSub, Int32.reduceToInt, Int64.reduceToInt] at fa1
  clear hex1
  have bl2 := Int32.le_toInt ex2; have bu2 := Int32.toInt_lt ex2
  have fa2 := c_iadd (1 : Int32) ex1; rw [hex2] at fa2; try simp only [Int32.reduceAdd, Int32.reduceSub, Int32.reduceToInt, Int64.reduceToInt] at fa2
  clear hex2
  all_goals omega
set_option maxRecDepth 65536 in
set_option maxHeartbeats 40000000 in
theorem own_side227 (p0 : Int32) (v224 : Int32) (hv224 : v224 = ((1 : Int32) + (p0 &&& (255 : Int32)))) : ¬ (v224 = (0 : Int32)) := by
  generalize hex1 : (p0 &&& (255 : Int32)) = ex1 at *
  generalize hex2 : ((1 : Int32) + ex1) = ex2 at *
  try simp only [Int32.reduceAdd, Int32.reduceSub, Int32.reduceMul, Int64.reduceAdd, Int64.reduceSub, Int64.reduceMul, Int32.lt_iff_toInt_lt, Int64.lt_iff_toInt_lt, ← Int32.toInt_inj, ← Int64.toInt_inj, Int32.reduceToInt, Int64.reduceToInt, not_true_eq_false, not_false_eq_true, false_and, and_false, true_and, and_true, false_or, or_false, true_or, or_true] at hv224
  try simp only [Int32.reduceAdd, Int32.reduceSub, Int32.reduceMul, Int64.reduceAdd, Int64.reduceSub, Int64.reduceMul, Int32.lt_iff_toInt_lt, Int64.lt_iff_toInt_lt, ← Int32.toInt_inj, ← Int64.toInt_inj, Int32.reduceToInt, Int64.reduceToInt, not_true_eq_false, not_false_eq_true, false_and, and_false, true_and, and_true, false_or, or_false, true_or, or_true]
  have := Int32.le_toInt p0; have := Int32.toInt_lt p0
  have := Int32.le_toInt v224; have := Int32.toInt_lt v224
  have bl1 := Int32.le_toInt ex1; have bu1 := Int32.toInt_lt ex1
  have fa1 := c_mask p0 (255 : Int32) 8 (by decide) (by decide); rw [hex1] at fa1; try simp only [Int32.reduceAdd, Int32.reduceSub, Int32.reduceToInt, Int64.reduceToInt] at fa1
  clear hex1
  have bl2 := Int32.le_toInt ex2; have bu2 := Int32.toInt_lt ex2
  have fa2 := c_iadd (1 : Int32) ex1; rw [hex2] at fa2; try simp only [Int32.reduceAdd, Int32.reduceSub, Int32.reduceToInt, Int64.reduceToInt] at fa2
  clear hex2
  all_goals omega
set_option maxRecDepth 65536 in
set_option maxHeartbeats 40000000 in
theorem own_side229 (p0 : Int32) (v224 : Int32) (hv224 : v224 = ((1 : Int32) + (p0 &&& (255 : Int32)))) : ¬ (v224 = (0 : Int32)) := by
  generalize hex1 : (p0 &&& (255 : Int32)) = ex1 at *
  generalize hex2 : ((1 : Int32) + ex1) = ex2 at *
  try simp only [Int32.reduceAdd, Int32.reduceSub, Int32.reduceMul, Int64.reduceAdd, Int64.reduceSub, Int64.reduceMul, Int32.lt_iff_toInt_lt, Int64.lt_iff_toInt_lt, ← Int32.toInt_inj, ← Int64.toInt_inj, Int32.reduceToInt, Int64.reduceToInt, not_true_eq_false, not_false_eq_true, false_and, and_false, true_and, and_true, false_or, or_false, true_or, or_true] at hv224
  try simp only [Int32.reduceAdd, Int32.reduceSub, Int32.reduceMul, Int64.reduceAdd, Int64.reduceSub, Int64.reduceMul, Int32.lt_iff_toInt_lt, Int64.lt_iff_toInt_lt, ← Int32.toInt_inj, ← Int64.toInt_inj, Int32.reduceToInt, Int64.reduceToInt, not_true_eq_false, not_false_eq_true, false_and, and_false, true_and, and_true, false_or, or_false, true_or, or_true]
  have := Int32.le_toInt p0; have := Int32.toInt_lt p0
  have := Int32.le_toInt v224; have := Int32.toInt_lt v224
  have bl1 := Int32.le_toInt ex1; have bu1 := Int32.toInt_lt ex1
  have fa1 := c_mask p0 (255 : Int32) 8 (by decide) (by decide); rw [hex1] at fa1; try simp only [Int32.reduceAdd, Int32.reduceSub, Int32.reduceToInt, Int64.reduceToInt] at fa1
  clear hex1
  have bl2 := Int32.le_toInt ex2; have bu2 := Int32.toInt_lt ex2
  have fa2 := c_iadd (1 : Int32) ex1; rw [hex2] at fa2; try simp only [Int32.reduceAdd, Int32.reduceSub, Int32.reduceToInt, Int64.reduceToInt] at fa2
  clear hex2
  all_goals omega
set_option maxRecDepth 65536 in
set_option maxHeartbeats 40000000 in
theorem own_side231 (p0 : Int32) (v224 : Int32) (hv224 : v224 = ((1 : Int32) + (p0 &&& (255 : Int32)))) : ¬ (v224 = (0 : Int32)) := by
  generalize hex1 : (p0 &&& (255 : Int32)) = ex1 at *
  generalize hex2 : ((1 : Int32) + ex1) = ex2 at *
  try simp only [Int32.reduceAdd, Int32.reduceSub, Int32.reduceMul, Int64.reduceAdd, Int64.reduceSub, Int64.reduceMul, Int32.lt_iff_toInt_lt, Int64.lt_iff_toInt_lt, ← Int32.toInt_inj, ← Int64.toInt_inj, Int32.reduceToInt, Int64.reduceToInt, not_true_eq_false, not_false_eq_true, false_and, and_false, true_and, and_true, false_or, or_false, true_or, or_true] at hv224
  try simp only [Int32.reduceAdd, Int32.reduceSub, Int32.reduceMul, Int64.reduceAdd, Int64.reduceSub, Int64.reduceMul, Int32.lt_iff_toInt_lt, Int64.lt_iff_toInt_lt, ← Int32.toInt_inj, ← Int64.toInt_inj, Int32.reduceToInt, Int64.reduceToInt, not_true_eq_false, not_false_eq_true, false_and, and_false, true_and, and_true, false_or, or_false, true_or, or_true]
  have := Int32.le_toInt p0; have := Int32.toInt_lt p0
  have := Int32.le_toInt v224; have := Int32.toInt_lt v224
  have bl1 := Int32.le_toInt ex1; have bu1 := Int32.toInt_lt ex1
  have fa1 := c_mask p0 (255 : Int32) 8 (by decide) (by decide); rw [hex1] at fa1; try simp only [Int32.reduceAdd, Int32.reduceSub, Int32.reduceToInt, Int64.reduceToInt] at fa1
  clear hex1
  have bl2 := Int32.le_toInt ex2; have bu2 := Int32.toInt_lt ex2
  have fa2 := c_iadd (1 : Int32) ex1; rw [hex2] at fa2; try simp only [Int32.reduceAdd, Int32.reduceSub, Int32.reduceToInt, Int64.reduceToInt] at fa2
  clear hex2
  all_goals omega
set_option maxRecDepth 65536 in
set_option maxHeartbeats 40000000 in
theorem own_side241 (p0 : Int32) (v224 : Int32) (hv224 : v224 = ((1 : Int32) + (p0 &&& (255 : Int32)))) : ¬ (v224 < (1 : Int32)) := by
  generalize hex1 : (p0 &&& (255 : Int32)) = ex1 at *
  generalize hex2 : ((1 : Int32) + ex1) = ex2 at *
  try simp only [Int32.reduceAdd, Int32.reduceSub, Int32.reduceMul, Int64.reduceAdd, Int64.reduceSub, Int64.reduceMul, Int32.lt_iff_toInt_lt, Int64.lt_iff_toInt_lt, ← Int32.toInt_inj, ← Int64.toInt_inj, Int32.reduceToInt, Int64.reduceToInt, not_true_eq_false, not_false_eq_true, false_and, and_false, true_and, and_true, false_or, or_false, true_or, or_true] at hv224
  try simp only [Int32.reduceAdd, Int32.reduceSub, Int32.reduceMul, Int64.reduceAdd, Int64.reduceSub, Int64.reduceMul, Int32.lt_iff_toInt_lt, Int64.lt_iff_toInt_lt, ← Int32.toInt_inj, ← Int64.toInt_inj, Int32.reduceToInt, Int64.reduceToInt, not_true_eq_false, not_false_eq_true, false_and, and_false, true_and, and_true, false_or, or_false, true_or, or_true]
  have := Int32.le_toInt p0; have := Int32.toInt_lt p0
  have := Int32.le_toInt v224; have := Int32.toInt_lt v224
  have bl1 := Int32.le_toInt ex1; have bu1 := Int32.toInt_lt ex1
  have fa1 := c_mask p0 (255 : Int32) 8 (by decide) (by decide); rw [hex1] at fa1; try simp only [Int32.reduceAdd, Int32.reduceSub, Int32.reduceToInt, Int64.reduceToInt] at fa1
  clear hex1
  have bl2 := Int32.le_toInt ex2; have bu2 := Int32.toInt_lt ex2
  have fa2 := c_iadd (1 : Int32) ex1; rw [hex2] at fa2; try simp only [Int32.reduceAdd, Int32.reduceSub, Int32.reduceToInt, Int64.reduceToInt] at fa2
  clear hex2
  all_goals omega
set_option maxRecDepth 65536 in
set_option maxHeartbeats 40000000 in
theorem own_side242 (p0 : Int32) (v224 : Int32) (hv224 : v224 = ((1 : Int32) + (p0 &&& (255 : Int32)))) : ¬ ((256 : Int32) < v224) := by
  generalize hex1 : (p0 &&& (255 : Int32)) = ex1 at *
  generalize hex2 : ((1 : Int32) + ex1) = ex2 at *
  try simp only [Int32.reduceAdd, Int32.reduceSub, Int32.reduceMul, Int64.reduceAdd, Int64.reduceSub, Int64.reduceMul, Int32.lt_iff_toInt_lt, Int64.lt_iff_toInt_lt, ← Int32.toInt_inj, ← Int64.toInt_inj, Int32.reduceToInt, Int64.reduceToInt, not_true_eq_false, not_false_eq_true, false_and, and_false, true_and, and_true, false_or, or_false, true_or, or_true] at hv224
  try simp only [Int32.reduceAdd, Int32.reduceSub, Int32.reduceMul, Int64.reduceAdd, Int64.reduceSub, Int64.reduceMul, Int32.lt_iff_toInt_lt, Int64.lt_iff_toInt_lt, ← Int32.toInt_inj, ← Int64.toInt_inj, Int32.reduceToInt, Int64.reduceToInt, not_true_eq_false, not_false_eq_true, false_and, and_false, true_and, and_true, false_or, or_false, true_or, or_true]
  have := Int32.le_toInt p0; have := Int32.toInt_lt p0
  have := Int32.le_toInt v224; have := Int32.toInt_lt v224
  have bl1 := Int32.le_toInt ex1; have bu1 := Int32.toInt_lt ex1
  have fa1 := c_mask p0 (255 : Int32) 8 (by decide) (by decide); rw [hex1] at fa1; try simp only [Int32.reduceAdd, Int32.reduceSub, Int32.reduceToInt, Int64.reduceToInt] at fa1
  clear hex1
  have bl2 := Int32.le_toInt ex2; have bu2 := Int32.toInt_lt ex2
  have fa2 := c_iadd (1 : Int32) ex1; rw [hex2] at fa2; try simp only [Int32.reduceAdd, Int32.reduceSub, Int32.reduceToInt, Int64.reduceToInt] at fa2
  clear hex2
  all_goals omega
set_option maxRecDepth 65536 in
set_option maxHeartbeats 40000000 in
theorem own_side259 (p1 : Int32) (v233 : Int32) (hv233 : v233 = (p1 &&& (3 : Int32))) (hq248 : mm243 ≠ bb244) (hc258 : v233 < (1 : Int32)) : v233 < (2 : Int32) := by
  generalize hex1 : (p1 &&& (3 : Int32)) = ex1 at *
  try simp only [Int32.reduceAdd, Int32.reduceSub, Int32.reduceMul, Int64.reduceAdd, Int64.reduceSub, Int64.reduceMul, Int32.lt_iff_toInt_lt, Int64.lt_iff_toInt_lt, ← Int32.toInt_inj, ← Int64.toInt_inj, Int32.reduceToInt, Int64.reduceToInt, not_true_eq_false, not_false_eq_true, false_and, and_false, true_and, and_true, false_or, or_false, true_or, or_true] at hv233
  try simp only [Int32.reduceAdd, Int32.reduceSub, Int32.reduceMul, Int64.reduceAdd, Int64.reduceSub, Int64.reduceMul, Int32.lt_iff_toInt_lt, Int64.lt_iff_toInt_lt, ← Int32.toInt_inj, ← Int64.toInt_inj, Int32.reduceToInt, Int64.reduceToInt, not_true_eq_false, not_false_eq_true, false_and, and_false, true_and, and_true, false_or, or_false, true_or, or_true] at hq248
  try simp only [Int32.reduceAdd, Int32.reduceSub, Int32.reduceMul, Int64.reduceAdd, Int64.reduceSub, Int64.reduceMul, Int32.lt_iff_toInt_lt, Int64.lt_iff_toInt_lt, ← Int32.toInt_inj, ← Int64.toInt_inj, Int32.reduceToInt, Int64.reduceToInt, not_true_eq_false, not_false_eq_true, false_and, and_false, true_and, and_true, false_or, or_false, true_or, or_true] at hc258
  try simp only [Int32.reduceAdd, Int32.reduceSub, Int32.reduceMul, Int64.reduceAdd, Int64.reduceSub, Int64.reduceMul, Int32.lt_iff_toInt_lt, Int64.lt_iff_toInt_lt, ← Int32.toInt_inj, ← Int64.toInt_inj, Int32.reduceToInt, Int64.reduceToInt, not_true_eq_false, not_false_eq_true, false_and, and_false, true_and, and_true, false_or, or_false, true_or, or_true]
  have := Int32.le_toInt p1; have := Int32.toInt_lt p1
  have := Int32.le_toInt v233; have := Int32.toInt_lt v233
  have bl1 := Int32.le_toInt ex1; have bu1 := Int32.toInt_lt ex1
  have fa1 := c_mask p1 (3 : Int32) 2 (by decide) (by decide); rw [hex1] at fa1; try simp only [Int32.reduceAdd, Int32.reduceSub, Int32.reduceToInt, Int64.reduceToInt] at fa1
  clear hex1
  all_goals omega
set_option maxRecDepth 65536 in
set_option maxHeartbeats 40000000 in
theorem own_side260 (p1 : Int32) (v233 : Int32) (hv233 : v233 = (p1 &&& (3 : Int32))) (hq248 : mm243 ≠ bb244) (hc258 : v233 < (1 : Int32)) : v233 < (3 : Int32) := by
  generalize hex1 : (p1 &&& (3 : Int32)) = ex1 at *
  try simp only [Int32.reduceAdd, Int32.reduceSub, Int32.reduceMul, Int64.reduceAdd, Int64.reduceSub, Int64.reduceMul, Int32.lt_iff_toInt_lt, Int64.lt_iff_toInt_lt, ← Int32.toInt_inj, ← Int64.toInt_inj, Int32.reduceToInt, Int64.reduceToInt, not_true_eq_false, not_false_eq_true, false_and, and_false, true_and, and_true, false_or, or_false, true_or, or_true] at hv233
  try simp only [Int32.reduceAdd, Int32.reduceSub, Int32.reduceMul, Int64.reduceAdd, Int64.reduceSub, Int64.reduceMul, Int32.lt_iff_toInt_lt, Int64.lt_iff_toInt_lt, ← Int32.toInt_inj, ← Int64.toInt_inj, Int32.reduceToInt, Int64.reduceToInt, not_true_eq_false, not_false_eq_true, false_and, and_false, true_and, and_true, false_or, or_false, true_or, or_true] at hq248
  try simp only [Int32.reduceAdd, Int32.reduceSub, Int32.reduceMul, Int64.reduceAdd, Int64.reduceSub, Int64.reduceMul, Int32.lt_iff_toInt_lt, Int64.lt_iff_toInt_lt, ← Int32.toInt_inj, ← Int64.toInt_inj, Int32.reduceToInt, Int64.reduceToInt, not_true_eq_false, not_false_eq_true, false_and, and_false, true_and, and_true, false_or, or_false, true_or, or_true] at hc258
  try simp only [Int32.reduceAdd, Int32.reduceSub, Int32.reduceMul, Int64.reduceAdd, Int64.reduceSub, Int64.reduceMul, Int32.lt_iff_toInt_lt, Int64.lt_iff_toInt_lt, ← Int32.toInt_inj, ← Int64.toInt_inj, Int32.reduceToInt, Int64.reduceToInt, not_true_eq_false, not_false_eq_true, false_and, and_false, true_and, and_true, false_or, or_false, true_or, or_true]
  have := Int32.le_toInt p1; have := Int32.toInt_lt p1
  have := Int32.le_toInt v233; have := Int32.toInt_lt v233
  have bl1 := Int32.le_toInt ex1; have bu1 := Int32.toInt_lt ex1
  have fa1 := c_mask p1 (3 : Int32) 2 (by decide) (by decide); rw [hex1] at fa1; try simp only [Int32.reduceAdd, Int32.reduceSub, Int32.reduceToInt, Int64.reduceToInt] at fa1
  clear hex1
  all_goals omega
set_option maxRecDepth 65536 in
set_option maxHeartbeats 40000000 in
theorem own_side263 (p0 : Int32) (v224 : Int32) (hv224 : v224 = ((1 : Int32) + (p0 &&& (255 : Int32)))) (hq248 : mm243 ≠ bb244) : ¬ ((4 : Int32) < (((v224 + (64 : Int32)) - (1 : Int32)) / (64 : Int32))) := by
  generalize hex1 : (p0 &&& (255 : Int32)) = ex1 at *
  generalize hex2 : ((1 : Int32) + ex1) = ex2 at *
  generalize hex3 : (v224 + (64 : Int32)) = ex3 at *
  generalize hex4 : (ex3 - (1 : Int32)) = ex4 at *
  generalize hex5 : (ex4 / (64 : Int32)) = ex5 at *
  try simp only [Int32.reduceAdd, Int32.reduceSub, Int32.reduceMul, Int64.reduceAdd, Int64.reduceSub, Int64.reduceMul, Int32.lt_iff_toInt_lt, Int64.lt_iff_toInt_lt, ← Int32.toInt_inj, ← Int64.toInt_inj, Int32.reduceToInt, Int64.reduceToInt, not_true_eq_false, not_false_eq_true, false_and, and_false, true_and, and_true, false_or, or_false, true_or, or_true] at hv224
  try simp only [Int32.reduceAdd, Int32.reduceSub, Int32.reduceMul, Int64.reduceAdd, Int64.reduceSub, Int64.reduceMul, Int32.lt_iff_toInt_lt, Int64.lt_iff_toInt_lt, ← Int32.toInt_inj, ← Int64.toInt_inj, Int32.reduceToInt, Int64.reduceToInt, not_true_eq_false, not_false_eq_true, false_and, and_false, true_and, and_true, false_or, or_false, true_or, or_true] at hq248
  try simp only [Int32.reduceAdd, Int32.reduceSub, Int32.reduceMul, Int64.reduceAdd, Int64.reduceSub, Int64.reduceMul, Int32.lt_iff_toInt_lt, Int64.lt_iff_toInt_lt, ← Int32.toInt_inj, ← Int64.toInt_inj, Int32.reduceToInt, Int64.reduceToInt, not_true_eq_false, not_false_eq_true, false_and, and_false, true_and, and_true, false_or, or_false, true_or, or_true]
  have := Int32.le_toInt p0; have := Int32.toInt_lt p0
  have := Int32.le_toInt v224; have := Int32.toInt_lt v224
  have bl1 := Int32.le_toInt ex1; have bu1 := Int32.toInt_lt ex1
  have fa1 := c_mask p0 (255 : Int32) 8 (by decide) (by decide); rw [hex1] at fa1; try simp only [Int32.reduceAdd, Int32.reduceSub, Int32.reduceToInt, Int64.reduceToInt] at fa1
  clear hex1
  have bl2 := Int32.le_toInt ex2; have bu2 := Int32.toInt_lt ex2
  have fa2 := c_iadd (1 : Int32) ex1; rw [hex2] at fa2; try simp only [Int32.reduceAdd, Int32.reduceSub, Int32.reduceToInt, Int64.reduceToInt] at fa2
  clear hex2
  have bl3 := Int32.le_toInt ex3; have bu3 := Int32.toInt_lt ex3
  have fa3 := c_iadd v224 (64 : Int32); rw [hex3] at fa3; try simp only [Int32.reduceAdd, Int32.reduceSub, Int32.reduceToInt, Int64.reduceToInt] at fa3
  clear hex3
  have bl4 := Int32.le_toInt ex4; have bu4 := Int32.toInt_lt ex4
  have fa4 := c_isub ex3 (1 : Int32); rw [hex4] at fa4; try simp only [Int32.reduceAdd, Int32.reduceSub, Int32.reduceToInt, Int64.reduceToInt] at fa4
  clear hex4
  have bl5 := Int32.le_toInt ex5; have bu5 := Int32.toInt_lt ex5
  have fa5 := c_idiv ex4 (64 : Int32) (64) (by decide) (by decide); rw [hex5] at fa5; try simp only [Int32.reduceAdd, Int32.reduceSub, Int32.reduceToInt, Int64.reduceToInt] at fa5
  first | (have fb5 := fa5.1 (by omega); clear fa5) | (have fb5 := fa5.2 (by omega); clear fa5) | skip
  clear hex5
  all_goals omega
set_option maxRecDepth 65536 in
set_option maxHeartbeats 40000000 in
theorem own_side278 (p0 : Int32) (p2 : Int32) (v224 : Int32) (hv224 : v224 = ((1 : Int32) + (p0 &&& (255 : Int32)))) (v226 : Int32) (hv226 : v226 = ((p2 &&& (2147483647 : Int32)) % v224)) (hq248 : mm243 ≠ bb244) : own_In (((v224 + (64 : Int32)) - (1 : Int32)) / (64 : Int32)) v226 := by
  unfold own_In
  generalize hex1 : (p0 &&& (255 : Int32)) = ex1 at *
  generalize hex2 : ((1 : Int32) + ex1) = ex2 at *
  generalize hex3 : (p2 &&& (2147483647 : Int32)) = ex3 at *
  generalize hex4 : (ex3 % v224) = ex4 at *
  generalize hex5 : (v226 / (64 : Int32)) = ex5 at *
  generalize hex6 : (v224 + (64 : Int32)) = ex6 at *
  generalize hex7 : (ex6 - (1 : Int32)) = ex7 at *
  generalize hex8 : (ex7 / (64 : Int32)) = ex8 at *
  try simp only [Int32.reduceAdd, Int32.reduceSub, Int32.reduceMul, Int64.reduceAdd, Int64.reduceSub, Int64.reduceMul, Int32.lt_iff_toInt_lt, Int64.lt_iff_toInt_lt, ← Int32.toInt_inj, ← Int64.toInt_inj, Int32.reduceToInt, Int64.reduceToInt, not_true_eq_false, not_false_eq_true, false_and, and_false, true_and, and_true, false_or, or_false, true_or, or_true] at hv224
  try simp only [Int32.reduceAdd, Int32.reduceSub, Int32.reduceMul, Int64.reduceAdd, Int64.reduceSub, Int64.reduceMul, Int32.lt_iff_toInt_lt, Int64.lt_iff_toInt_lt, ← Int32.toInt_inj, ← Int64.toInt_inj, Int32.reduceToInt, Int64.reduceToInt, not_true_eq_false, not_false_eq_true, false_and, and_false, true_and, and_true, false_or, or_false, true_or, or_true] at hv226
  try simp only [Int32.reduceAdd, Int32.reduceSub, Int32.reduceMul, Int64.reduceAdd, Int64.reduceSub, Int64.reduceMul, Int32.lt_iff_toInt_lt, Int64.lt_iff_toInt_lt, ← Int32.toInt_inj, ← Int64.toInt_inj, Int32.reduceToInt, Int64.reduceToInt, not_true_eq_false, not_false_eq_true, false_and, and_false, true_and, and_true, false_or, or_false, true_or, or_true] at hq248
  try simp only [Int32.reduceAdd, Int32.reduceSub, Int32.reduceMul, Int64.reduceAdd, Int64.reduceSub, Int64.reduceMul, Int32.lt_iff_toInt_lt, Int64.lt_iff_toInt_lt, ← Int32.toInt_inj, ← Int64.toInt_inj, Int32.reduceToInt, Int64.reduceToInt, not_true_eq_false, not_false_eq_true, false_and, and_false, true_and, and_true, false_or, or_false, true_or, or_true]
  have := Int32.le_toInt p0; have := Int32.toInt_lt p0
  have := Int32.le_toInt p2; have := Int32.toInt_lt p2
  have := Int32.le_toInt v224; have := Int32.toInt_lt v224
  have := Int32.le_toInt v226; have := Int32.toInt_lt v226
  have bl1 := Int32.le_toInt ex1; have bu1 := Int32.toInt_lt ex1
  have fa1 := c_mask p0 (255 : Int32) 8 (by decide) (by decide); rw [hex1] at fa1; try simp only [Int32.reduceAdd, Int32.reduceSub, Int32.reduceToInt, Int64.reduceToInt] at fa1
  clear hex1
  have bl2 := Int32.le_toInt ex2; have bu2 := Int32.toInt_lt ex2
  have fa2 := c_iadd (1 : Int32) ex1; rw [hex2] at fa2; try simp only [Int32.reduceAdd, Int32.reduceSub, Int32.reduceToInt, Int64.reduceToInt] at fa2
  clear hex2
  have bl3 := Int32.le_toInt ex3; have bu3 := Int32.toInt_lt ex3
  have fa3 := c_mask p2 (2147483647 : Int32) 31 (by decide) (by decide); rw [hex3] at fa3; try simp only [Int32.reduceAdd, Int32.reduceSub, Int32.reduceToInt, Int64.reduceToInt] at fa3
  clear hex3
  have bl4 := Int32.le_toInt ex4; have bu4 := Int32.toInt_lt ex4
  have fa4 := c_iremV ex3 v224; rw [hex4] at fa4; try simp only [Int32.reduceAdd, Int32.reduceSub, Int32.reduceToInt, Int64.reduceToInt] at fa4
  first | (have fb4 := fa4.1 (by omega) (by omega); clear fa4) | (have fb4 := fa4.2 (by omega) (by omega); clear fa4) | skip
  clear hex4
  have bl5 := Int32.le_toInt ex5; have bu5 := Int32.toInt_lt ex5
  have fa5 := c_idiv v226 (64 : Int32) (64) (by decide) (by decide); rw [hex5] at fa5; try simp only [Int32.reduceAdd, Int32.reduceSub, Int32.reduceToInt, Int64.reduceToInt] at fa5
  first | (have fb5 := fa5.1 (by omega); clear fa5) | (have fb5 := fa5.2 (by omega); clear fa5) | skip
  clear hex5
  have bl6 := Int32.le_toInt ex6; have bu6 := Int32.toInt_lt ex6
  have fa6 := c_iadd v224 (64 : Int32); rw [hex6] at fa6; try simp only [Int32.reduceAdd, Int32.reduceSub, Int32.reduceToInt, Int64.reduceToInt] at fa6
  clear hex6
  have bl7 := Int32.le_toInt ex7; have bu7 := Int32.toInt_lt ex7
  have fa7 := c_isub ex6 (1 : Int32); rw [hex7] at fa7; try simp only [Int32.reduceAdd, Int32.reduceSub, Int32.reduceToInt, Int64.reduceToInt] at fa7
  clear hex7
  have bl8 := Int32.le_toInt ex8; have bu8 := Int32.toInt_lt ex8
  have fa8 := c_idiv ex7 (64 : Int32) (64) (by decide) (by decide); rw [hex8] at fa8; try simp only [Int32.reduceAdd, Int32.reduceSub, Int32.reduceToInt, Int64.reduceToInt] at fa8
  first | (have fb8 := fa8.1 (by omega); clear fa8) | (have fb8 := fa8.2 (by omega); clear fa8) | skip
  clear hex8
  all_goals omega
set_option maxRecDepth 65536 in
set_option maxHeartbeats 40000000 in
theorem own_side279 (p0 : Int32) (v224 : Int32) (hv224 : v224 = ((1 : Int32) + (p0 &&& (255 : Int32)))) (hq248 : mm243 ≠ bb244) : ¬ ((4 : Int32) < (((v224 + (64 : Int32)) - (1 : Int32)) / (64 : Int32))) := by
  generalize hex1 : (p0 &&& (255 : Int32)) = ex1 at *
  generalize hex2 : ((1 : Int32) + ex1) = ex2 at *
  generalize hex3 : (v224 + (64 : Int32)) = ex3 at *
  generalize hex4 : (ex3 - (1 : Int32)) = ex4 at *
  generalize hex5 : (ex4 / (64 : Int32)) = ex5 at *
  try simp only [Int32.reduceAdd, Int32.reduceSub, Int32.reduceMul, Int64.reduceAdd, Int64.reduceSub, Int64.reduceMul, Int32.lt_iff_toInt_lt, Int64.lt_iff_toInt_lt, ← Int32.toInt_inj, ← Int64.toInt_inj, Int32.reduceToInt, Int64.reduceToInt, not_true_eq_false, not_false_eq_true, false_and, and_false, true_and, and_true, false_or, or_false, true_or, or_true] at hv224
  try simp only [Int32.reduceAdd, Int32.reduceSub, Int32.reduceMul, Int64.reduceAdd, Int64.reduceSub, Int64.reduceMul, Int32.lt_iff_toInt_lt, Int64.lt_iff_toInt_lt, ← Int32.toInt_inj, ← Int64.toInt_inj, Int32.reduceToInt, Int64.reduceToInt, not_true_eq_false, not_false_eq_true, false_and, and_false, true_and, and_true, false_or, or_false, true_or, or_true] at hq248
  try simp only [Int32.reduceAdd, Int32.reduceSub, Int32.reduceMul, Int64.reduceAdd, Int64.reduceSub, Int64.reduceMul, Int32.lt_iff_toInt_lt, Int64.lt_iff_toInt_lt, ← Int32.toInt_inj, ← Int64.toInt_inj, Int32.reduceToInt, Int64.reduceToInt, not_true_eq_false, not_false_eq_true, false_and, and_false, true_and, and_true, false_or, or_false, true_or, or_true]
  have := Int32.le_toInt p0; have := Int32.toInt_lt p0
  have := Int32.le_toInt v224; have := Int32.toInt_lt v224
  have bl1 := Int32.le_toInt ex1; have bu1 := Int32.toInt_lt ex1
  have fa1 := c_mask p0 (255 : Int32) 8 (by decide) (by decide); rw [hex1] at fa1; try simp only [Int32.reduceAdd, Int32.reduceSub, Int32.reduceToInt, Int64.reduceToInt] at fa1
  clear hex1
  have bl2 := Int32.le_toInt ex2; have bu2 := Int32.toInt_lt ex2
  have fa2 := c_iadd (1 : Int32) ex1; rw [hex2] at fa2; try simp only [Int32.reduceAdd, Int32.reduceSub, Int32.reduceToInt, Int64.reduceToInt] at fa2
  clear hex2
  have bl3 := Int32.le_toInt ex3; have bu3 := Int32.toInt_lt ex3
  have fa3 := c_iadd v224 (64 : Int32); rw [hex3] at fa3; try simp only [Int32.reduceAdd, Int32.reduceSub, Int32.reduceToInt, Int64.reduceToInt] at fa3
  clear hex3
  have bl4 := Int32.le_toInt ex4; have bu4 := Int32.toInt_lt ex4
  have fa4 := c_isub ex3 (1 : Int32); rw [hex4] at fa4; try simp only [Int32.reduceAdd, Int32.reduceSub, Int32.reduceToInt, Int64.reduceToInt] at fa4
  clear hex4
  have bl5 := Int32.le_toInt ex5; have bu5 := Int32.toInt_lt ex5
  have fa5 := c_idiv ex4 (64 : Int32) (64) (by decide) (by decide); rw [hex5] at fa5; try simp only [Int32.reduceAdd, Int32.reduceSub, Int32.reduceToInt, Int64.reduceToInt] at fa5
  first | (have fb5 := fa5.1 (by omega); clear fa5) | (have fb5 := fa5.2 (by omega); clear fa5) | skip
  clear hex5
  all_goals omega
set_option maxRecDepth 65536 in
set_option maxHeartbeats 40000000 in
theorem own_side283 (p0 : Int32) (p3 : Int32) (v224 : Int32) (hv224 : v224 = ((1 : Int32) + (p0 &&& (255 : Int32)))) (v228 : Int32) (hv228 : v228 = ((p3 &&& (2147483647 : Int32)) % v224)) (hq248 : mm243 ≠ bb244) : own_In (((v224 + (64 : Int32)) - (1 : Int32)) / (64 : Int32)) v228 := by
  unfold own_In
  generalize hex1 : (p0 &&& (255 : Int32)) = ex1 at *
  generalize hex2 : ((1 : Int32) + ex1) = ex2 at *
  generalize hex3 : (p3 &&& (2147483647 : Int32)) = ex3 at *
  generalize hex4 : (ex3 % v224) = ex4 at *
  generalize hex5 : (v228 / (64 : Int32)) = ex5 at *
  generalize hex6 : (v224 + (64 : Int32)) = ex6 at *
  generalize hex7 : (ex6 - (1 : Int32)) = ex7 at *
  generalize hex8 : (ex7 / (64 : Int32)) = ex8 at *
  try simp only [Int32.reduceAdd, Int32.reduceSub, Int32.reduceMul, Int64.reduceAdd, Int64.reduceSub, Int64.reduceMul, Int32.lt_iff_toInt_lt, Int64.lt_iff_toInt_lt, ← Int32.toInt_inj, ← Int64.toInt_inj, Int32.reduceToInt, Int64.reduceToInt, not_true_eq_false, not_false_eq_true, false_and, and_false, true_and, and_true, false_or, or_false, true_or, or_true] at hv224
  try simp only [Int32.reduceAdd, Int32.reduceSub, Int32.reduceMul, Int64.reduceAdd, Int64.reduceSub, Int64.reduceMul, Int32.lt_iff_toInt_lt, Int64.lt_iff_toInt_lt, ← Int32.toInt_inj, ← Int64.toInt_inj, Int32.reduceToInt, Int64.reduceToInt, not_true_eq_false, not_false_eq_true, false_and, and_false, true_and, and_true, false_or, or_false, true_or, or_true] at hv228
  try simp only [Int32.reduceAdd, Int32.reduceSub, Int32.reduceMul, Int64.reduceAdd, Int64.reduceSub, Int64.reduceMul, Int32.lt_iff_toInt_lt, Int64.lt_iff_toInt_lt, ← Int32.toInt_inj, ← Int64.toInt_inj, Int32.reduceToInt, Int64.reduceToInt, not_true_eq_false, not_false_eq_true, false_and, and_false, true_and, and_true, false_or, or_false, true_or, or_true] at hq248
  try simp only [Int32.reduceAdd, Int32.reduceSub, Int32.reduceMul, Int64.reduceAdd, Int64.reduceSub, Int64.reduceMul, Int32.lt_iff_toInt_lt, Int64.lt_iff_toInt_lt, ← Int32.toInt_inj, ← Int64.toInt_inj, Int32.reduceToInt, Int64.reduceToInt, not_true_eq_false, not_false_eq_true, false_and, and_false, true_and, and_true, false_or, or_false, true_or, or_true]
  have := Int32.le_toInt p0; have := Int32.toInt_lt p0
  have := Int32.le_toInt p3; have := Int32.toInt_lt p3
  have := Int32.le_toInt v224; have := Int32.toInt_lt v224
  have := Int32.le_toInt v228; have := Int32.toInt_lt v228
  have bl1 := Int32.le_toInt ex1; have bu1 := Int32.toInt_lt ex1
  have fa1 := c_mask p0 (255 : Int32) 8 (by decide) (by decide); rw [hex1] at fa1; try simp only [Int32.reduceAdd, Int32.reduceSub, Int32.reduceToInt, Int64.reduceToInt] at fa1
  clear hex1
  have bl2 := Int32.le_toInt ex2; have bu2 := Int32.toInt_lt ex2
  have fa2 := c_iadd (1 : Int32) ex1; rw [hex2] at fa2; try simp only [Int32.reduceAdd, Int32.reduceSub, Int32.reduceToInt, Int64.reduceToInt] at fa2
  clear hex2
  have bl3 := Int32.le_toInt ex3; have bu3 := Int32.toInt_lt ex3
  have fa3 := c_mask p3 (2147483647 : Int32) 31 (by decide) (by decide); rw [hex3] at fa3; try simp only [Int32.reduceAdd, Int32.reduceSub, Int32.reduceToInt, Int64.reduceToInt] at fa3
  clear hex3
  have bl4 := Int32.le_toInt ex4; have bu4 := Int32.toInt_lt ex4
  have fa4 := c_iremV ex3 v224; rw [hex4] at fa4; try simp only [Int32.reduceAdd, Int32.reduceSub, Int32.reduceToInt, Int64.reduceToInt] at fa4
  first | (have fb4 := fa4.1 (by omega) (by omega); clear fa4) | (have fb4 := fa4.2 (by omega) (by omega); clear fa4) | skip
  clear hex4
  have bl5 := Int32.le_toInt ex5; have bu5 := Int32.toInt_lt ex5
  have fa5 := c_idiv v228 (64 : Int32) (64) (by decide) (by decide); rw [hex5] at fa5; try simp only [Int32.reduceAdd, Int32.reduceSub, Int32.reduceToInt, Int64.reduceToInt] at fa5
  first | (have fb5 := fa5.1 (by omega); clear fa5) | (have fb5 := fa5.2 (by omega); clear fa5) | skip
  clear hex5
  have bl6 := Int32.le_toInt ex6; have bu6 := Int32.toInt_lt ex6
  have fa6 := c_iadd v224 (64 : Int32); rw [hex6] at fa6; try simp only [Int32.reduceAdd, Int32.reduceSub, Int32.reduceToInt, Int64.reduceToInt] at fa6
  clear hex6
  have bl7 := Int32.le_toInt ex7; have bu7 := Int32.toInt_lt ex7
  have fa7 := c_isub ex6 (1 : Int32); rw [hex7] at fa7; try simp only [Int32.reduceAdd, Int32.reduceSub, Int32.reduceToInt, Int64.reduceToInt] at fa7
  clear hex7
  have bl8 := Int32.le_toInt ex8; have bu8 := Int32.toInt_lt ex8
  have fa8 := c_idiv ex7 (64 : Int32) (64) (by decide) (by decide); rw [hex8] at fa8; try simp only [Int32.reduceAdd, Int32.reduceSub, Int32.reduceToInt, Int64.reduceToInt] at fa8
  first | (have fb8 := fa8.1 (by omega); clear fa8) | (have fb8 := fa8.2 (by omega); clear fa8) | skip
  clear hex8
  all_goals omega
set_option maxRecDepth 65536 in
set_option maxHeartbeats 40000000 in
theorem own_side284 (p0 : Int32) (v224 : Int32) (hv224 : v224 = ((1 : Int32) + (p0 &&& (255 : Int32)))) (hq248 : mm243 ≠ bb244) : ¬ ((4 : Int32) < (((v224 + (64 : Int32)) - (1 : Int32)) / (64 : Int32))) := by
  generalize hex1 : (p0 &&& (255 : Int32)) = ex1 at *
  generalize hex2 : ((1 : Int32) + ex1) = ex2 at *
  generalize hex3 : (v224 + (64 : Int32)) = ex3 at *
  generalize hex4 : (ex3 - (1 : Int32)) = ex4 at *
  generalize hex5 : (ex4 / (64 : Int32)) = ex5 at *
  try simp only [Int32.reduceAdd, Int32.reduceSub, Int32.reduceMul, Int64.reduceAdd, Int64.reduceSub, Int64.reduceMul, Int32.lt_iff_toInt_lt, Int64.lt_iff_toInt_lt, ← Int32.toInt_inj, ← Int64.toInt_inj, Int32.reduceToInt, Int64.reduceToInt, not_true_eq_false, not_false_eq_true, false_and, and_false, true_and, and_true, false_or, or_false, true_or, or_true] at hv224
  try simp only [Int32.reduceAdd, Int32.reduceSub, Int32.reduceMul, Int64.reduceAdd, Int64.reduceSub, Int64.reduceMul, Int32.lt_iff_toInt_lt, Int64.lt_iff_toInt_lt, ← Int32.toInt_inj, ← Int64.toInt_inj, Int32.reduceToInt, Int64.reduceToInt, not_true_eq_false, not_false_eq_true, false_and, and_false, true_and, and_true, false_or, or_false, true_or, or_true] at hq248
  try simp only [Int32.reduceAdd, Int32.reduceSub, Int32.reduceMul, Int64.reduceAdd, Int64.reduceSub, Int64.reduceMul, Int32.lt_iff_toInt_lt, Int64.lt_iff_toInt_lt, ← Int32.toInt_inj, ← Int64.toInt_inj, Int32.reduceToInt, Int64.reduceToInt, not_true_eq_false, not_false_eq_true, false_and, and_false, true_and, and_true, false_or, or_false, true_or, or_true]
  have := Int32.le_toInt p0; have := Int32.toInt_lt p0
  have := Int32.le_toInt v224; have := Int32.toInt_lt v224
  have bl1 := Int32.le_toInt ex1; have bu1 := Int32.toInt_lt ex1
  have fa1 := c_mask p0 (255 : Int32) 8 (by decide) (by decide); rw [hex1] at fa1; try simp only [Int32.reduceAdd, Int32.reduceSub, Int32.reduceToInt, Int64.reduceToInt] at fa1
  clear hex1
  have bl2 := Int32.le_toInt ex2; have bu2 := Int32.toInt_lt ex2
  have fa2 := c_iadd (1 : Int32) ex1; rw [hex2] at fa2; try simp only [Int32.reduceAdd, Int32.reduceSub, Int32.reduceToInt, Int64.reduceToInt] at fa2
  clear hex2
  have bl3 := Int32.le_toInt ex3; have bu3 := Int32.toInt_lt ex3
  have fa3 := c_iadd v224 (64 : Int32); rw [hex3] at fa3; try simp only [Int32.reduceAdd, Int32.reduceSub, Int32.reduceToInt, Int64.reduceToInt] at fa3
  clear hex3
  have bl4 := Int32.le_toInt ex4; have bu4 := Int32.toInt_lt ex4
  have fa4 := c_isub ex3 (1 : Int32); rw [hex4] at fa4; try simp only [Int32.reduceAdd, Int32.reduceSub, Int32.reduceToInt, Int64.reduceToInt] at fa4
  clear hex4
  have bl5 := Int32.le_toInt ex5; have bu5 := Int32.toInt_lt ex5
  have fa5 := c_idiv ex4 (64 : Int32) (64) (by decide) (by decide); rw [hex5] at fa5; try simp only [Int32.reduceAdd, Int32.reduceSub, Int32.reduceToInt, Int64.reduceToInt] at fa5
  first | (have fb5 := fa5.1 (by omega); clear fa5) | (have fb5 := fa5.2 (by omega); clear fa5) | skip
  clear hex5
  all_goals omega
set_option maxRecDepth 65536 in
set_option maxHeartbeats 40000000 in
theorem own_side288 (p0 : Int32) (p4 : Int32) (v224 : Int32) (hv224 : v224 = ((1 : Int32) + (p0 &&& (255 : Int32)))) (v230 : Int32) (hv230 : v230 = ((p4 &&& (2147483647 : Int32)) % v224)) (hq248 : mm243 ≠ bb244) : own_In (((v224 + (64 : Int32)) - (1 : Int32)) / (64 : Int32)) v230 := by
  unfold own_In
  generalize hex1 : (p0 &&& (255 : Int32)) = ex1 at *
  generalize hex2 : ((1 : Int32) + ex1) = ex2 at *
  generalize hex3 : (p4 &&& (2147483647 : Int32)) = ex3 at *
  generalize hex4 : (ex3 % v224) = ex4 at *
  generalize hex5 : (v230 / (64 : Int32)) = ex5 at *
  generalize hex6 : (v224 + (64 : Int32)) = ex6 at *
  generalize hex7 : (ex6 - (1 : Int32)) = ex7 at *
  generalize hex8 : (ex7 / (64 : Int32)) = ex8 at *
  try simp only [Int32.reduceAdd, Int32.reduceSub, Int32.reduceMul, Int64.reduceAdd, Int64.reduceSub, Int64.reduceMul, Int32.lt_iff_toInt_lt, Int64.lt_iff_toInt_lt, ← Int32.toInt_inj, ← Int64.toInt_inj, Int32.reduceToInt, Int64.reduceToInt, not_true_eq_false, not_false_eq_true, false_and, and_false, true_and, and_true, false_or, or_false, true_or, or_true] at hv224
  try simp only [Int32.reduceAdd, Int32.reduceSub, Int32.reduceMul, Int64.reduceAdd, Int64.reduceSub, Int64.reduceMul, Int32.lt_iff_toInt_lt, Int64.lt_iff_toInt_lt, ← Int32.toInt_inj, ← Int64.toInt_inj, Int32.reduceToInt, Int64.reduceToInt, not_true_eq_false, not_false_eq_true, false_and, and_false, true_and, and_true, false_or, or_false, true_or, or_true] at hv230
  try simp only [Int32.reduceAdd, Int32.reduceSub, Int32.reduceMul, Int64.reduceAdd, Int64.reduceSub, Int64.reduceMul, Int32.lt_iff_toInt_lt, Int64.lt_iff_toInt_lt, ← Int32.toInt_inj, ← Int64.toInt_inj, Int32.reduceToInt, Int64.reduceToInt, not_true_eq_false, not_false_eq_true, false_and, and_false, true_and, and_true, false_or, or_false, true_or, or_true] at hq248
  try simp only [Int32.reduceAdd, Int32.reduceSub, Int32.reduceMul, Int64.reduceAdd, Int64.reduceSub, Int64.reduceMul, Int32.lt_iff_toInt_lt, Int64.lt_iff_toInt_lt, ← Int32.toInt_inj, ← Int64.toInt_inj, Int32.reduceToInt, Int64.reduceToInt, not_true_eq_false, not_false_eq_true, false_and, and_false, true_and, and_true, false_or, or_false, true_or, or_true]
  have := Int32.le_toInt p0; have := Int32.toInt_lt p0
  have := Int32.le_toInt p4; have := Int32.toInt_lt p4
  have := Int32.le_toInt v224; have := Int32.toInt_lt v224
  have := Int32.le_toInt v230; have := Int32.toInt_lt v230
  have bl1 := Int32.le_toInt ex1; have bu1 := Int32.toInt_lt ex1
  have fa1 := c_mask p0 (255 : Int32) 8 (by decide) (by decide); rw [hex1] at fa1; try simp only [Int32.reduceAdd, Int32.reduceSub, Int32.reduceToInt, Int64.reduceToInt] at fa1
  clear hex1
  have bl2 := Int32.le_toInt ex2; have bu2 := Int32.toInt_lt ex2
  have fa2 := c_iadd (1 : Int32) ex1; rw [hex2] at fa2; try simp only [Int32.reduceAdd, Int32.reduceSub, Int32.reduceToInt, Int64.reduceToInt] at fa2
  clear hex2
  have bl3 := Int32.le_toInt ex3; have bu3 := Int32.toInt_lt ex3
  have fa3 := c_mask p4 (2147483647 : Int32) 31 (by decide) (by decide); rw [hex3] at fa3; try simp only [Int32.reduceAdd, Int32.reduceSub, Int32.reduceToInt, Int64.reduceToInt] at fa3
  clear hex3
  have bl4 := Int32.le_toInt ex4; have bu4 := Int32.toInt_lt ex4
  have fa4 := c_iremV ex3 v224; rw [hex4] at fa4; try simp only [Int32.reduceAdd, Int32.reduceSub, Int32.reduceToInt, Int64.reduceToInt] at fa4
  first | (have fb4 := fa4.1 (by omega) (by omega); clear fa4) | (have fb4 := fa4.2 (by omega) (by omega); clear fa4) | skip
  clear hex4
  have bl5 := Int32.le_toInt ex5; have bu5 := Int32.toInt_lt ex5
  have fa5 := c_idiv v230 (64 : Int32) (64) (by decide) (by decide); rw [hex5] at fa5; try simp only [Int32.reduceAdd, Int32.reduceSub, Int32.reduceToInt, Int64.reduceToInt] at fa5
  first | (have fb5 := fa5.1 (by omega); clear fa5) | (have fb5 := fa5.2 (by omega); clear fa5) | skip
  clear hex5
  have bl6 := Int32.le_toInt ex6; have bu6 := Int32.toInt_lt ex6
  have fa6 := c_iadd v224 (64 : Int32); rw [hex6] at fa6; try simp only [Int32.reduceAdd, Int32.reduceSub, Int32.reduceToInt, Int64.reduceToInt] at fa6
  clear hex6
  have bl7 := Int32.le_toInt ex7; have bu7 := Int32.toInt_lt ex7
  have fa7 := c_isub ex6 (1 : Int32); rw [hex7] at fa7; try simp only [Int32.reduceAdd, Int32.reduceSub, Int32.reduceToInt, Int64.reduceToInt] at fa7
  clear hex7
  have bl8 := Int32.le_toInt ex8; have bu8 := Int32.toInt_lt ex8
  have fa8 := c_idiv ex7 (64 : Int32) (64) (by decide) (by decide); rw [hex8] at fa8; try simp only [Int32.reduceAdd, Int32.reduceSub, Int32.reduceToInt, Int64.reduceToInt] at fa8
  first | (have fb8 := fa8.1 (by omega); clear fa8) | (have fb8 := fa8.2 (by omega); clear fa8) | skip
  clear hex8
  all_goals omega
set_option maxRecDepth 65536 in
set_option maxHeartbeats 40000000 in
theorem own_side289 (p0 : Int32) (v224 : Int32) (hv224 : v224 = ((1 : Int32) + (p0 &&& (255 : Int32)))) (hq248 : mm243 ≠ bb244) : ¬ ((4 : Int32) < (((v224 + (64 : Int32)) - (1 : Int32)) / (64 : Int32))) := by
  generalize hex1 : (p0 &&& (255 : Int32)) = ex1 at *
  generalize hex2 : ((1 : Int32) + ex1) = ex2 at *
  generalize hex3 : (v224 + (64 : Int32)) = ex3 at *
  generalize hex4 : (ex3 - (1 : Int32)) = ex4 at *
  generalize hex5 : (ex4 / (64 : Int32)) = ex5 at *
  try simp only [Int32.reduceAdd, Int32.reduceSub, Int32.reduceMul, Int64.reduceAdd, Int64.reduceSub, Int64.reduceMul, Int32.lt_iff_toInt_lt, Int64.lt_iff_toInt_lt, ← Int32.toInt_inj, ← Int64.toInt_inj, Int32.reduceToInt, Int64.reduceToInt, not_true_eq_false, not_false_eq_true, false_and, and_false, true_and, and_true, false_or, or_false, true_or, or_true] at hv224
  try simp only [Int32.reduceAdd, Int32.reduceSub, Int32.reduceMul, Int64.reduceAdd, Int64.reduceSub, Int64.reduceMul, Int32.lt_iff_toInt_lt, Int64.lt_iff_toInt_lt, ← Int32.toInt_inj, ← Int64.toInt_inj, Int32.reduceToInt, Int64.reduceToInt, not_true_eq_false, not_false_eq_true, false_and, and_false, true_and, and_true, false_or, or_false, true_or, or_true] at hq248
  try simp only [Int32.reduceAdd, Int32.reduceSub, Int32.reduceMul, Int64.reduceAdd, Int64.reduceSub, Int64.reduceMul, Int32.lt_iff_toInt_lt, Int64.lt_iff_toInt_lt, ← Int32.toInt_inj, ← Int64.toInt_inj, Int32.reduceToInt, Int64.reduceToInt, not_true_eq_false, not_false_eq_true, false_and, and_false, true_and, and_true, false_or, or_false, true_or, or_true]
  have := Int32.le_toInt p0; have := Int32.toInt_lt p0
  have := Int32.le_toInt v224; have := Int32.toInt_lt v224
  have bl1 := Int32.le_toInt ex1; have bu1 := Int32.toInt_lt ex1
  have fa1 := c_mask p0 (255 : Int32) 8 (by decide) (by decide); rw [hex1] at fa1; try simp only [Int32.reduceAdd, Int32.reduceSub, Int32.reduceToInt, Int64.reduceToInt] at fa1
  clear hex1
  have bl2 := Int32.le_toInt ex2; have bu2 := Int32.toInt_lt ex2
  have fa2 := c_iadd (1 : Int32) ex1; rw [hex2] at fa2; try simp only [Int32.reduceAdd, Int32.reduceSub, Int32.reduceToInt, Int64.reduceToInt] at fa2
  clear hex2
  have bl3 := Int32.le_toInt ex3; have bu3 := Int32.toInt_lt ex3
  have fa3 := c_iadd v224 (64 : Int32); rw [hex3] at fa3; try simp only [Int32.reduceAdd, Int32.reduceSub, Int32.reduceToInt, Int64.reduceToInt] at fa3
  clear hex3
  have bl4 := Int32.le_toInt ex4; have bu4 := Int32.toInt_lt ex4
  have fa4 := c_isub ex3 (1 : Int32); rw [hex4] at fa4; try simp only [Int32.reduceAdd, Int32.reduceSub, Int32.reduceToInt, Int64.reduceToInt] at fa4
  clear hex4
  have bl5 := Int32.le_toInt ex5; have bu5 := Int32.toInt_lt ex5
  have fa5 := c_idiv ex4 (64 : Int32) (64) (by decide) (by decide); rw [hex5] at fa5; try simp only [Int32.reduceAdd, Int32.reduceSub, Int32.reduceToInt, Int64.reduceToInt] at fa5
  first | (have fb5 := fa5.1 (by omega); clear fa5) | (have fb5 := fa5.2 (by omega); clear fa5) | skip
  clear hex5
  all_goals omega
set_option maxRecDepth 65536 in
set_option maxHeartbeats 40000000 in
theorem own_side293 (p0 : Int32) (p5 : Int32) (v224 : Int32) (hv224 : v224 = ((1 : Int32) + (p0 &&& (255 : Int32)))) (v232 : Int32) (hv232 : v232 = ((p5 &&& (2147483647 : Int32)) % v224)) (hq248 : mm243 ≠ bb244) : own_In (((v224 + (64 : Int32)) - (1 : Int32)) / (64 : Int32)) v232 := by
  unfold own_In
  generalize hex1 : (p0 &&& (255 : Int32)) = ex1 at *
  generalize hex2 : ((1 : Int32) + ex1) = ex2 at *
  generalize hex3 : (p5 &&& (2147483647 : Int32)) = ex3 at *
  generalize hex4 : (ex3 % v224) = ex4 at *
  generalize hex5 : (v232 / (64 : Int32)) = ex5 at *
  generalize hex6 : (v224 + (64 : Int32)) = ex6 at *
  generalize hex7 : (ex6 - (1 : Int32)) = ex7 at *
  generalize hex8 : (ex7 / (64 : Int32)) = ex8 at *
  try simp only [Int32.reduceAdd, Int32.reduceSub, Int32.reduceMul, Int64.reduceAdd, Int64.reduceSub, Int64.reduceMul, Int32.lt_iff_toInt_lt, Int64.lt_iff_toInt_lt, ← Int32.toInt_inj, ← Int64.toInt_inj, Int32.reduceToInt, Int64.reduceToInt, not_true_eq_false, not_false_eq_true, false_and, and_false, true_and, and_true, false_or, or_false, true_or, or_true] at hv224
  try simp only [Int32.reduceAdd, Int32.reduceSub, Int32.reduceMul, Int64.reduceAdd, Int64.reduceSub, Int64.reduceMul, Int32.lt_iff_toInt_lt, Int64.lt_iff_toInt_lt, ← Int32.toInt_inj, ← Int64.toInt_inj, Int32.reduceToInt, Int64.reduceToInt, not_true_eq_false, not_false_eq_true, false_and, and_false, true_and, and_true, false_or, or_false, true_or, or_true] at hv232
  try simp only [Int32.reduceAdd, Int32.reduceSub, Int32.reduceMul, Int64.reduceAdd, Int64.reduceSub, Int64.reduceMul, Int32.lt_iff_toInt_lt, Int64.lt_iff_toInt_lt, ← Int32.toInt_inj, ← Int64.toInt_inj, Int32.reduceToInt, Int64.reduceToInt, not_true_eq_false, not_false_eq_true, false_and, and_false, true_and, and_true, false_or, or_false, true_or, or_true] at hq248
  try simp only [Int32.reduceAdd, Int32.reduceSub, Int32.reduceMul, Int64.reduceAdd, Int64.reduceSub, Int64.reduceMul, Int32.lt_iff_toInt_lt, Int64.lt_iff_toInt_lt, ← Int32.toInt_inj, ← Int64.toInt_inj, Int32.reduceToInt, Int64.reduceToInt, not_true_eq_false, not_false_eq_true, false_and, and_false, true_and, and_true, false_or, or_false, true_or, or_true]
  have := Int32.le_toInt p0; have := Int32.toInt_lt p0
  have := Int32.le_toInt p5; have := Int32.toInt_lt p5
  have := Int32.le_toInt v224; have := Int32.toInt_lt v224
  have := Int32.le_toInt v232; have := Int32.toInt_lt v232
  have bl1 := Int32.le_toInt ex1; have bu1 := Int32.toInt_lt ex1
  have fa1 := c_mask p0 (255 : Int32) 8 (by decide) (by decide); rw [hex1] at fa1; try simp only [Int32.reduceAdd, Int32.reduceSub, Int32.reduceToInt, Int64.reduceToInt] at fa1
  clear hex1
  have bl2 := Int32.le_toInt ex2; have bu2 := Int32.toInt_lt ex2
  have fa2 := c_iadd (1 : Int32) ex1; rw [hex2] at fa2; try simp only [Int32.reduceAdd, Int32.reduceSub, Int32.reduceToInt, Int64.reduceToInt] at fa2
  clear hex2
  have bl3 := Int32.le_toInt ex3; have bu3 := Int32.toInt_lt ex3
  have fa3 := c_mask p5 (2147483647 : Int32) 31 (by decide) (by decide); rw [hex3] at fa3; try simp only [Int32.reduceAdd, Int32.reduceSub, Int32.reduceToInt, Int64.reduceToInt] at fa3
  clear hex3
  have bl4 := Int32.le_toInt ex4; have bu4 := Int32.toInt_lt ex4
  have fa4 := c_iremV ex3 v224; rw [hex4] at fa4; try simp only [Int32.reduceAdd, Int32.reduceSub, Int32.reduceToInt, Int64.reduceToInt] at fa4
  first | (have fb4 := fa4.1 (by omega) (by omega); clear fa4) | (have fb4 := fa4.2 (by omega) (by omega); clear fa4) | skip
  clear hex4
  have bl5 := Int32.le_toInt ex5; have bu5 := Int32.toInt_lt ex5
  have fa5 := c_idiv v232 (64 : Int32) (64) (by decide) (by decide); rw [hex5] at fa5; try simp only [Int32.reduceAdd, Int32.reduceSub, Int32.reduceToInt, Int64.reduceToInt] at fa5
  first | (have fb5 := fa5.1 (by omega); clear fa5) | (have fb5 := fa5.2 (by omega); clear fa5) | skip
  clear hex5
  have bl6 := Int32.le_toInt ex6; have bu6 := Int32.toInt_lt ex6
  have fa6 := c_iadd v224 (64 : Int32); rw [hex6] at fa6; try simp only [Int32.reduceAdd, Int32.reduceSub, Int32.reduceToInt, Int64.reduceToInt] at fa6
  clear hex6
  have bl7 := Int32.le_toInt ex7; have bu7 := Int32.toInt_lt ex7
  have fa7 := c_isub ex6 (1 : Int32); rw [hex7] at fa7; try simp only [Int32.reduceAdd, Int32.reduceSub, Int32.reduceToInt, Int64.reduceToInt] at fa7
  clear hex7
  have bl8 := Int32.le_toInt ex8; have bu8 := Int32.toInt_lt ex8
  have fa8 := c_idiv ex7 (64 : Int32) (64) (by decide) (by decide); rw [hex8] at fa8; try simp only [Int32.reduceAdd, Int32.reduceSub, Int32.reduceToInt, Int64.reduceToInt] at fa8
  first | (have fb8 := fa8.1 (by omega); clear fa8) | (have fb8 := fa8.2 (by omega); clear fa8) | skip
  clear hex8
  all_goals omega
set_option maxRecDepth 65536 in
set_option maxHeartbeats 40000000 in
theorem own_side294 (p0 : Int32) (v224 : Int32) (hv224 : v224 = ((1 : Int32) + (p0 &&& (255 : Int32)))) (hq248 : mm243 ≠ bb244) : ¬ ((4 : Int32) < (((v224 + (64 : Int32)) - (1 : Int32)) / (64 : Int32))) := by
  generalize hex1 : (p0 &&& (255 : Int32)) = ex1 at *
  generalize hex2 : ((1 : Int32) + ex1) = ex2 at *
  generalize hex3 : (v224 + (64 : Int32)) = ex3 at *
  generalize hex4 : (ex3 - (1 : Int32)) = ex4 at *
  generalize hex5 : (ex4 / (64 : Int32)) = ex5 at *
  try simp only [Int32.reduceAdd, Int32.reduceSub, Int32.reduceMul, Int64.reduceAdd, Int64.reduceSub, Int64.reduceMul, Int32.lt_iff_toInt_lt, Int64.lt_iff_toInt_lt, ← Int32.toInt_inj, ← Int64.toInt_inj, Int32.reduceToInt, Int64.reduceToInt, not_true_eq_false, not_false_eq_true, false_and, and_false, true_and, and_true, false_or, or_false, true_or, or_true] at hv224
  try simp only [Int32.reduceAdd, Int32.reduceSub, Int32.reduceMul, Int64.reduceAdd, Int64.reduceSub, Int64.reduceMul, Int32.lt_iff_toInt_lt, Int64.lt_iff_toInt_lt, ← Int32.toInt_inj, ← Int64.toInt_inj, Int32.reduceToInt, Int64.reduceToInt, not_true_eq_false, not_false_eq_true, false_and, and_false, true_and, and_true, false_or, or_false, true_or, or_true] at hq248
  try simp only [Int32.reduceAdd, Int32.reduceSub, Int32.reduceMul, Int64.reduceAdd, Int64.reduceSub, Int64.reduceMul, Int32.lt_iff_toInt_lt, Int64.lt_iff_toInt_lt, ← Int32.toInt_inj, ← Int64.toInt_inj, Int32.reduceToInt, Int64.reduceToInt, not_true_eq_false, not_false_eq_true, false_and, and_false, true_and, and_true, false_or, or_false, true_or, or_true]
  have := Int32.le_toInt p0; have := Int32.toInt_lt p0
  have := Int32.le_toInt v224; have := Int32.toInt_lt v224
  have bl1 := Int32.le_toInt ex1; have bu1 := Int32.toInt_lt ex1
  have fa1 := c_mask p0 (255 : Int32) 8 (by decide) (by decide); rw [hex1] at fa1; try simp only [Int32.reduceAdd, Int32.reduceSub, Int32.reduceToInt, Int64.reduceToInt] at fa1
  clear hex1
  have bl2 := Int32.le_toInt ex2; have bu2 := Int32.toInt_lt ex2
  have fa2 := c_iadd (1 : Int32) ex1; rw [hex2] at fa2; try simp only [Int32.reduceAdd, Int32.reduceSub, Int32.reduceToInt, Int64.reduceToInt] at fa2
  clear hex2
  have bl3 := Int32.le_toInt ex3; have bu3 := Int32.toInt_lt ex3
  have fa3 := c_iadd v224 (64 : Int32); rw [hex3] at fa3; try simp only [Int32.reduceAdd, Int32.reduceSub, Int32.reduceToInt, Int64.reduceToInt] at fa3
  clear hex3
  have bl4 := Int32.le_toInt ex4; have bu4 := Int32.toInt_lt ex4
  have fa4 := c_isub ex3 (1 : Int32); rw [hex4] at fa4; try simp only [Int32.reduceAdd, Int32.reduceSub, Int32.reduceToInt, Int64.reduceToInt] at fa4
  clear hex4
  have bl5 := Int32.le_toInt ex5; have bu5 := Int32.toInt_lt ex5
  have fa5 := c_idiv ex4 (64 : Int32) (64) (by decide) (by decide); rw [hex5] at fa5; try simp only [Int32.reduceAdd, Int32.reduceSub, Int32.reduceToInt, Int64.reduceToInt] at fa5
  first | (have fb5 := fa5.1 (by omega); clear fa5) | (have fb5 := fa5.2 (by omega); clear fa5) | skip
  clear hex5
  all_goals omega
set_option maxRecDepth 65536 in
set_option maxHeartbeats 40000000 in
theorem own_side317 (p0 : Int32) (p2 : Int32) (v224 : Int32) (hv224 : v224 = ((1 : Int32) + (p0 &&& (255 : Int32)))) (v226 : Int32) (hv226 : v226 = ((p2 &&& (2147483647 : Int32)) % v224)) (hq248 : mm243 ≠ bb244) : own_In (((v224 + (64 : Int32)) - (1 : Int32)) / (64 : Int32)) v226 := by
  unfold own_In
  generalize hex1 : (p0 &&& (255 : Int32)) = ex1 at *
  generalize hex2 : ((1 : Int32) + ex1) = ex2 at *
  generalize hex3 : (p2 &&& (2147483647 : Int32)) = ex3 at *
  generalize hex4 : (ex3 % v224) = ex4 at *
  generalize hex5 : (v226 / (64 : Int32)) = ex5 at *
  generalize hex6 : (v224 + (64 : Int32)) = ex6 at *
  generalize hex7 : (ex6 - (1 : Int32)) = ex7 at *
  generalize hex8 : (ex7 / (64 : Int32)) = ex8 at *
  try simp only [Int32.reduceAdd, Int32.reduceSub, Int32.reduceMul, Int64.reduceAdd, Int64.reduceSub, Int64.reduceMul, Int32.lt_iff_toInt_lt, Int64.lt_iff_toInt_lt, ← Int32.toInt_inj, ← Int64.toInt_inj, Int32.reduceToInt, Int64.reduceToInt, not_true_eq_false, not_false_eq_true, false_and, and_false, true_and, and_true, false_or, or_false, true_or, or_true] at hv224
  try simp only [Int32.reduceAdd, Int32.reduceSub, Int32.reduceMul, Int64.reduceAdd, Int64.reduceSub, Int64.reduceMul, Int32.lt_iff_toInt_lt, Int64.lt_iff_toInt_lt, ← Int32.toInt_inj, ← Int64.toInt_inj, Int32.reduceToInt, Int64.reduceToInt, not_true_eq_false, not_false_eq_true, false_and, and_false, true_and, and_true, false_or, or_false, true_or, or_true] at hv226
  try simp only [Int32.reduceAdd, Int32.reduceSub, Int32.reduceMul, Int64.reduceAdd, Int64.reduceSub, Int64.reduceMul, Int32.lt_iff_toInt_lt, Int64.lt_iff_toInt_lt, ← Int32.toInt_inj, ← Int64.toInt_inj, Int32.reduceToInt, Int64.reduceToInt, not_true_eq_false, not_false_eq_true, false_and, and_false, true_and, and_true, false_or, or_false, true_or, or_true] at hq248
  try simp only [Int32.reduceAdd, Int32.reduceSub, Int32.reduceMul, Int64.reduceAdd, Int64.reduceSub, Int64.reduceMul, Int32.lt_iff_toInt_lt, Int64.lt_iff_toInt_lt, ← Int32.toInt_inj, ← Int64.toInt_inj, Int32.reduceToInt, Int64.reduceToInt, not_true_eq_false, not_false_eq_true, false_and, and_false, true_and, and_true, false_or, or_false, true_or, or_true]
  have := Int32.le_toInt p0; have := Int32.toInt_lt p0
  have := Int32.le_toInt p2; have := Int32.toInt_lt p2
  have := Int32.le_toInt v224; have := Int32.toInt_lt v224
  have := Int32.le_toInt v226; have := Int32.toInt_lt v226
  have bl1 := Int32.le_toInt ex1; have bu1 := Int32.toInt_lt ex1
  have fa1 := c_mask p0 (255 : Int32) 8 (by decide) (by decide); rw [hex1] at fa1; try simp only [Int32.reduceAdd, Int32.reduceSub, Int32.reduceToInt, Int64.reduceToInt] at fa1
  clear hex1
  have bl2 := Int32.le_toInt ex2; have bu2 := Int32.toInt_lt ex2
  have fa2 := c_iadd (1 : Int32) ex1; rw [hex2] at fa2; try simp only [Int32.reduceAdd, Int32.reduceSub, Int32.reduceToInt, Int64.reduceToInt] at fa2
  clear hex2
  have bl3 := Int32.le_toInt ex3; have bu3 := Int32.toInt_lt ex3
  have fa3 := c_mask p2 (2147483647 : Int32) 31 (by decide) (by decide); rw [hex3] at fa3; try simp only [Int32.reduceAdd, Int32.reduceSub, Int32.reduceToInt, Int64.reduceToInt] at fa3
  clear hex3
  have bl4 := Int32.le_toInt ex4; have bu4 := Int32.toInt_lt ex4
  have fa4 := c_iremV ex3 v224; rw [hex4] at fa4; try simp only [Int32.reduceAdd, Int32.reduceSub, Int32.reduceToInt, Int64.reduceToInt] at fa4
  first | (have fb4 := fa4.1 (by omega) (by omega); clear fa4) | (have fb4 := fa4.2 (by omega) (by omega); clear fa4) | skip
  clear hex4
  have bl5 := Int32.le_toInt ex5; have bu5 := Int32.toInt_lt ex5
  have fa5 := c_idiv v226 (64 : Int32) (64) (by decide) (by decide); rw [hex5] at fa5; try simp only [Int32.reduceAdd, Int32.reduceSub, Int32.reduceToInt, Int64.reduceToInt] at fa5
  first | (have fb5 := fa5.1 (by omega); clear fa5) | (have fb5 := fa5.2 (by omega); clear fa5) | skip
  clear hex5
  have bl6 := Int32.le_toInt ex6; have bu6 := Int32.toInt_lt ex6
  have fa6 := c_iadd v224 (64 : Int32); rw [hex6] at fa6; try simp only [Int32.reduceAdd, Int32.reduceSub, Int32.reduceToInt, Int64.reduceToInt] at fa6
  clear hex6
  have bl7 := Int32.le_toInt ex7; have bu7 := Int32.toInt_lt ex7
  have fa7 := c_isub ex6 (1 : Int32); rw [hex7] at fa7; try simp only [Int32.reduceAdd, Int32.reduceSub, Int32.reduceToInt, Int64.reduceToInt] at fa7
  clear hex7
  have bl8 := Int32.le_toInt ex8; have bu8 := Int32.toInt_lt ex8
  have fa8 := c_idiv ex7 (64 : Int32) (64) (by decide) (by decide); rw [hex8] at fa8; try simp only [Int32.reduceAdd, Int32.reduceSub, Int32.reduceToInt, Int64.reduceToInt] at fa8
  first | (have fb8 := fa8.1 (by omega); clear fa8) | (have fb8 := fa8.2 (by omega); clear fa8) | skip
  clear hex8
  all_goals omega
set_option maxRecDepth 65536 in
set_option maxHeartbeats 40000000 in
theorem own_side318 (p0 : Int32) (v224 : Int32) (hv224 : v224 = ((1 : Int32) + (p0 &&& (255 : Int32)))) (hq248 : mm243 ≠ bb244) : ¬ ((4 : Int32) < (((v224 + (64 : Int32)) - (1 : Int32)) / (64 : Int32))) := by
  generalize hex1 : (p0 &&& (255 : Int32)) = ex1 at *
  generalize hex2 : ((1 : Int32) + ex1) = ex2 at *
  generalize hex3 : (v224 + (64 : Int32)) = ex3 at *
  generalize hex4 : (ex3 - (1 : Int32)) = ex4 at *
  generalize hex5 : (ex4 / (64 : Int32)) = ex5 at *
  try simp only [Int32.reduceAdd, Int32.reduceSub, Int32.reduceMul, Int64.reduceAdd, Int64.reduceSub, Int64.reduceMul, Int32.lt_iff_toInt_lt, Int64.lt_iff_toInt_lt, ← Int32.toInt_inj, ← Int64.toInt_inj, Int32.reduceToInt, Int64.reduceToInt, not_true_eq_false, not_false_eq_true, false_and, and_false, true_and, and_true, false_or, or_false, true_or, or_true] at hv224
  try simp only [Int32.reduceAdd, Int32.reduceSub, Int32.reduceMul, Int64.reduceAdd, Int64.reduceSub, Int64.reduceMul, Int32.lt_iff_toInt_lt, Int64.lt_iff_toInt_lt, ← Int32.toInt_inj, ← Int64.toInt_inj, Int32.reduceToInt, Int64.reduceToInt, not_true_eq_false, not_false_eq_true, false_and, and_false, true_and, and_true, false_or, or_false, true_or, or_true] at hq248
  try simp only [Int32.reduceAdd, Int32.reduceSub, Int32.reduceMul, Int64.reduceAdd, Int64.reduceSub, Int64.reduceMul, Int32.lt_iff_toInt_lt, Int64.lt_iff_toInt_lt, ← Int32.toInt_inj, ← Int64.toInt_inj, Int32.reduceToInt, Int64.reduceToInt, not_true_eq_false, not_false_eq_true, false_and, and_false, true_and, and_true, false_or, or_false, true_or, or_true]
  have := Int32.le_toInt p0; have := Int32.toInt_lt p0
  have := Int32.le_toInt v224; have := Int32.toInt_lt v224
  have bl1 := Int32.le_toInt ex1; have bu1 := Int32.toInt_lt ex1
  have fa1 := c_mask p0 (255 : Int32) 8 (by decide) (by decide); rw [hex1] at fa1; try simp only [Int32.reduceAdd, Int32.reduceSub, Int32.reduceToInt, Int64.reduceToInt] at fa1
  clear hex1
  have bl2 := Int32.le_toInt ex2; have bu2 := Int32.toInt_lt ex2
  have fa2 := c_iadd (1 : Int32) ex1; rw [hex2] at fa2; try simp only [Int32.reduceAdd, Int32.reduceSub, Int32.reduceToInt, Int64.reduceToInt] at fa2
  clear hex2
  have bl3 := Int32.le_toInt ex3; have bu3 := Int32.toInt_lt ex3
  have fa3 := c_iadd v224 (64 : Int32); rw [hex3] at fa3; try simp only [Int32.reduceAdd, Int32.reduceSub, Int32.reduceToInt, Int64.reduceToInt] at fa3
  clear hex3
  have bl4 := Int32.le_toInt ex4; have bu4 := Int32.toInt_lt ex4
  have fa4 := c_isub ex3 (1 : Int32); rw [hex4] at fa4; try simp only [Int32.reduceAdd, Int32.reduceSub, Int32.reduceToInt, Int64.reduceToInt] at fa4
  clear hex4
  have bl5 := Int32.le_toInt ex5; have bu5 := Int32.toInt_lt ex5
  have fa5 := c_idiv ex4 (64 : Int32) (64) (by decide) (by decide); rw [hex5] at fa5; try simp only [Int32.reduceAdd, Int32.reduceSub, Int32.reduceToInt, Int64.reduceToInt] at fa5
  first | (have fb5 := fa5.1 (by omega); clear fa5) | (have fb5 := fa5.2 (by omega); clear fa5) | skip
  clear hex5
  all_goals omega
set_option maxRecDepth 65536 in
set_option maxHeartbeats 40000000 in
theorem own_side336 (p1 : Int32) (v233 : Int32) (hv233 : v233 = (p1 &&& (3 : Int32))) (hq248 : mm243 ≠ bb244) (hc258 : ¬ (v233 < (1 : Int32))) (hc335 : v233 < (2 : Int32)) : v233 < (3 : Int32) := by
  generalize hex1 : (p1 &&& (3 : Int32)) = ex1 at *
  try simp only [Int32.reduceAdd, Int32.reduceSub, Int32.reduceMul, Int64.reduceAdd, Int64.reduceSub, Int64.reduceMul, Int32.lt_iff_toInt_lt, Int64.lt_iff_toInt_lt, ← Int32.toInt_inj, ← Int64.toInt_inj, Int32.reduceToInt, Int64.reduceToInt, not_true_eq_false, not_false_eq_true, false_and, and_false, true_and, and_true, false_or, or_false, true_or, or_true] at hv233
  try simp only [Int32.reduceAdd, Int32.reduceSub, Int32.reduceMul, Int64.reduceAdd, Int64.reduceSub, Int64.reduceMul, Int32.lt_iff_toInt_lt, Int64.lt_iff_toInt_lt, ← Int32.toInt_inj, ← Int64.toInt_inj, Int32.reduceToInt, Int64.reduceToInt, not_true_eq_false, not_false_eq_true, false_and, and_false, true_and, and_true, false_or, or_false, true_or, or_true] at hq248
  try simp only [Int32.reduceAdd, Int32.reduceSub, Int32.reduceMul, Int64.reduceAdd, Int64.reduceSub, Int64.reduceMul, Int32.lt_iff_toInt_lt, Int64.lt_iff_toInt_lt, ← Int32.toInt_inj, ← Int64.toInt_inj, Int32.reduceToInt, Int64.reduceToInt, not_true_eq_false, not_false_eq_true, false_and, and_false, true_and, and_true, false_or, or_false, true_or, or_true] at hc258
  try simp only [Int32.reduceAdd, Int32.reduceSub, Int32.reduceMul, Int64.reduceAdd, Int64.reduceSub, Int64.reduceMul, Int32.lt_iff_toInt_lt, Int64.lt_iff_toInt_lt, ← Int32.toInt_inj, ← Int64.toInt_inj, Int32.reduceToInt, Int64.reduceToInt, not_true_eq_false, not_false_eq_true, false_and, and_false, true_and, and_true, false_or, or_false, true_or, or_true] at hc335
  try simp only [Int32.reduceAdd, Int32.reduceSub, Int32.reduceMul, Int64.reduceAdd, Int64.reduceSub, Int64.reduceMul, Int32.lt_iff_toInt_lt, Int64.lt_iff_toInt_lt, ← Int32.toInt_inj, ← Int64.toInt_inj, Int32.reduceToInt, Int64.reduceToInt, not_true_eq_false, not_false_eq_true, false_and, and_false, true_and, and_true, false_or, or_false, true_or, or_true]
  have := Int32.le_toInt p1; have := Int32.toInt_lt p1
  have := Int32.le_toInt v233; have := Int32.toInt_lt v233
  have bl1 := Int32.le_toInt ex1; have bu1 := Int32.toInt_lt ex1
  have fa1 := c_mask p1 (3 : Int32) 2 (by decide) (by decide); rw [hex1] at fa1; try simp only [Int32.reduceAdd, Int32.reduceSub, Int32.reduceToInt, Int64.reduceToInt] at fa1
  clear hex1
  all_goals omega
set_option maxRecDepth 65536 in
set_option maxHeartbeats 40000000 in
theorem own_side339 (p0 : Int32) (v224 : Int32) (hv224 : v224 = ((1 : Int32) + (p0 &&& (255 : Int32)))) (hq248 : mm243 ≠ bb244) : ¬ ((4 : Int32) < (((v224 + (64 : Int32)) - (1 : Int32)) / (64 : Int32))) := by
  generalize hex1 : (p0 &&& (255 : Int32)) = ex1 at *
  generalize hex2 : ((1 : Int32) + ex1) = ex2 at *
  generalize hex3 : (v224 + (64 : Int32)) = ex3 at *
  generalize hex4 : (ex3 - (1 : Int32)) = ex4 at *
  generalize hex5 : (ex4 / (64 : Int32)) = ex5 at *
  try simp only [Int32.reduceAdd, Int32.reduceSub, Int32.reduceMul, Int64.reduceAdd, Int64.reduceSub, Int64.reduceMul, Int32.lt_iff_toInt_lt, Int64.lt_iff_toInt_lt, ← Int32.toInt_inj, ← Int64.toInt_inj, Int32.reduceToInt, Int64.reduceToInt, not_true_eq_false, not_false_eq_true, false_and, and_false, true_and, and_true, false_or, or_false, true_or, or_true] at hv224
  try simp only [Int32.reduceAdd, Int32.reduceSub, Int32.reduceMul, Int64.reduceAdd, Int64.reduceSub, Int64.reduceMul, Int32.lt_iff_toInt_lt, Int64.lt_iff_toInt_lt, ← Int32.toInt_inj, ← Int64.toInt_inj, Int32.reduceToInt, Int64.reduceToInt, not_true_eq_false, not_false_eq_true, false_and, and_false, true_and, and_true, false_or, or_false, true_or, or_true] at hq248
  try simp only [Int32.reduceAdd, Int32.reduceSub, Int32.reduceMul, Int64.reduceAdd, Int64.reduceSub, Int64.reduceMul, Int32.lt_iff_toInt_lt, Int64.lt_iff_toInt_lt, ← Int32.toInt_inj, ← Int64.toInt_inj, Int32.reduceToInt, Int64.reduceToInt, not_true_eq_false, not_false_eq_true, false_and, and_false, true_and, and_true, false_or, or_false, true_or, or_true]
  have := Int32.le_toInt p0; have := Int32.toInt_lt p0
  have := Int32.le_toInt v224; have := Int32.toInt_lt v224
  have bl1 := Int32.le_toInt ex1; have bu1 := Int32.toInt_lt ex1
  have fa1 := c_mask p0 (255 : Int32) 8 (by decide) (by decide); rw [hex1] at fa1; try simp only [Int32.reduceAdd, Int32.reduceSub, Int32.reduceToInt, Int64.reduceToInt] at fa1
  clear hex1
  have bl2 := Int32.le_toInt ex2; have bu2 := Int32.toInt_lt ex2
  have fa2 := c_iadd (1 : Int32) ex1; rw [hex2] at fa2; try simp only [Int32.reduceAdd, Int32.reduceSub, Int32.reduceToInt, Int64.reduceToInt] at fa2
  clear hex2
  have bl3 := Int32.le_toInt ex3; have bu3 := Int32.toInt_lt ex3
  have fa3 := c_iadd v224 (64 : Int32); rw [hex3] at fa3; try simp only [Int32.reduceAdd, Int32.reduceSub, Int32.reduceToInt, Int64.reduceToInt] at fa3
  clear hex3
  have bl4 := Int32.le_toInt ex4; have bu4 := Int32.toInt_lt ex4
  have fa4 := c_isub ex3 (1 : Int32); rw [hex4] at fa4; try simp only [Int32.reduceAdd, Int32.reduceSub, Int32.reduceToInt, Int64.reduceToInt] at fa4
  clear hex4
  have bl5 := Int32.le_toInt ex5; have bu5 := Int32.toInt_lt ex5
  have fa5 := c_idiv ex4 (64 : Int32) (64) (by decide) (by decide); rw [hex5] at fa5; try simp only [Int32.reduceAdd, Int32.reduceSub, Int32.reduceToInt, Int64.reduceToInt] at fa5
  first | (have fb5 := fa5.1 (by omega); clear fa5) | (have fb5 := fa5.2 (by omega); clear fa5) | skip
  clear hex5
  all_goals omega
set_option maxRecDepth 65536 in
set_option maxHeartbeats 40000000 in
theorem own_side354 (p0 : Int32) (p2 : Int32) (v224 : Int32) (hv224 : v224 = ((1 : Int32) + (p0 &&& (255 : Int32)))) (v226 : Int32) (hv226 : v226 = ((p2 &&& (2147483647 : Int32)) % v224)) (hq248 : mm243 ≠ bb244) : own_In (((v224 + (64 : Int32)) - (1 : Int32)) / (64 : Int32)) v226 := by
  unfold own_In
  generalize hex1 : (p0 &&& (255 : Int32)) = ex1 at *
  generalize hex2 : ((1 : Int32) + ex1) = ex2 at *
  generalize hex3 : (p2 &&& (2147483647 : Int32)) = ex3 at *
  generalize hex4 : (ex3 % v224) = ex4 at *
  generalize hex5 : (v226 / (64 : Int32)) = ex5 at *
  generalize hex6 : (v224 + (64 : Int32)) = ex6 at *
  generalize hex7 : (ex6 - (1 : Int32)) = ex7 at *
  generalize hex8 : (ex7 / (64 : Int32)) = ex8 at *
  try simp only [Int32.reduceAdd, Int32.reduceSub, Int32.reduceMul, Int64.reduceAdd, Int64.reduceSub, Int64.reduceMul, Int32.lt_iff_toInt_lt, Int64.lt_iff_toInt_lt, ← Int32.toInt_inj, ← Int64.toInt_inj, Int32.reduceToInt, Int64.reduceToInt, not_true_eq_false, not_false_eq_true, false_and, and_false, true_and, and_true, false_or, or_false, true_or, or_true] at hv224
  try simp only [Int32.reduceAdd, Int32.reduceSub, Int32.reduceMul, Int64.reduceAdd, Int64.reduceSub, Int64.reduceMul, Int32.lt_iff_toInt_lt, Int64.lt_iff_toInt_lt, ← Int32.toInt_inj, ← Int64.toInt_inj, Int32.reduceToInt, Int64.reduceToInt, not_true_eq_false, not_false_eq_true, false_and, and_false, true_and, and_true, false_or, or_false, true_or, or_true] at hv226
  try simp only [Int32.reduceAdd, Int32.reduceSub, Int32.reduceMul, Int64.reduceAdd, Int64.reduceSub, Int64.reduceMul, Int32.lt_iff_toInt_lt, Int64.lt_iff_toInt_lt, ← Int32.toInt_inj, ← Int64.toInt_inj, Int32.reduceToInt, Int64.reduceToInt, not_true_eq_false, not_false_eq_true, false_and, and_false, true_and, and_true, false_or, or_false, true_or, or_true] at hq248
  try simp only [Int32.reduceAdd, Int32.reduceSub, Int32.reduceMul, Int64.reduceAdd, Int64.reduceSub, Int64.reduceMul, Int32.lt_iff_toInt_lt, Int64.lt_iff_toInt_lt, ← Int32.toInt_inj, ← Int64.toInt_inj, Int32.reduceToInt, Int64.reduceToInt, not_true_eq_false, not_false_eq_true, false_and, and_false, true_and, and_true, false_or, or_false, true_or, or_true]
  have := Int32.le_toInt p0; have := Int32.toInt_lt p0
  have := Int32.le_toInt p2; have := Int32.toInt_lt p2
  have := Int32.le_toInt v224; have := Int32.toInt_lt v224
  have := Int32.le_toInt v226; have := Int32.toInt_lt v226
  have bl1 := Int32.le_toInt ex1; have bu1 := Int32.toInt_lt ex1
  have fa1 := c_mask p0 (255 : Int32) 8 (by decide) (by decide); rw [hex1] at fa1; try simp only [Int32.reduceAdd, Int32.reduceSub, Int32.reduceToInt, Int64.reduceToInt] at fa1
  clear hex1
  have bl2 := Int32.le_toInt ex2; have bu2 := Int32.toInt_lt ex2
  have fa2 := c_iadd (1 : Int32) ex1; rw [hex2] at fa2; try simp only [Int32.reduceAdd, Int32.reduceSub, Int32.reduceToInt, Int64.reduceToInt] at fa2
  clear hex2
  have bl3 := Int32.le_toInt ex3; have bu3 := Int32.toInt_lt ex3
  have fa3 := c_mask p2 (2147483647 : Int32) 31 (by decide) (by decide); rw [hex3] at fa3; try simp only [Int32.reduceAdd, Int32.reduceSub, Int32.reduceToInt, Int64.reduceToInt] at fa3
  clear hex3
  have bl4 := Int32.le_toInt ex4; have bu4 := Int32.toInt_lt ex4
  have fa4 := c_iremV ex3 v224; rw [hex4] at fa4; try simp only [Int32.reduceAdd, Int32.reduceSub, Int32.reduceToInt, Int64.reduceToInt] at fa4
  first | (have fb4 := fa4.1 (by omega) (by omega); clear fa4) | (have fb4 := fa4.2 (by omega) (by omega); clear fa4) | skip
  clear hex4
  have bl5 := Int32.le_toInt ex5; have bu5 := Int32.toInt_lt ex5
  have fa5 := c_idiv v226 (64 : Int32) (64) (by decide) (by decide); rw [hex5] at fa5; try simp only [Int32.reduceAdd, Int32.reduceSub, Int32.reduceToInt, Int64.reduceToInt] at fa5
  first | (have fb5 := fa5.1 (by omega); clear fa5) | (have fb5 := fa5.2 (by omega); clear fa5) | skip
  clear hex5
  have bl6 := Int32.le_toInt ex6; have bu6 := Int32.toInt_lt ex6
  have fa6 := c_iadd v224 (64 : Int32); rw [hex6] at fa6; try simp only [Int32.reduceAdd, Int32.reduceSub, Int32.reduceToInt, Int64.reduceToInt] at fa6
  clear hex6
  have bl7 := Int32.le_toInt ex7; have bu7 := Int32.toInt_lt ex7
  have fa7 := c_isub ex6 (1 : Int32); rw [hex7] at fa7; try simp only [Int32.reduceAdd, Int32.reduceSub, Int32.reduceToInt, Int64.reduceToInt] at fa7
  clear hex7
  have bl8 := Int32.le_toInt ex8; have bu8 := Int32.toInt_lt ex8
  have fa8 := c_idiv ex7 (64 : Int32) (64) (by decide) (by decide); rw [hex8] at fa8; try simp only [Int32.reduceAdd, Int32.reduceSub, Int32.reduceToInt, Int64.reduceToInt] at fa8
  first | (have fb8 := fa8.1 (by omega); clear fa8) | (have fb8 := fa8.2 (by omega); clear fa8) | skip
  clear hex8
  all_goals omega
set_option maxRecDepth 65536 in
set_option maxHeartbeats 40000000 in
theorem own_side355 (p0 : Int32) (v224 : Int32) (hv224 : v224 = ((1 : Int32) + (p0 &&& (255 : Int32)))) (hq248 : mm243 ≠ bb244) : ¬ ((4 : Int32) < (((v224 + (64 : Int32)) - (1 : Int32)) / (64 : Int32))) := by
  generalize hex1 : (p0 &&& (255 : Int32)) = ex1 at *
  generalize hex2 : ((1 : Int32) + ex1) = ex2 at *
  generalize hex3 : (v224 + (64 : Int32)) = ex3 at *
  generalize hex4 : (ex3 - (1 : Int32)) = ex4 at *
  generalize hex5 : (ex4 / (64 : Int32)) = ex5 at *
  try simp only [Int32.reduceAdd, Int32.reduceSub, Int32.reduceMul, Int64.reduceAdd, Int64.reduceSub, Int64.reduceMul, Int32.lt_iff_toInt_lt, Int64.lt_iff_toInt_lt, ← Int32.toInt_inj, ← Int64.toInt_inj, Int32.reduceToInt, Int64.reduceToInt, not_true_eq_false, not_false_eq_true, false_and, and_false, true_and, and_true, false_or, or_false, true_or, or_true] at hv224
  try simp only [Int32.reduceAdd, Int32.reduceSub, Int32.reduceMul, Int64.reduceAdd, Int64.reduceSub, Int64.reduceMul, Int32.lt_iff_toInt_lt, Int64.lt_iff_toInt_lt, ← Int32.toInt_inj, ← Int64.toInt_inj, Int32.reduceToInt, Int64.reduceToInt, not_true_eq_false, not_false_eq_true, false_and, and_false, true_and, and_true, false_or, or_false, true_or, or_true] at hq248
  try simp only [Int32.reduceAdd, Int32.reduceSub, Int32.reduceMul, Int64.reduceAdd, Int64.reduceSub, Int64.reduceMul, Int32.lt_iff_toInt_lt, Int64.lt_iff_toInt_lt, ← Int32.toInt_inj, ← Int64.toInt_inj, Int32.reduceToInt, Int64.reduceToInt, not_true_eq_false, not_false_eq_true, false_and, and_false, true_and, and_true, false_or, or_false, true_or, or_true]
  have := Int32.le_toInt p0; have := Int32.toInt_lt p0
  have := Int32.le_toInt v224; have := Int32.toInt_lt v224
  have bl1 := Int32.le_toInt ex1; have bu1 := Int32.toInt_lt ex1
  have fa1 := c_mask p0 (255 : Int32) 8 (by decide) (by decide); rw [hex1] at fa1; try simp only [Int32.reduceAdd, Int32.reduceSub, Int32.reduceToInt, Int64.reduceToInt] at fa1
  clear hex1
  have bl2 := Int32.le_toInt ex2; have bu2 := Int32.toInt_lt ex2
  have fa2 := c_iadd (1 : Int32) ex1; rw [hex2] at fa2; try simp only [Int32.reduceAdd, Int32.reduceSub, Int32.reduceToInt, Int64.reduceToInt] at fa2
  clear hex2
  have bl3 := Int32.le_toInt ex3; have bu3 := Int32.toInt_lt ex3
  have fa3 := c_iadd v224 (64 : Int32); rw [hex3] at fa3; try simp only [Int32.reduceAdd, Int32.reduceSub, Int32.reduceToInt, Int64.reduceToInt] at fa3
  clear hex3
  have bl4 := Int32.le_toInt ex4; have bu4 := Int32.toInt_lt ex4
  have fa4 := c_isub ex3 (1 : Int32); rw [hex4] at fa4; try simp only [Int32.reduceAdd, Int32.reduceSub, Int32.reduceToInt, Int64.reduceToInt] at fa4
  clear hex4
  have bl5 := Int32.le_toInt ex5; have bu5 := Int32.toInt_lt ex5
  have fa5 := c_idiv ex4 (64 : Int32) (64) (by decide) (by decide); rw [hex5] at fa5; try simp only [Int32.reduceAdd, Int32.reduceSub, Int32.reduceToInt, Int64.reduceToInt] at fa5
  first | (have fb5 := fa5.1 (by omega); clear fa5) | (have fb5 := fa5.2 (by omega); clear fa5) | skip
  clear hex5
  all_goals omega
set_option maxRecDepth 65536 in
set_option maxHeartbeats 40000000 in
theorem own_side359 (p0 : Int32) (p3 : Int32) (v224 : Int32) (hv224 : v224 = ((1 : Int32) + (p0 &&& (255 : Int32)))) (v228 : Int32) (hv228 : v228 = ((p3 &&& (2147483647 : Int32)) % v224)) (hq248 : mm243 ≠ bb244) : own_In (((v224 + (64 : Int32)) - (1 : Int32)) / (64 : Int32)) v228 := by
  unfold own_In
  generalize hex1 : (p0 &&& (255 : Int32)) = ex1 at *
  generalize hex2 : ((1 : Int32) + ex1) = ex2 at *
  generalize hex3 : (p3 &&& (2147483647 : Int32)) = ex3 at *
  generalize hex4 : (ex3 % v224) = ex4 at *
  generalize hex5 : (v228 / (64 : Int32)) = ex5 at *
  generalize hex6 : (v224 + (64 : Int32)) = ex6 at *
  generalize hex7 : (ex6 - (1 : Int32)) = ex7 at *
  generalize hex8 : (ex7 / (64 : Int32)) = ex8 at *
  try simp only [Int32.reduceAdd, Int32.reduceSub, Int32.reduceMul, Int64.reduceAdd, Int64.reduceSub, Int64.reduceMul, Int32.lt_iff_toInt_lt, Int64.lt_iff_toInt_lt, ← Int32.toInt_inj, ← Int64.toInt_inj, Int32.reduceToInt, Int64.reduceToInt, not_true_eq_false, not_false_eq_true, false_and, and_false, true_and, and_true, false_or, or_false, true_or, or_true] at hv224
  try simp only [Int32.reduceAdd, Int32.reduceSub, Int32.reduceMul, Int64.reduceAdd, Int64.reduceSub, Int64.reduceMul, Int32.lt_iff_toInt_lt, Int64.lt_iff_toInt_lt, ← Int32.toInt_inj, ← Int64.toInt_inj, Int32.reduceToInt, Int64.reduceToInt, not_true_eq_false, not_false_eq_true, false_and, and_false, true_and, and_true, false_or, or_false, true_or, or_true] at hv228
  try simp only [Int32.reduceAdd, Int32.reduceSub, Int32.reduceMul, Int64.reduceAdd, Int64.reduceSub, Int64.reduceMul, Int32.lt_iff_toInt_lt, Int64.lt_iff_toInt_lt, ← Int32.toInt_inj, ← Int64.toInt_inj, Int32.reduceToInt, Int64.reduceToInt, not_true_eq_false, not_false_eq_true, false_and, and_false, true_and, and_true, false_or, or_false, true_or, or_true] at hq248
  try simp only [Int32.reduceAdd, Int32.reduceSub, Int32.reduceMul, Int64.reduceAdd, Int64.reduceSub, Int64.reduceMul, Int32.lt_iff_toInt_lt, Int64.lt_iff_toInt_lt, ← Int32.toInt_inj, ← Int64.toInt_inj, Int32.reduceToInt, Int64.reduceToInt, not_true_eq_false, not_false_eq_true, false_and, and_false, true_and, and_true, false_or, or_false, true_or, or_true]
  have := Int32.le_toInt p0; have := Int32.toInt_lt p0
  have := Int32.le_toInt p3; have := Int32.toInt_lt p3
  have := Int32.le_toInt v224; have := Int32.toInt_lt v224
  have := Int32.le_toInt v228; have := Int32.toInt_lt v228
  have bl1 := Int32.le_toInt ex1; have bu1 := Int32.toInt_lt ex1
  have fa1 := c_mask p0 (255 : Int32) 8 (by decide) (by decide); rw [hex1] at fa1; try simp only [Int32.reduceAdd, Int32.reduceSub, Int32.reduceToInt, Int64.reduceToInt] at fa1
  clear hex1
  have bl2 := Int32.le_toInt ex2; have bu2 := Int32.toInt_lt ex2
  have fa2 := c_iadd (1 : Int32) ex1; rw [hex2] at fa2; try simp only [Int32.reduceAdd, Int32.reduceSub, Int32.reduceToInt, Int64.reduceToInt] at fa2
  clear hex2
  have bl3 := Int32.le_toInt ex3; have bu3 := Int32.toInt_lt ex3
  have fa3 := c_mask p3 (2147483647 : Int32) 31 (by decide) (by decide); rw [hex3] at fa3; try simp only [Int32.reduceAdd, Int32.reduceSub, Int32.reduceToInt, Int64.reduceToInt] at fa3
  clear hex3
  have bl4 := Int32.le_toInt ex4; have bu4 := Int32.toInt_lt ex4
  have fa4 := c_iremV ex3 v224; rw [hex4] at fa4; try simp only [Int32.reduceAdd, Int32.reduceSub, Int32.reduceToInt, Int64.reduceToInt] at fa4
  first | (have fb4 := fa4.1 (by omega) (by omega); clear fa4) | (have fb4 := fa4.2 (by omega) (by omega); clear fa4) | skip
  clear hex4
  have bl5 := Int32.le_toInt ex5; have bu5 := Int32.toInt_lt ex5
  have fa5 := c_idiv v228 (64 : Int32) (64) (by decide) (by decide); rw [hex5] at fa5; try simp only [Int32.reduceAdd, Int32.reduceSub, Int32.reduceToInt, Int64.reduceToInt] at fa5
  first | (have fb5 := fa5.1 (by omega); clear fa5) | (have fb5 := fa5.2 (by omega); clear fa5) | skip
  clear hex5
  have bl6 := Int32.le_toInt ex6; have bu6 := Int32.toInt_lt ex6
  have fa6 := c_iadd v224 (64 : Int32); rw [hex6] at fa6; try simp only [Int32.reduceAdd, Int32.reduceSub, Int32.reduceToInt, Int64.reduceToInt] at fa6
  clear hex6
  have bl7 := Int32.le_toInt ex7; have bu7 := Int32.toInt_lt ex7
  have fa7 := c_isub ex6 (1 : Int32); rw [hex7] at fa7; try simp only [Int32.reduceAdd, Int32.reduceSub, Int32.reduceToInt, Int64.reduceToInt] at fa7
  clear hex7
  have bl8 := Int32.le_toInt ex8; have bu8 := Int32.toInt_lt ex8
  have fa8 := c_idiv ex7 (64 : Int32) (64) (by decide) (by decide); rw [hex8] at fa8; try simp only [Int32.reduceAdd, Int32.reduceSub, Int32.reduceToInt, Int64.reduceToInt] at fa8
  first | (have fb8 := fa8.1 (by omega); clear fa8) | (have fb8 := fa8.2 (by omega); clear fa8) | skip
  clear hex8
  all_goals omega
set_option maxRecDepth 65536 in
set_option maxHeartbeats 40000000 in
theorem own_side360 (p0 : Int32) (v224 : Int32) (hv224 : v224 = ((1 : Int32) + (p0 &&& (255 : Int32)))) (hq248 : mm243 ≠ bb244) : ¬ ((4 : Int32) < (((v224 + (64 : Int32)) - (1 : Int32)) / (64 : Int32))) := by
  generalize hex1 : (p0 &&& (255 : Int32)) = ex1 at *
  generalize hex2 : ((1 : Int32) + ex1) = ex2 at *
  generalize hex3 : (v224 + (64 : Int32)) = ex3 at *
  generalize hex4 : (ex3 - (1 : Int32)) = ex4 at *
  generalize hex5 : (ex4 / (64 : Int32)) = ex5 at *
  try simp only [Int32.reduceAdd, Int32.reduceSub, Int32.reduceMul, Int64.reduceAdd, Int64.reduceSub, Int64.reduceMul, Int32.lt_iff_toInt_lt, Int64.lt_iff_toInt_lt, ← Int32.toInt_inj, ← Int64.toInt_inj, Int32.reduceToInt, Int64.reduceToInt, not_true_eq_false, not_false_eq_true, false_and, and_false, true_and, and_true, false_or, or_false, true_or, or_true] at hv224
  try simp only [Int32.reduceAdd, Int32.reduceSub, Int32.reduceMul, Int64.reduceAdd, Int64.reduceSub, Int64.reduceMul, Int32.lt_iff_toInt_lt, Int64.lt_iff_toInt_lt, ← Int32.toInt_inj, ← Int64.toInt_inj, Int32.reduceToInt, Int64.reduceToInt, not_true_eq_false, not_false_eq_true, false_and, and_false, true_and, and_true, false_or, or_false, true_or, or_true] at hq248
  try simp only [Int32.reduceAdd, Int32.reduceSub, Int32.reduceMul, Int64.reduceAdd, Int64.reduceSub, Int64.reduceMul, Int32.lt_iff_toInt_lt, Int64.lt_iff_toInt_lt, ← Int32.toInt_inj, ← Int64.toInt_inj, Int32.reduceToInt, Int64.reduceToInt, not_true_eq_false, not_false_eq_true, false_and, and_false, true_and, and_true, false_or, or_false, true_or, or_true]
  have := Int32.le_toInt p0; have := Int32.toInt_lt p0
  have := Int32.le_toInt v224; have := Int32.toInt_lt v224
  have bl1 := Int32.le_toInt ex1; have bu1 := Int32.toInt_lt ex1
  have fa1 := c_mask p0 (255 : Int32) 8 (by decide) (by decide); rw [hex1] at fa1; try simp only [Int32.reduceAdd, Int32.reduceSub, Int32.reduceToInt, Int64.reduceToInt] at fa1
  clear hex1
  have bl2 := Int32.le_toInt ex2; have bu2 := Int32.toInt_lt ex2
  have fa2 := c_iadd (1 : Int32) ex1; rw [hex2] at fa2; try simp only [Int32.reduceAdd, Int32.reduceSub, Int32.reduceToInt, Int64.reduceToInt] at fa2
  clear hex2
  have bl3 := Int32.le_toInt ex3; have bu3 := Int32.toInt_lt ex3
  have fa3 := c_iadd v224 (64 : Int32); rw [hex3] at fa3; try simp only [Int32.reduceAdd, Int32.reduceSub, Int32.reduceToInt, Int64.reduceToInt] at fa3
  clear hex3
  have bl4 := Int32.le_toInt ex4; have bu4 := Int32.toInt_lt ex4
  have fa4 := c_isub ex3 (1 : Int32); rw [hex4] at fa4; try simp only [Int32.reduceAdd, Int32.reduceSub, Int32.reduceToInt, Int64.reduceToInt] at fa4
  clear hex4
  have bl5 := Int32.le_toInt ex5; have bu5 := Int32.toInt_lt ex5
  have fa5 := c_idiv ex4 (64 : Int32) (64) (by decide) (by decide); rw [hex5] at fa5; try simp only [Int32.reduceAdd, Int32.reduceSub, Int32.reduceToInt, Int64.reduceToInt] at fa5
  first | (have fb5 := fa5.1 (by omega); clear fa5) | (have fb5 := fa5.2 (by omega); clear fa5) | skip
  clear hex5
  all_goals omega
set_option maxRecDepth 65536 in
set_option maxHeartbeats 40000000 in
theorem own_side364 (p0 : Int32) (p4 : Int32) (v224 : Int32) (hv224 : v224 = ((1 : Int32) + (p0 &&& (255 : Int32)))) (v230 : Int32) (hv230 : v230 = ((p4 &&& (2147483647 : Int32)) % v224)) (hq248 : mm243 ≠ bb244) : own_In (((v224 + (64 : Int32)) - (1 : Int32)) / (64 : Int32)) v230 := by
  unfold own_In
  generalize hex1 : (p0 &&& (255 : Int32)) = ex1 at *
  generalize hex2 : ((1 : Int32) + ex1) = ex2 at *
  generalize hex3 : (p4 &&& (2147483647 : Int32)) = ex3 at *
  generalize hex4 : (ex3 % v224) = ex4 at *
  generalize hex5 : (v230 / (64 : Int32)) = ex5 at *
  generalize hex6 : (v224 + (64 : Int32)) = ex6 at *
  generalize hex7 : (ex6 - (1 : Int32)) = ex7 at *
  generalize hex8 : (ex7 / (64 : Int32)) = ex8 at *
  try simp only [Int32.reduceAdd, Int32.reduceSub, Int32.reduceMul, Int64.reduceAdd, Int64.reduceSub, Int64.reduceMul, Int32.lt_iff_toInt_lt, Int64.lt_iff_toInt_lt, ← Int32.toInt_inj, ← Int64.toInt_inj, Int32.reduceToInt, Int64.reduceToInt, not_true_eq_false, not_false_eq_true, false_and, and_false, true_and, and_true, false_or, or_false, true_or, or_true] at hv224
  try simp only [Int32.reduceAdd, Int32.reduceSub, Int32.reduceMul, Int64.reduceAdd, Int64.reduceSub, Int64.reduceMul, Int32.lt_iff_toInt_lt, Int64.lt_iff_toInt_lt, ← Int32.toInt_inj, ← Int64.toInt_inj, Int32.reduceToInt, Int64.reduceToInt, not_true_eq_false, not_false_eq_true, false_and, and_false, true_and, and_true, false_or, or_false, true_or, or_true] at hv230
  try simp only [Int32.reduceAdd, Int32.reduceSub, Int32.reduceMul, Int64.reduceAdd, Int64.reduceSub, Int64.reduceMul, Int32.lt_iff_toInt_lt, Int64.lt_iff_toInt_lt, ← Int32.toInt_inj, ← Int64.toInt_inj, Int32.reduceToInt, Int64.reduceToInt, not_true_eq_false, not_false_eq_true, false_and, and_false, true_and, and_true, false_or, or_false, true_or, or_true] at hq248
  try simp only [Int32.reduceAdd, Int32.reduceSub, Int32.reduceMul, Int64.reduceAdd, Int64.reduceSub, Int64.reduceMul, Int32.lt_iff_toInt_lt, Int64.lt_iff_toInt_lt, ← Int32.toInt_inj, ← Int64.toInt_inj, Int32.reduceToInt, Int64.reduceToInt, not_true_eq_false, not_false_eq_true, false_and, and_false, true_and, and_true, false_or, or_false, true_or, or_true]
  have := Int32.le_toInt p0; have := Int32.toInt_lt p0
  have := Int32.le_toInt p4; have := Int32.toInt_lt p4
  have := Int32.le_toInt v224; have := Int32.toInt_lt v224
  have := Int32.le_toInt v230; have := Int32.toInt_lt v230
  have bl1 := Int32.le_toInt ex1; have bu1 := Int32.toInt_lt ex1
  have fa1 := c_mask p0 (255 : Int32) 8 (by decide) (by decide); rw [hex1] at fa1; try simp only [Int32.reduceAdd, Int32.reduceSub, Int32.reduceToInt, Int64.reduceToInt] at fa1
  clear hex1
  have bl2 := Int32.le_toInt ex2; have bu2 := Int32.toInt_lt ex2
  have fa2 := c_iadd (1 : Int32) ex1; rw [hex2] at fa2; try simp only [Int32.reduceAdd, Int32.reduceSub, Int32.reduceToInt, Int64.reduceToInt] at fa2
  clear hex2
  have bl3 := Int32.le_toInt ex3; have bu3 := Int32.toInt_lt ex3
  have fa3 := c_mask p4 (2147483647 : Int32) 31 (by decide) (by decide); rw [hex3] at fa3; try simp only [Int32.reduceAdd, Int32.reduceSub, Int32.reduceToInt, Int64.reduceToInt] at fa3
  clear hex3
  have bl4 := Int32.le_toInt ex4; have bu4 := Int32.toInt_lt ex4
  have fa4 := c_iremV ex3 v224; rw [hex4] at fa4; try simp only [Int32.reduceAdd, Int32.reduceSub, Int32.reduceToInt, Int64.reduceToInt] at fa4
  first | (have fb4 := fa4.1 (by omega) (by omega); clear fa4) | (have fb4 := fa4.2 (by omega) (by omega); clear fa4) | skip
  clear hex4
  have bl5 := Int32.le_toInt ex5; have bu5 := Int32.toInt_lt ex5
  have fa5 := c_idiv v230 (64 : Int32) (64) (by decide) (by decide); rw [hex5] at fa5; try simp only [Int32.reduceAdd, Int32.reduceSub, Int32.reduceToInt, Int64.reduceToInt] at fa5
  first | (have fb5 := fa5.1 (by omega); clear fa5) | (have fb5 := fa5.2 (by omega); clear fa5) | skip
  clear hex5
  have bl6 := Int32.le_toInt ex6; have bu6 := Int32.toInt_lt ex6
  have fa6 := c_iadd v224 (64 : Int32); rw [hex6] at fa6; try simp only [Int32.reduceAdd, Int32.reduceSub, Int32.reduceToInt, Int64.reduceToInt] at fa6
  clear hex6
  have bl7 := Int32.le_toInt ex7; have bu7 := Int32.toInt_lt ex7
  have fa7 := c_isub ex6 (1 : Int32); rw [hex7] at fa7; try simp only [Int32.reduceAdd, Int32.reduceSub, Int32.reduceToInt, Int64.reduceToInt] at fa7
  clear hex7
  have bl8 := Int32.le_toInt ex8; have bu8 := Int32.toInt_lt ex8
  have fa8 := c_idiv ex7 (64 : Int32) (64) (by decide) (by decide); rw [hex8] at fa8; try simp only [Int32.reduceAdd, Int32.reduceSub, Int32.reduceToInt, Int64.reduceToInt] at fa8
  first | (have fb8 := fa8.1 (by omega); clear fa8) | (have fb8 := fa8.2 (by omega); clear fa8) | skip
  clear hex8
  all_goals omega
set_option maxRecDepth 65536 in
set_option maxHeartbeats 40000000 in
theorem own_side365 (p0 : Int32) (v224 : Int32) (hv224 : v224 = ((1 : Int32) + (p0 &&& (255 : Int32)))) (hq248 : mm243 ≠ bb244) : ¬ ((4 : Int32) < (((v224 + (64 : Int32)) - (1 : Int32)) / (64 : Int32))) := by
  generalize hex1 : (p0 &&& (255 : Int32)) = ex1 at *
  generalize hex2 : ((1 : Int32) + ex1) = ex2 at *
  generalize hex3 : (v224 + (64 : Int32)) = ex3 at *
  generalize hex4 : (ex3 - (1 : Int32)) = ex4 at *
  generalize hex5 : (ex4 / (64 : Int32)) = ex5 at *
  try simp only [Int32.reduceAdd, Int32.reduceSub, Int32.reduceMul, Int64.reduceAdd, Int64.reduceSub, Int64.reduceMul, Int32.lt_iff_toInt_lt, Int64.lt_iff_toInt_lt, ← Int32.toInt_inj, ← Int64.toInt_inj, Int32.reduceToInt, Int64.reduceToInt, not_true_eq_false, not_false_eq_true, false_and, and_false, true_and, and_true, false_or, or_false, true_or, or_true] at hv224
  try simp only [Int32.reduceAdd, Int32.reduceSub, Int32.reduceMul, Int64.reduceAdd, Int64.reduceSub, Int64.reduceMul, Int32.lt_iff_toInt_lt, Int64.lt_iff_toInt_lt, ← Int32.toInt_inj, ← Int64.toInt_inj, Int32.reduceToInt, Int64.reduceToInt, not_true_eq_false, not_false_eq_true, false_and, and_false, true_and, and_true, false_or, or_false, true_or, or_true] at hq248
  try simp only [Int32.reduceAdd, Int32.reduceSub, Int32.reduceMul, Int64.reduceAdd, Int64.reduceSub, Int64.reduceMul, Int32.lt_iff_toInt_lt, Int64.lt_iff_toInt_lt, ← Int32.toInt_inj, ← Int64.toInt_inj, Int32.reduceToInt, Int64.reduceToInt, not_true_eq_false, not_false_eq_true, false_and, and_false, true_and, and_true, false_or, or_false, true_or, or_true]
  have := Int32.le_toInt p0; have := Int32.toInt_lt p0
  have := Int32.le_toInt v224; have := Int32.toInt_lt v224
  have bl1 := Int32.le_toInt ex1; have bu1 := Int32.toInt_lt ex1
  have fa1 := c_mask p0 (255 : Int32) 8 (by decide) (by decide); rw [hex1] at fa1; try simp only [Int32.reduceAdd, Int32.reduceSub, Int32.reduceToInt, Int64.reduceToInt] at fa1
  clear hex1
  have bl2 := Int32.le_toInt ex2; have bu2 := Int32.toInt_lt ex2
  have fa2 := c_iadd (1 : Int32) ex1; rw [hex2] at fa2; try simp only [Int32.reduceAdd, Int32.reduceSub, Int32.reduceToInt, Int64.reduceToInt] at fa2
  clear hex2
  have bl3 := Int32.le_toInt ex3; have bu3 := Int32.toInt_lt ex3
  have fa3 := c_iadd v224 (64 : Int32); rw [hex3] at fa3; try simp only [Int32.reduceAdd, Int32.reduceSub, Int32.reduceToInt, Int64.reduceToInt] at fa3
  clear hex3
  have bl4 := Int32.le_toInt ex4; have bu4 := Int32.toInt_lt ex4
  have fa4 := c_isub ex3 (1 : Int32); rw [hex4] at fa4; try simp only [Int32.reduceAdd, Int32.reduceSub, Int32.reduceToInt, Int64.reduceToInt] at fa4
  clear hex4
  have bl5 := Int32.le_toInt ex5; have bu5 := Int32.toInt_lt ex5
  have fa5 := c_idiv ex4 (64 : Int32) (64) (by decide) (by decide); rw [hex5] at fa5; try simp only [Int32.reduceAdd, Int32.reduceSub, Int32.reduceToInt, Int64.reduceToInt] at fa5
  first | (have fb5 := fa5.1 (by omega); clear fa5) | (have fb5 := fa5.2 (by omega); clear fa5) | skip
  clear hex5
  all_goals omega
set_option maxRecDepth 65536 in
set_option maxHeartbeats 40000000 in
theorem own_side369 (p0 : Int32) (p5 : Int32) (v224 : Int32) (hv224 : v224 = ((1 : Int32) + (p0 &&& (255 : Int32)))) (v232 : Int32) (hv232 : v232 = ((p5 &&& (2147483647 : Int32)) % v224)) (hq248 : mm243 ≠ bb244) : own_In (((v224 + (64 : Int32)) - (1 : Int32)) / (64 : Int32)) v232 := by
  unfold own_In
  generalize hex1 : (p0 &&& (255 : Int32)) = ex1 at *
  generalize hex2 : ((1 : Int32) + ex1) = ex2 at *
  generalize hex3 : (p5 &&& (2147483647 : Int32)) = ex3 at *
  generalize hex4 : (ex3 % v224) = ex4 at *
  generalize hex5 : (v232 / (64 : Int32)) = ex5 at *
  generalize hex6 : (v224 + (64 : Int32)) = ex6 at *
  generalize hex7 : (ex6 - (1 : Int32)) = ex7 at *
  generalize hex8 : (ex7 / (64 : Int32)) = ex8 at *
  try simp only [Int32.reduceAdd, Int32.reduceSub, Int32.reduceMul, Int64.reduceAdd, Int64.reduceSub, Int64.reduceMul, Int32.lt_iff_toInt_lt, Int64.lt_iff_toInt_lt, ← Int32.toInt_inj, ← Int64.toInt_inj, Int32.reduceToInt, Int64.reduceToInt, not_true_eq_false, not_false_eq_true, false_and, and_false, true_and, and_true, false_or, or_false, true_or, or_true] at hv224
  try simp only [Int32.reduceAdd, Int32.reduceSub, Int32.reduceMul, Int64.reduceAdd, Int64.reduceSub, Int64.reduceMul, Int32.lt_iff_toInt_lt, Int64.lt_iff_toInt_lt, ← Int32.toInt_inj, ← Int64.toInt_inj, Int32.reduceToInt, Int64.reduceToInt, not_true_eq_false, not_false_eq_true, false_and, and_false, true_and, and_true, false_or, or_false, true_or, or_true] at hv232
  try simp only [Int32.reduceAdd, Int32.reduceSub, Int32.reduceMul, Int64.reduceAdd, Int64.reduceSub, Int64.reduceMul, Int32.lt_iff_toInt_lt, Int64.lt_iff_toInt_lt, ← Int32.toInt_inj, ← Int64.toInt_inj, Int32.reduceToInt, Int64.reduceToInt, not_true_eq_false, not_false_eq_true, false_and, and_false, true_and, and_true, false_or, or_false, true_or, or_true] at hq248
  try simp only [Int32.reduceAdd, Int32.reduceSub, Int32.reduceMul, Int64.reduceAdd, Int64.reduceSub, Int64.reduceMul, Int32.lt_iff_toInt_lt, Int64.lt_iff_toInt_lt, ← Int32.toInt_inj, ← Int64.toInt_inj, Int32.reduceToInt, Int64.reduceToInt, not_true_eq_false, not_false_eq_true, false_and, and_false, true_and, and_true, false_or, or_false, true_or, or_true]
  have := Int32.le_toInt p0; have := Int32.toInt_lt p0
  have := Int32.le_toInt p5; have := Int32.toInt_lt p5
  have := Int32.le_toInt v224; have := Int32.toInt_lt v224
  have := Int32.le_toInt v232; have := Int32.toInt_lt v232
  have bl1 := Int32.le_toInt ex1; have bu1 := Int32.toInt_lt ex1
  have fa1 := c_mask p0 (255 : Int32) 8 (by decide) (by decide); rw [hex1] at fa1; try simp only [Int32.reduceAdd, Int32.reduceSub, Int32.reduceToInt, Int64.reduceToInt] at fa1
  clear hex1
  have bl2 := Int32.le_toInt ex2; have bu2 := Int32.toInt_lt ex2
  have fa2 := c_iadd (1 : Int32) ex1; rw [hex2] at fa2; try simp only [Int32.reduceAdd, Int32.reduceSub, Int32.reduceToInt, Int64.reduceToInt] at fa2
  clear hex2
  have bl3 := Int32.le_toInt ex3; have bu3 := Int32.toInt_lt ex3
  have fa3 := c_mask p5 (2147483647 : Int32) 31 (by decide) (by decide); rw [hex3] at fa3; try simp only [Int32.reduceAdd, Int32.reduceSub, Int32.reduceToInt, Int64.reduceToInt] at fa3
  clear hex3
  have bl4 := Int32.le_toInt ex4; have bu4 := Int32.toInt_lt ex4
  have fa4 := c_iremV ex3 v224; rw [hex4] at fa4; try simp only [Int32.reduceAdd, Int32.reduceSub, Int32.reduceToInt, Int64.reduceToInt] at fa4
  first | (have fb4 := fa4.1 (by omega) (by omega); clear fa4) | (have fb4 := fa4.2 (by omega) (by omega); clear fa4) | skip
  clear hex4
  have bl5 := Int32.le_toInt ex5; have bu5 := Int32.toInt_lt ex5
  have fa5 := c_idiv v232 (64 : Int32) (64) (by decide) (by decide); rw [hex5] at fa5; try simp only [Int32.reduceAdd, Int32.reduceSub, Int32.reduceToInt, Int64.reduceToInt] at fa5
  first | (have fb5 := fa5.1 (by omega); clear fa5) | (have fb5 := fa5.2 (by omega); clear fa5) | skip
  clear hex5
  have bl6 := Int32.le_toInt ex6; have bu6 := Int32.toInt_lt ex6
  have fa6 := c_iadd v224 (64 : Int32); rw [hex6] at fa6; try simp only [Int32.reduceAdd, Int32.reduceSub, Int32.reduceToInt, Int64.reduceToInt] at fa6
  clear hex6
  have bl7 := Int32.le_toInt ex7; have bu7 := Int32.toInt_lt ex7
  have fa7 := c_isub ex6 (1 : Int32); rw [hex7] at fa7; try simp only [Int32.reduceAdd, Int32.reduceSub, Int32.reduceToInt, Int64.reduceToInt] at fa7
  clear hex7
  have bl8 := Int32.le_toInt ex8; have bu8 := Int32.toInt_lt ex8
  have fa8 := c_idiv ex7 (64 : Int32) (64) (by decide) (by decide); rw [hex8] at fa8; try simp only [Int32.reduceAdd, Int32.reduceSub, Int32.reduceToInt, Int64.reduceToInt] at fa8
  first | (have fb8 := fa8.1 (by omega); clear fa8) | (have fb8 := fa8.2 (by omega); clear fa8) | skip
  clear hex8
  all_goals omega
set_option maxRecDepth 65536 in
set_option maxHeartbeats 40000000 in
theorem own_side370 (p0 : Int32) (v224 : Int32) (hv224 : v224 = ((1 : Int32) + (p0 &&& (255 : Int32)))) (hq248 : mm243 ≠ bb244) : ¬ ((4 : Int32) < (((v224 + (64 : Int32)) - (1 : Int32)) / (64 : Int32))) := by
  generalize hex1 : (p0 &&& (255 : Int32)) = ex1 at *
  generalize hex2 : ((1 : Int32) + ex1) = ex2 at *
  generalize hex3 : (v224 + (64 : Int32)) = ex3 at *
  generalize hex4 : (ex3 - (1 : Int32)) = ex4 at *
  generalize hex5 : (ex4 / (64 : Int32)) = ex5 at *
  try simp only [Int32.reduceAdd, Int32.reduceSub, Int32.reduceMul, Int64.reduceAdd, Int64.reduceSub, Int64.reduceMul, Int32.lt_iff_toInt_lt, Int64.lt_iff_toInt_lt, ← Int32.toInt_inj, ← Int64.toInt_inj, Int32.reduceToInt, Int64.reduceToInt, not_true_eq_false, not_false_eq_true, false_and, and_false, true_and, and_true, false_or, or_false, true_or, or_true] at hv224
  try simp only [Int32.reduceAdd, Int32.reduceSub, Int32.reduceMul, Int64.reduceAdd, Int64.reduceSub, Int64.reduceMul, Int32.lt_iff_toInt_lt, Int64.lt_iff_toInt_lt, ← Int32.toInt_inj, ← Int64.toInt_inj, Int32.reduceToInt, Int64.reduceToInt, not_true_eq_false, not_false_eq_true, false_and, and_false, true_and, and_true, false_or, or_false, true_or, or_true] at hq248
  try simp only [Int32.reduceAdd, Int32.reduceSub, Int32.reduceMul, Int64.reduceAdd, Int64.reduceSub, Int64.reduceMul, Int32.lt_iff_toInt_lt, Int64.lt_iff_toInt_lt, ← Int32.toInt_inj, ← Int64.toInt_inj, Int32.reduceToInt, Int64.reduceToInt, not_true_eq_false, not_false_eq_true, false_and, and_false, true_and, and_true, false_or, or_false, true_or, or_true]
  have := Int32.le_toInt p0; have := Int32.toInt_lt p0
  have := Int32.le_toInt v224; have := Int32.toInt_lt v224
  have bl1 := Int32.le_toInt ex1; have bu1 := Int32.toInt_lt ex1
  have fa1 := c_mask p0 (255 : Int32) 8 (by decide) (by decide); rw [hex1] at fa1; try simp only [Int32.reduceAdd, Int32.reduceSub, Int32.reduceToInt, Int64.reduceToInt] at fa1
  clear hex1
  have bl2 := Int32.le_toInt ex2; have bu2 := Int32.toInt_lt ex2
  have fa2 := c_iadd (1 : Int32) ex1; rw [hex2] at fa2; try simp only [Int32.reduceAdd, Int32.reduceSub, Int32.reduceToInt, Int64.reduceToInt] at fa2
  clear hex2
  have bl3 := Int32.le_toInt ex3; have bu3 := Int32.toInt_lt ex3
  have fa3 := c_iadd v224 (64 : Int32); rw [hex3] at fa3; try simp only [Int32.reduceAdd, Int32.reduceSub, Int32.reduceToInt, Int64.reduceToInt] at fa3
  clear hex3
  have bl4 := Int32.le_toInt ex4; have bu4 := Int32.toInt_lt ex4
  have fa4 := c_isub ex3 (1 : Int32); rw [hex4] at fa4; try simp only [Int32.reduceAdd, Int32.reduceSub, Int32.reduceToInt, Int64.reduceToInt] at fa4
  clear hex4
  have bl5 := Int32.le_toInt ex5; have bu5 := Int32.toInt_lt ex5
  have fa5 := c_idiv ex4 (64 : Int32) (64) (by decide) (by decide); rw [hex5] at fa5; try simp only [Int32.reduceAdd, Int32.reduceSub, Int32.reduceToInt, Int64.reduceToInt] at fa5
  first | (have fb5 := fa5.1 (by omega); clear fa5) | (have fb5 := fa5.2 (by omega); clear fa5) | skip
  clear hex5
  all_goals omega
set_option maxRecDepth 65536 in
set_option maxHeartbeats 40000000 in
theorem own_side393 (p0 : Int32) (p3 : Int32) (v224 : Int32) (hv224 : v224 = ((1 : Int32) + (p0 &&& (255 : Int32)))) (v228 : Int32) (hv228 : v228 = ((p3 &&& (2147483647 : Int32)) % v224)) (hq248 : mm243 ≠ bb244) : own_In (((v224 + (64 : Int32)) - (1 : Int32)) / (64 : Int32)) v228 := by
  unfold own_In
  generalize hex1 : (p0 &&& (255 : Int32)) = ex1 at *
  generalize hex2 : ((1 : Int32) + ex1) = ex2 at *
  generalize hex3 : (p3 &&& (2147483647 : Int32)) = ex3 at *
  generalize hex4 : (ex3 % v224) = ex4 at *
  generalize hex5 : (v228 / (64 : Int32)) = ex5 at *
  generalize hex6 : (v224 + (64 : Int32)) = ex6 at *
  generalize hex7 : (ex6 - (1 : Int32)) = ex7 at *
  generalize hex8 : (ex7 / (64 : Int32)) = ex8 at *
  try simp only [Int32.reduceAdd, Int32.reduceSub, Int32.reduceMul, Int64.reduceAdd, Int64.reduceSub, Int64.reduceMul, Int32.lt_iff_toInt_lt, Int64.lt_iff_toInt_lt, ← Int32.toInt_inj, ← Int64.toInt_inj, Int32.reduceToInt, Int64.reduceToInt, not_true_eq_false, not_false_eq_true, false_and, and_false, true_and, and_true, false_or, or_false, true_or, or_true] at hv224
  try simp only [Int32.reduceAdd, Int32.reduceSub, Int32.reduceMul, Int64.reduceAdd, Int64.reduceSub, Int64.reduceMul, Int32.lt_iff_toInt_lt, Int64.lt_iff_toInt_lt, ← Int32.toInt_inj, ← Int64.toInt_inj, Int32.reduceToInt, Int64.reduceToInt, not_true_eq_false, not_false_eq_true, false_and, and_false, true_and, and_true, false_or, or_false, true_or, or_true] at hv228
  try simp only [Int32.reduceAdd, Int32.reduceSub, Int32.reduceMul, Int64.reduceAdd, Int64.reduceSub, Int64.reduceMul, Int32.lt_iff_toInt_lt, Int64.lt_iff_toInt_lt, ← Int32.toInt_inj, ← Int64.toInt_inj, Int32.reduceToInt, Int64.reduceToInt, not_true_eq_false, not_false_eq_true, false_and, and_false, true_and, and_true, false_or, or_false, true_or, or_true] at hq248
  try simp only [Int32.reduceAdd, Int32.reduceSub, Int32.reduceMul, Int64.reduceAdd, Int64.reduceSub, Int64.reduceMul, Int32.lt_iff_toInt_lt, Int64.lt_iff_toInt_lt, ← Int32.toInt_inj, ← Int64.toInt_inj, Int32.reduceToInt, Int64.reduceToInt, not_true_eq_false, not_false_eq_true, false_and, and_false, true_and, and_true, false_or, or_false, true_or, or_true]
  have := Int32.le_toInt p0; have := Int32.toInt_lt p0
  have := Int32.le_toInt p3; have := Int32.toInt_lt p3
  have := Int32.le_toInt v224; have := Int32.toInt_lt v224
  have := Int32.le_toInt v228; have := Int32.toInt_lt v228
  have bl1 := Int32.le_toInt ex1; have bu1 := Int32.toInt_lt ex1
  have fa1 := c_mask p0 (255 : Int32) 8 (by decide) (by decide); rw [hex1] at fa1; try simp only [Int32.reduceAdd, Int32.reduceSub, Int32.reduceToInt, Int64.reduceToInt] at fa1
  clear hex1
  have bl2 := Int32.le_toInt ex2; have bu2 := Int32.toInt_lt ex2
  have fa2 := c_iadd (1 : Int32) ex1; rw [hex2] at fa2; try simp only [Int32.reduceAdd, Int32.reduceSub, Int32.reduceToInt, Int64.reduceToInt] at fa2
  clear hex2
  have bl3 := Int32.le_toInt ex3; have bu3 := Int32.toInt_lt ex3
  have fa3 := c_mask p3 (2147483647 : Int32) 31 (by decide) (by decide); rw [hex3] at fa3; try simp only [Int32.reduceAdd, Int32.reduceSub, Int32.reduceToInt, Int64.reduceToInt] at fa3
  clear hex3
  have bl4 := Int32.le_toInt ex4; have bu4 := Int32.toInt_lt ex4
  have fa4 := c_iremV ex3 v224; rw [hex4] at fa4; try simp only [Int32.reduceAdd, Int32.reduceSub, Int32.reduceToInt, Int64.reduceToInt] at fa4
  first | (have fb4 := fa4.1 (by omega) (by omega); clear fa4) | (have fb4 := fa4.2 (by omega) (by omega); clear fa4) | skip
  clear hex4
  have bl5 := Int32.le_toInt ex5; have bu5 := Int32.toInt_lt ex5
  have fa5 := c_idiv v228 (64 : Int32) (64) (by decide) (by decide); rw [hex5] at fa5; try simp only [Int32.reduceAdd, Int32.reduceSub, Int32.reduceToInt, Int64.reduceToInt] at fa5
  first | (have fb5 := fa5.1 (by omega); clear fa5) | (have fb5 := fa5.2 (by omega); clear fa5) | skip
  clear hex5
  have bl6 := Int32.le_toInt ex6; have bu6 := Int32.toInt_lt ex6
  have fa6 := c_iadd v224 (64 : Int32); rw [hex6] at fa6; try simp only [Int32.reduceAdd, Int32.reduceSub, Int32.reduceToInt, Int64.reduceToInt] at fa6
  clear hex6
  have bl7 := Int32.le_toInt ex7; have bu7 := Int32.toInt_lt ex7
  have fa7 := c_isub ex6 (1 : Int32); rw [hex7] at fa7; try simp only [Int32.reduceAdd, Int32.reduceSub, Int32.reduceToInt, Int64.reduceToInt] at fa7
  clear hex7
  have bl8 := Int32.le_toInt ex8; have bu8 := Int32.toInt_lt ex8
  have fa8 := c_idiv ex7 (64 : Int32) (64) (by decide) (by decide); rw [hex8] at fa8; try simp only [Int32.reduceAdd, Int32.reduceSub, Int32.reduceToInt, Int64.reduceToInt] at fa8
  first | (have fb8 := fa8.1 (by omega); clear fa8) | (have fb8 := fa8.2 (by omega); clear fa8) | skip
  clear hex8
  all_goals omega
set_option maxRecDepth 65536 in
set_option maxHeartbeats 40000000 in
theorem own_side394 (p0 : Int32) (v224 : Int32) (hv224 : v224 = ((1 : Int32) + (p0 &&& (255 : Int32)))) (hq248 : mm243 ≠ bb244) : ¬ ((4 : Int32) < (((v224 + (64 : Int32)) - (1 : Int32)) / (64 : Int32))) := by
  generalize hex1 : (p0 &&& (255 : Int32)) = ex1 at *
  generalize hex2 : ((1 : Int32) + ex1) = ex2 at *
  generalize hex3 : (v224 + (64 : Int32)) = ex3 at *
  generalize hex4 : (ex3 - (1 : Int32)) = ex4 at *
  generalize hex5 : (ex4 / (64 : Int32)) = ex5 at *
  try simp only [Int32.reduceAdd, Int32.reduceSub, Int32.reduceMul, Int64.reduceAdd, Int64.reduceSub, Int64.reduceMul, Int32.lt_iff_toInt_lt, Int64.lt_iff_toInt_lt, ← Int32.toInt_inj, ← Int64.toInt_inj, Int32.reduceToInt, Int64.reduceToInt, not_true_eq_false, not_false_eq_true, false_and, and_false, true_and, and_true, false_or, or_false, true_or, or_true] at hv224
  try simp only [Int32.reduceAdd, Int32.reduceSub, Int32.reduceMul, Int64.reduceAdd, Int64.reduceSub, Int64.reduceMul, Int32.lt_iff_toInt_lt, Int64.lt_iff_toInt_lt, ← Int32.toInt_inj, ← Int64.toInt_inj, Int32.reduceToInt, Int64.reduceToInt, not_true_eq_false, not_false_eq_true, false_and, and_false, true_and, and_true, false_or, or_false, true_or, or_true] at hq248
  try simp only [Int32.reduceAdd, Int32.reduceSub, Int32.reduceMul, Int64.reduceAdd, Int64.reduceSub, Int64.reduceMul, Int32.lt_iff_toInt_lt, Int64.lt_iff_toInt_lt, ← Int32.toInt_inj, ← Int64.toInt_inj, Int32.reduceToInt, Int64.reduceToInt, not_true_eq_false, not_false_eq_true, false_and, and_false, true_and, and_true, false_or, or_false, true_or, or_true]
  have := Int32.le_toInt p0; have := Int32.toInt_lt p0
  have := Int32.le_toInt v224; have := Int32.toInt_lt v224
  have bl1 := Int32.le_toInt ex1; have bu1 := Int32.toInt_lt ex1
  have fa1 := c_mask p0 (255 : Int32) 8 (by decide) (by decide); rw [hex1] at fa1; try simp only [Int32.reduceAdd, Int32.reduceSub, Int32.reduceToInt, Int64.reduceToInt] at fa1
  clear hex1
  have bl2 := Int32.le_toInt ex2; have bu2 := Int32.toInt_lt ex2
  have fa2 := c_iadd (1 : Int32) ex1; rw [hex2] at fa2; try simp only [Int32.reduceAdd, Int32.reduceSub, Int32.reduceToInt, Int64.reduceToInt] at fa2
  clear hex2
  have bl3 := Int32.le_toInt ex3; have bu3 := Int32.toInt_lt ex3
  have fa3 := c_iadd v224 (64 : Int32); rw [hex3] at fa3; try simp only [Int32.reduceAdd, Int32.reduceSub, Int32.reduceToInt, Int64.reduceToInt] at fa3
  clear hex3
  have bl4 := Int32.le_toInt ex4; have bu4 := Int32.toInt_lt ex4
  have fa4 := c_isub ex3 (1 : Int32); rw [hex4] at fa4; try simp only [Int32.reduceAdd, Int32.reduceSub, Int32.reduceToInt, Int64.reduceToInt] at fa4
  clear hex4
  have bl5 := Int32.le_toInt ex5; have bu5 := Int32.toInt_lt ex5
  have fa5 := c_idiv ex4 (64 : Int32) (64) (by decide) (by decide); rw [hex5] at fa5; try simp only [Int32.reduceAdd, Int32.reduceSub, Int32.reduceToInt, Int64.reduceToInt] at fa5
  first | (have fb5 := fa5.1 (by omega); clear fa5) | (have fb5 := fa5.2 (by omega); clear fa5) | skip
  clear hex5
  all_goals omega
set_option maxRecDepth 65536 in
set_option maxHeartbeats 40000000 in
theorem own_side414 (p0 : Int32) (v224 : Int32) (hv224 : v224 = ((1 : Int32) + (p0 &&& (255 : Int32)))) (hq248 : mm243 ≠ bb244) : ¬ ((4 : Int32) < (((v224 + (64 : Int32)) - (1 : Int32)) / (64 : Int32))) := by
  generalize hex1 : (p0 &&& (255 : Int32)) = ex1 at *
  generalize hex2 : ((1 : Int32) + ex1) = ex2 at *
  generalize hex3 : (v224 + (64 : Int32)) = ex3 at *
  generalize hex4 : (ex3 - (1 : Int32)) = ex4 at *
  generalize hex5 : (ex4 / (64 : Int32)) = ex5 at *
  try simp only [Int32.reduceAdd, Int32.reduceSub, Int32.reduceMul, Int64.reduceAdd, Int64.reduceSub, Int64.reduceMul, Int32.lt_iff_toInt_lt, Int64.lt_iff_toInt_lt, ← Int32.toInt_inj, ← Int64.toInt_inj, Int32.reduceToInt, Int64.reduceToInt, not_true_eq_false, not_false_eq_true, false_and, and_false, true_and, and_true, false_or, or_false, true_or, or_true] at hv224
  try simp only [Int32.reduceAdd, Int32.reduceSub, Int32.reduceMul, Int64.reduceAdd, Int64.reduceSub, Int64.reduceMul, Int32.lt_iff_toInt_lt, Int64.lt_iff_toInt_lt, ← Int32.toInt_inj, ← Int64.toInt_inj, Int32.reduceToInt, Int64.reduceToInt, not_true_eq_false, not_false_eq_true, false_and, and_false, true_and, and_true, false_or, or_false, true_or, or_true] at hq248
  try simp only [Int32.reduceAdd, Int32.reduceSub, Int32.reduceMul, Int64.reduceAdd, Int64.reduceSub, Int64.reduceMul, Int32.lt_iff_toInt_lt, Int64.lt_iff_toInt_lt, ← Int32.toInt_inj, ← Int64.toInt_inj, Int32.reduceToInt, Int64.reduceToInt, not_true_eq_false, not_false_eq_true, false_and, and_false, true_and, and_true, false_or, or_false, true_or, or_true]
  have := Int32.le_toInt p0; have := Int32.toInt_lt p0
  have := Int32.le_toInt v224; have := Int32.toInt_lt v224
  have bl1 := Int32.le_toInt ex1; have bu1 := Int32.toInt_lt ex1
  have fa1 := c_mask p0 (255 : Int32) 8 (by decide) (by decide); rw [hex1] at fa1; try simp only [Int32.reduceAdd, Int32.reduceSub, Int32.reduceToInt, Int64.reduceToInt] at fa1
  clear hex1
  have bl2 := Int32.le_toInt ex2; have bu2 := Int32.toInt_lt ex2
  have fa2 := c_iadd (1 : Int32) ex1; rw [hex2] at fa2; try simp only [Int32.reduceAdd, Int32.reduceSub, Int32.reduceToInt, Int64.reduceToInt] at fa2
  clear hex2
  have bl3 := Int32.le_toInt ex3; have bu3 := Int32.toInt_lt ex3
  have fa3 := c_iadd v224 (64 : Int32); rw [hex3] at fa3; try simp only [Int32.reduceAdd, Int32.reduceSub, Int32.reduceToInt, Int64.reduceToInt] at fa3
  clear hex3
  have bl4 := Int32.le_toInt ex4; have bu4 := Int32.toInt_lt ex4
  have fa4 := c_isub ex3 (1 : Int32); rw [hex4] at fa4; try simp only [Int32.reduceAdd, Int32.reduceSub, Int32.reduceToInt, Int64.reduceToInt] at fa4
  clear hex4
  have bl5 := Int32.le_toInt ex5; have bu5 := Int32.toInt_lt ex5
  have fa5 := c_idiv ex4 (64 : Int32) (64) (by decide) (by decide); rw [hex5] at fa5; try simp only [Int32.reduceAdd, Int32.reduceSub, Int32.reduceToInt, Int64.reduceToInt] at fa5
  first | (have fb5 := fa5.1 (by omega); clear fa5) | (have fb5 := fa5.2 (by omega); clear fa5) | skip
  clear hex5
  all_goals omega
set_option maxRecDepth 65536 in
set_option maxHeartbeats 40000000 in
theorem own_side429 (p0 : Int32) (p2 : Int32) (v224 : Int32) (hv224 : v224 = ((1 : Int32) + (p0 &&& (255 : Int32)))) (v226 : Int32) (hv226 : v226 = ((p2 &&& (2147483647 : Int32)) % v224)) (hq248 : mm243 ≠ bb244) : own_In (((v224 + (64 : Int32)) - (1 : Int32)) / (64 : Int32)) v226 := by
  unfold own_In
  generalize hex1 : (p0 &&& (255 : Int32)) = ex1 at *
  generalize hex2 : ((1 : Int32) + ex1) = ex2 at *
  generalize hex3 : (p2 &&& (2147483647 : Int32)) = ex3 at *
  generalize hex4 : (ex3 % v224) = ex4 at *
  generalize hex5 : (v226 / (64 : Int32)) = ex5 at *
  generalize hex6 : (v224 + (64 : Int32)) = ex6 at *
  generalize hex7 : (ex6 - (1 : Int32)) = ex7 at *
  generalize hex8 : (ex7 / (64 : Int32)) = ex8 at *
  try simp only [Int32.reduceAdd, Int32.reduceSub, Int32.reduceMul, Int64.reduceAdd, Int64.reduceSub, Int64.reduceMul, Int32.lt_iff_toInt_lt, Int64.lt_iff_toInt_lt, ← Int32.toInt_inj, ← Int64.toInt_inj, Int32.reduceToInt, Int64.reduceToInt, not_true_eq_false, not_false_eq_true, false_and, and_false, true_and, and_true, false_or, or_false, true_or, or_true] at hv224
  try simp only [Int32.reduceAdd, Int32.reduceSub, Int32.reduceMul, Int64.reduceAdd, Int64.reduceSub, Int64.reduceMul, Int32.lt_iff_toInt_lt, Int64.lt_iff_toInt_lt, ← Int32.toInt_inj, ← Int64.toInt_inj, Int32.reduceToInt, Int64.reduceToInt, not_true_eq_false, not_false_eq_true, false_and, and_false, true_and, and_true, false_or, or_false, true_or, or_true] at hv226
  try simp only [Int32.reduceAdd, Int32.reduceSub, Int32.reduceMul, Int64.reduceAdd, Int64.reduceSub, Int64.reduceMul, Int32.lt_iff_toInt_lt, Int64.lt_iff_toInt_lt, ← Int32.toInt_inj, ← Int64.toInt_inj, Int32.reduceToInt, Int64.reduceToInt, not_true_eq_false, not_false_eq_true, false_and, and_false, true_and, and_true, false_or, or_false, true_or, or_true] at hq248
  try simp only [Int32.reduceAdd, Int32.reduceSub, Int32.reduceMul, Int64.reduceAdd, Int64.reduceSub, Int64.reduceMul, Int32.lt_iff_toInt_lt, Int64.lt_iff_toInt_lt, ← Int32.toInt_inj, ← Int64.toInt_inj, Int32.reduceToInt, Int64.reduceToInt, not_true_eq_false, not_false_eq_true, false_and, and_false, true_and, and_true, false_or, or_false, true_or, or_true]
  have := Int32.le_toInt p0; have := Int32.toInt_lt p0
  have := Int32.le_toInt p2; have := Int32.toInt_lt p2
  have := Int32.le_toInt v224; have := Int32.toInt_lt v224
  have := Int32.le_toInt v226; have := Int32.toInt_lt v226
  have bl1 := Int32.le_toInt ex1; have bu1 := Int32.toInt_lt ex1
  have fa1 := c_mask p0 (255 : Int32) 8 (by decide) (by decide); rw [hex1] at fa1; try simp only [Int32.reduceAdd, Int32.reduceSub, Int32.reduceToInt, Int64.reduceToInt] at fa1
  clear hex1
  have bl2 := Int32.le_toInt ex2; have bu2 := Int32.toInt_lt ex2
  have fa2 := c_iadd (1 : Int32) ex1; rw [hex2] at fa2; try simp only [Int32.reduceAdd, Int32.reduceSub, Int32.reduceToInt, Int64.reduceToInt] at fa2
  clear hex2
  have bl3 := Int32.le_toInt ex3; have bu3 := Int32.toInt_lt ex3
  have fa3 := c_mask p2 (2147483647 : Int32) 31 (by decide) (by decide); rw [hex3] at fa3; try simp only [Int32.reduceAdd, Int32.reduceSub, Int32.reduceToInt, Int64.reduceToInt] at fa3
  clear hex3
  have bl4 := Int32.le_toInt ex4; have bu4 := Int32.toInt_lt ex4
  have fa4 := c_iremV ex3 v224; rw [hex4] at fa4; try simp only [Int32.reduceAdd, Int32.reduceSub, Int32.reduceToInt, Int64.reduceToInt] at fa4
  first | (have fb4 := fa4.1 (by omega) (by omega); clear fa4) | (have fb4 := fa4.2 (by omega) (by omega); clear fa4) | skip
  clear hex4
  have bl5 := Int32.le_toInt ex5; have bu5 := Int32.toInt_lt ex5
  have fa5 := c_idiv v226 (64 : Int32) (64) (by decide) (by decide); rw [hex5] at fa5; try simp only [Int32.reduceAdd, Int32.reduceSub, Int32.reduceToInt, Int64.reduceToInt] at fa5
  first | (have fb5 := fa5.1 (by omega); clear fa5) | (have fb5 := fa5.2 (by omega); clear fa5) | skip
  clear hex5
  have bl6 := Int32.le_toInt ex6; have bu6 := Int32.toInt_lt ex6
  have fa6 := c_iadd v224 (64 : Int32); rw [hex6] at fa6; try simp only [Int32.reduceAdd, Int32.reduceSub, Int32.reduceToInt, Int64.reduceToInt] at fa6
  clear hex6
  have bl7 := Int32.le_toInt ex7; have bu7 := Int32.toInt_lt ex7
  have fa7 := c_isub ex6 (1 : Int32); rw [hex7] at fa7; try simp only [Int32.reduceAdd, Int32.reduceSub, Int32.reduceToInt, Int64.reduceToInt] at fa7
  clear hex7
  have bl8 := Int32.le_toInt ex8; have bu8 := Int32.toInt_lt ex8
  have fa8 := c_idiv ex7 (64 : Int32) (64) (by decide) (by decide); rw [hex8] at fa8; try simp only [Int32.reduceAdd, Int32.reduceSub, Int32.reduceToInt, Int64.reduceToInt] at fa8
  first | (have fb8 := fa8.1 (by omega); clear fa8) | (have fb8 := fa8.2 (by omega); clear fa8) | skip
  clear hex8
  all_goals omega
set_option maxRecDepth 65536 in
set_option maxHeartbeats 40000000 in
theorem own_side430 (p0 : Int32) (v224 : Int32) (hv224 : v224 = ((1 : Int32) + (p0 &&& (255 : Int32)))) (hq248 : mm243 ≠ bb244) : ¬ ((4 : Int32) < (((v224 + (64 : Int32)) - (1 : Int32)) / (64 : Int32))) := by
  generalize hex1 : (p0 &&& (255 : Int32)) = ex1 at *
  generalize hex2 : ((1 : Int32) + ex1) = ex2 at *
  generalize hex3 : (v224 + (64 : Int32)) = ex3 at *
  generalize hex4 : (ex3 - (1 : Int32)) = ex4 at *
  generalize hex5 : (ex4 / (64 : Int32)) = ex5 at *
  try simp only [Int32.reduceAdd, Int32.reduceSub, Int32.reduceMul, Int64.reduceAdd, Int64.reduceSub, Int64.reduceMul, Int32.lt_iff_toInt_lt, Int64.lt_iff_toInt_lt, ← Int32.toInt_inj, ← Int64.toInt_inj, Int32.reduceToInt, Int64.reduceToInt, not_true_eq_false, not_false_eq_true, false_and, and_false, true_and, and_true, false_or, or_false, true_or, or_true] at hv224
  try simp only [Int32.reduceAdd, Int32.reduceSub, Int32.reduceMul, Int64.reduceAdd, Int64.reduceSub, Int64.reduceMul, Int32.lt_iff_toInt_lt, Int64.lt_iff_toInt_lt, ← Int32.toInt_inj, ← Int64.toInt_inj, Int32.reduceToInt, Int64.reduceToInt, not_true_eq_false, not_false_eq_true, false_and, and_false, true_and, and_true, false_or, or_false, true_or, or_true] at hq248
  try simp only [Int32.reduceAdd, Int32.reduceSub, Int32.reduceMul, Int64.reduceAdd, Int64.reduceSub, Int64.reduceMul, Int32.lt_iff_toInt_lt, Int64.lt_iff_toInt_lt, ← Int32.toInt_inj, ← Int64.toInt_inj, Int32.reduceToInt, Int64.reduceToInt, not_true_eq_false, not_false_eq_true, false_and, and_false, true_and, and_true, false_or, or_false, true_or, or_true]
  have := Int32.le_toInt p0; have := Int32.toInt_lt p0
  have := Int32.le_toInt v224; have := Int32.toInt_lt v224
  have bl1 := Int32.le_toInt ex1; have bu1 := Int32.toInt_lt ex1
  have fa1 := c_mask p0 (255 : Int32) 8 (by decide) (by decide); rw [hex1] at fa1; try simp only [Int32.reduceAdd, Int32.reduceSub, Int32.reduceToInt, Int64.reduceToInt] at fa1
  clear hex1
  have bl2 := Int32.le_toInt ex2; have bu2 := Int32.toInt_lt ex2
  have fa2 := c_iadd (1 : Int32) ex1; rw [hex2] at fa2; try simp only [Int32.reduceAdd, Int32.reduceSub, Int32.reduceToInt, Int64.reduceToInt] at fa2
  clear hex2
  have bl3 := Int32.le_toInt ex3; have bu3 := Int32.toInt_lt ex3
  have fa3 := c_iadd v224 (64 : Int32); rw [hex3] at fa3; try simp only [Int32.reduceAdd, Int32.reduceSub, Int32.reduceToInt, Int64.reduceToInt] at fa3
  clear hex3
  have bl4 := Int32.le_toInt ex4; have bu4 := Int32.toInt_lt ex4
  have fa4 := c_isub ex3 (1 : Int32); rw [hex4] at fa4; try simp only [Int32.reduceAdd, Int32.reduceSub, Int32.reduceToInt, Int64.reduceToInt] at fa4
  clear hex4
  have bl5 := Int32.le_toInt ex5; have bu5 := Int32.toInt_lt ex5
  have fa5 := c_idiv ex4 (64 : Int32) (64) (by decide) (by decide); rw [hex5] at fa5; try simp only [Int32.reduceAdd, Int32.reduceSub, Int32.reduceToInt, Int64.reduceToInt] at fa5
  first | (have fb5 := fa5.1 (by omega); clear fa5) | (have fb5 := fa5.2 (by omega); clear fa5) | skip
  clear hex5
  all_goals omega
set_option maxRecDepth 65536 in
set_option maxHeartbeats 40000000 in
theorem own_side434 (p0 : Int32) (p3 : Int32) (v224 : Int32) (hv224 : v224 = ((1 : Int32) + (p0 &&& (255 : Int32)))) (v228 : Int32) (hv228 : v228 = ((p3 &&& (2147483647 : Int32)) % v224)) (hq248 : mm243 ≠ bb244) : own_In (((v224 + (64 : Int32)) - (1 : Int32)) / (64 : Int32)) v228 := by
  unfold own_In
  generalize hex1 : (p0 &&& (255 : Int32)) = ex1 at *
  generalize hex2 : ((1 : Int32) + ex1) = ex2 at *
  generalize hex3 : (p3 &&& (2147483647 : Int32)) = ex3 at *
  generalize hex4 : (ex3 % v224) = ex4 at *
  generalize hex5 : (v228 / (64 : Int32)) = ex5 at *
  generalize hex6 : (v224 + (64 : Int32)) = ex6 at *
  generalize hex7 : (ex6 - (1 : Int32)) = ex7 at *
  generalize hex8 : (ex7 / (64 : Int32)) = ex8 at *
  try simp only [Int32.reduceAdd, Int32.reduceSub, Int32.reduceMul, Int64.reduceAdd, Int64.reduceSub, Int64.reduceMul, Int32.lt_iff_toInt_lt, Int64.lt_iff_toInt_lt, ← Int32.toInt_inj, ← Int64.toInt_inj, Int32.reduceToInt, Int64.reduceToInt, not_true_eq_false, not_false_eq_true, false_and, and_false, true_and, and_true, false_or, or_false, true_or, or_true] at hv224
  try simp only [Int32.reduceAdd, Int32.reduceSub, Int32.reduceMul, Int64.reduceAdd, Int64.reduceSub, Int64.reduceMul, Int32.lt_iff_toInt_lt, Int64.lt_iff_toInt_lt, ← Int32.toInt_inj, ← Int64.toInt_inj, Int32.reduceToInt, Int64.reduceToInt, not_true_eq_false, not_false_eq_true, false_and, and_false, true_and, and_true, false_or, or_false, true_or, or_true] at hv228
  try simp only [Int32.reduceAdd, Int32.reduceSub, Int32.reduceMul, Int64.reduceAdd, Int64.reduceSub, Int64.reduceMul, Int32.lt_iff_toInt_lt, Int64.lt_iff_toInt_lt, ← Int32.toInt_inj, ← Int64.toInt_inj, Int32.reduceToInt, Int64.reduceToInt, not_true_eq_false, not_false_eq_true, false_and, and_false, true_and, and_true, false_or, or_false, true_or, or_true] at hq248
  try simp only [Int32.reduceAdd, Int32.reduceSub, Int32.reduceMul, Int64.reduceAdd, Int64.reduceSub, Int64.reduceMul, Int32.lt_iff_toInt_lt, Int64.lt_iff_toInt_lt, ← Int32.toInt_inj, ← Int64.toInt_inj, Int32.reduceToInt, Int64.reduceToInt, not_true_eq_false, not_false_eq_true, false_and, and_false, true_and, and_true, false_or, or_false, true_or, or_true]
  have := Int32.le_toInt p0; have := Int32.toInt_lt p0
  have := Int32.le_toInt p3; have := Int32.toInt_lt p3
  have := Int32.le_toInt v224; have := Int32.toInt_lt v224
  have := Int32.le_toInt v228; have := Int32.toInt_lt v228
  have bl1 := Int32.le_toInt ex1; have bu1 := Int32.toInt_lt ex1
  have fa1 := c_mask p0 (255 : Int32) 8 (by decide) (by decide); rw [hex1] at fa1; try simp only [Int32.reduceAdd, Int32.reduceSub, Int32.reduceToInt, Int64.reduceToInt] at fa1
  clear hex1
  have bl2 := Int32.le_toInt ex2; have bu2 := Int32.toInt_lt ex2
  have fa2 := c_iadd (1 : Int32) ex1; rw [hex2] at fa2; try simp only [Int32.reduceAdd, Int32.reduceSub, Int32.reduceToInt, Int64.reduceToInt] at fa2
  clear hex2
  have bl3 := Int32.le_toInt ex3; have bu3 := Int32.toInt_lt ex3
  have fa3 := c_mask p3 (2147483647 : Int32) 31 (by decide) (by decide); rw [hex3] at fa3; try simp only [Int32.reduceAdd, Int32.reduceSub, Int32.reduceToInt, Int64.reduceToInt] at fa3
  clear hex3
  have bl4 := Int32.le_toInt ex4; have bu4 := Int32.toInt_lt ex4
  have fa4 := c_iremV ex3 v224; rw [hex4] at fa4; try simp only [Int32.reduceAdd, Int32.reduceSub, Int32.reduceToInt, Int64.reduceToInt] at fa4
  first | (have fb4 := fa4.1 (by omega) (by omega); clear fa4) | (have fb4 := fa4.2 (by omega) (by omega); clear fa4) | skip
  clear hex4
  have bl5 := Int32.le_toInt ex5; have bu5 := Int32.toInt_lt ex5
  have fa5 := c_idiv v228 (64 : Int32) (64) (by decide) (by decide); rw [hex5] at fa5; try simp only [Int32.reduceAdd, Int32.reduceSub, Int32.reduceToInt, Int64.reduceToInt] at fa5
  first | (have fb5 := fa5.1 (by omega); clear fa5) | (have fb5 := fa5.2 (by omega); clear fa5) | skip
  clear hex5
  have bl6 := Int32.le_toInt ex6; have bu6 := Int32.toInt_lt ex6
  have fa6 := c_iadd v224 (64 : Int32); rw [hex6] at fa6; try simp only [Int32.reduceAdd, Int32.reduceSub, Int32.reduceToInt, Int64.reduceToInt] at fa6
  clear hex6
  have bl7 := Int32.le_toInt ex7; have bu7 := Int32.toInt_lt ex7
  have fa7 := c_isub ex6 (1 : Int32); rw [hex7] at fa7; try simp only [Int32.reduceAdd, Int32.reduceSub, Int32.reduceToInt, Int64.reduceToInt] at fa7
  clear hex7
  have bl8 := Int32.le_toInt ex8; have bu8 := Int32.toInt_lt ex8
  have fa8 := c_idiv ex7 (64 : Int32) (64) (by decide) (by decide); rw [hex8] at fa8; try simp only [Int32.reduceAdd, Int32.reduceSub, Int32.reduceToInt, Int64.reduceToInt] at fa8
  first | (have fb8 := fa8.1 (by omega); clear fa8) | (have fb8 := fa8.2 (by omega); clear fa8) | skip
  clear hex8
  all_goals omega
set_option maxRecDepth 65536 in
set_option maxHeartbeats 40000000 in
theorem own_side435 (p0 : Int32) (v224 : Int32) (hv224 : v224 = ((1 : Int32) + (p0 &&& (255 : Int32)))) (hq248 : mm243 ≠ bb244) : ¬ ((4 : Int32) < (((v224 + (64 : Int32)) - (1 : Int32)) / (64 : Int32))) := by
  generalize hex1 : (p0 &&& (255 : Int32)) = ex1 at *
  generalize hex2 : ((1 : Int32) + ex1) = ex2 at *
  generalize hex3 : (v224 + (64 : Int32)) = ex3 at *
  generalize hex4 : (ex3 - (1 : Int32)) = ex4 at *
  generalize hex5 : (ex4 / (64 : Int32)) = ex5 at *
  try simp only [Int32.reduceAdd, Int32.reduceSub, Int32.reduceMul, Int64.reduceAdd, Int64.reduceSub, Int64.reduceMul, Int32.lt_iff_toInt_lt, Int64.lt_iff_toInt_lt, ← Int32.toInt_inj, ← Int64.toInt_inj, Int32.reduceToInt, Int64.reduceToInt, not_true_eq_false, not_false_eq_true, false_and, and_false, true_and, and_true, false_or, or_false, true_or, or_true] at hv224
  try simp only [Int32.reduceAdd, Int32.reduceSub, Int32.reduceMul, Int64.reduceAdd, Int64.reduceSub, Int64.reduceMul, Int32.lt_iff_toInt_lt, Int64.lt_iff_toInt_lt, ← Int32.toInt_inj, ← Int64.toInt_inj, Int32.reduceToInt, Int64.reduceToInt, not_true_eq_false, not_false_eq_true, false_and, and_false, true_and, and_true, false_or, or_false, true_or, or_true] at hq248
  try simp only [Int32.reduceAdd, Int32.reduceSub, Int32.reduceMul, Int64.reduceAdd, Int64.reduceSub, Int64.reduceMul, Int32.lt_iff_toInt_lt, Int64.lt_iff_toInt_lt, ← Int32.toInt_inj, ← Int64.toInt_inj, Int32.reduceToInt, Int64.reduceToInt, not_true_eq_false, not_false_eq_true, false_and, and_false, true_and, and_true, false_or, or_false, true_or, or_true]
  have := Int32.le_toInt p0; have := Int32.toInt_lt p0
  have := Int32.le_toInt v224; have := Int32.toInt_lt v224
  have bl1 := Int32.le_toInt ex1; have bu1 := Int32.toInt_lt ex1
  have fa1 := c_mask p0 (255 : Int32) 8 (by decide) (by decide); rw [hex1] at fa1; try simp only [Int32.reduceAdd, Int32.reduceSub, Int32.reduceToInt, Int64.reduceToInt] at fa1
  clear hex1
  have bl2 := Int32.le_toInt ex2; have bu2 := Int32.toInt_lt ex2
  have fa2 := c_iadd (1 : Int32) ex1; rw [hex2] at fa2; try simp only [Int32.reduceAdd, Int32.reduceSub, Int32.reduceToInt, Int64.reduceToInt] at fa2
  clear hex2
  have bl3 := Int32.le_toInt ex3; have bu3 := Int32.toInt_lt ex3
  have fa3 := c_iadd v224 (64 : Int32); rw [hex3] at fa3; try simp only [Int32.reduceAdd, Int32.reduceSub, Int32.reduceToInt, Int64.reduceToInt] at fa3
  clear hex3
  have bl4 := Int32.le_toInt ex4; have bu4 := Int32.toInt_lt ex4
  have fa4 := c_isub ex3 (1 : Int32); rw [hex4] at fa4; try simp only [Int32.reduceAdd, Int32.reduceSub, Int32.reduceToInt, Int64.reduceToInt] at fa4
  clear hex4
  have bl5 := Int32.le_toInt ex5; have bu5 := Int32.toInt_lt ex5
  have fa5 := c_idiv ex4 (64 : Int32) (64) (by decide) (by decide); rw [hex5] at fa5; try simp only [Int32.reduceAdd, Int32.reduceSub, Int32.reduceToInt, Int64.reduceToInt] at fa5
  first | (have fb5 := fa5.1 (by omega); clear fa5) | (have fb5 := fa5.2 (by omega); clear fa5) | skip
  clear hex5
  all_goals omega
set_option maxRecDepth 65536 in
set_option maxHeartbeats 40000000 in
theorem own_side439 (p0 : Int32) (p4 : Int32) (v224 : Int32) (hv224 : v224 = ((1 : Int32) + (p0 &&& (255 : Int32)))) (v230 : Int32) (hv230 : v230 = ((p4 &&& (2147483647 : Int32)) % v224)) (hq248 : mm243 ≠ bb244) : own_In (((v224 + (64 : Int32)) - (1 : Int32)) / (64 : Int32)) v230 := by
  unfold own_In
  generalize hex1 : (p0 &&& (255 : Int32)) = ex1 at *
  generalize hex2 : ((1 : Int32) + ex1) = ex2 at *
  generalize hex3 : (p4 &&& (2147483647 : Int32)) = ex3 at *
  generalize hex4 : (ex3 % v224) = ex4 at *
  generalize hex5 : (v230 / (64 : Int32)) = ex5 at *
  generalize hex6 : (v224 + (64 : Int32)) = ex6 at *
  generalize hex7 : (ex6 - (1 : Int32)) = ex7 at *
  generalize hex8 : (ex7 / (64 : Int32)) = ex8 at *
  try simp only [Int32.reduceAdd, Int32.reduceSub, Int32.reduceMul, Int64.reduceAdd, Int64.reduceSub, Int64.reduceMul, Int32.lt_iff_toInt_lt, Int64.lt_iff_toInt_lt, ← Int32.toInt_inj, ← Int64.toInt_inj, Int32.reduceToInt, Int64.reduceToInt, not_true_eq_false, not_false_eq_true, false_and, and_false, true_and, and_true, false_or, or_false, true_or, or_true] at hv224
  try simp only [Int32.reduceAdd, Int32.reduceSub, Int32.reduceMul, Int64.reduceAdd, Int64.reduceSub, Int64.reduceMul, Int32.lt_iff_toInt_lt, Int64.lt_iff_toInt_lt, ← Int32.toInt_inj, ← Int64.toInt_inj, Int32.reduceToInt, Int64.reduceToInt, not_true_eq_false, not_false_eq_true, false_and, and_false, true_and, and_true, false_or, or_false, true_or, or_true] at hv230
  try simp only [Int32.reduceAdd, Int32.reduceSub, Int32.reduceMul, Int64.reduceAdd, Int64.reduceSub, Int64.reduceMul, Int32.lt_iff_toInt_lt, Int64.lt_iff_toInt_lt, ← Int32.toInt_inj, ← Int64.toInt_inj, Int32.reduceToInt, Int64.reduceToInt, not_true_eq_false, not_false_eq_true, false_and, and_false, true_and, and_true, false_or, or_false, true_or, or_true] at hq248
  try simp only [Int32.reduceAdd, Int32.reduceSub, Int32.reduceMul, Int64.reduceAdd, Int64.reduceSub, Int64.reduceMul, Int32.lt_iff_toInt_lt, Int64.lt_iff_toInt_lt, ← Int32.toInt_inj, ← Int64.toInt_inj, Int32.reduceToInt, Int64.reduceToInt, not_true_eq_false, not_false_eq_true, false_and, and_false, true_and, and_true, false_or, or_false, true_or, or_true]
  have := Int32.le_toInt p0; have := Int32.toInt_lt p0
  have := Int32.le_toInt p4; have := Int32.toInt_lt p4
  have := Int32.le_toInt v224; have := Int32.toInt_lt v224
  have := Int32.le_toInt v230; have := Int32.toInt_lt v230
  have bl1 := Int32.le_toInt ex1; have bu1 := Int32.toInt_lt ex1
  have fa1 := c_mask p0 (255 : Int32) 8 (by decide) (by decide); rw [hex1] at fa1; try simp only [Int32.reduceAdd, Int32.reduceSub, Int32.reduceToInt, Int64.reduceToInt] at fa1
  clear hex1
  have bl2 := Int32.le_toInt ex2; have bu2 := Int32.toInt_lt ex2
  have fa2 := c_iadd (1 : Int32) ex1; rw [hex2] at fa2; try simp only [Int32.reduceAdd, Int32.reduceSub, Int32.reduceToInt, Int64.reduceToInt] at fa2
  clear hex2
  have bl3 := Int32.le_toInt ex3; have bu3 := Int32.toInt_lt ex3
  have fa3 := c_mask p4 (2147483647 : Int32) 31 (by decide) (by decide); rw [hex3] at fa3; try simp only [Int32.reduceAdd, Int32.reduceSub, Int32.reduceToInt, Int64.reduceToInt] at fa3
  clear hex3
  have bl4 := Int32.le_toInt ex4; have bu4 := Int32.toInt_lt ex4
  have fa4 := c_iremV ex3 v224; rw [hex4] at fa4; try simp only [Int32.reduceAdd, Int32.reduceSub, Int32.reduceToInt, Int64.reduceToInt] at fa4
  first | (have fb4 := fa4.1 (by omega) (by omega); clear fa4) | (have fb4 := fa4.2 (by omega) (by omega); clear fa4) | skip
  clear hex4
  have bl5 := Int32.le_toInt ex5; have bu5 := Int32.toInt_lt ex5
  have fa5 := c_idiv v230 (64 : Int32) (64) (by decide) (by decide); rw [hex5] at fa5; try simp only [Int32.reduceAdd, Int32.reduceSub, Int32.reduceToInt, Int64.reduceToInt] at fa5
  first | (have fb5 := fa5.1 (by omega); clear fa5) | (have fb5 := fa5.2 (by omega); clear fa5) | skip
  clear hex5
  have bl6 := Int32.le_toInt ex6; have bu6 := Int32.toInt_lt ex6
  have fa6 := c_iadd v224 (64 : Int32); rw [hex6] at fa6; try simp only [Int32.reduceAdd, Int32.reduceSub, Int32.reduceToInt, Int64.reduceToInt] at fa6
  clear hex6
  have bl7 := Int32.le_toInt ex7; have bu7 := Int32.toInt_lt ex7
  have fa7 := c_isub ex6 (1 : Int32); rw [hex7] at fa7; try simp only [Int32.reduceAdd, Int32.reduceSub, Int32.reduceToInt, Int64.reduceToInt] at fa7
  clear hex7
  have bl8 := Int32.le_toInt ex8; have bu8 := Int32.toInt_lt ex8
  have fa8 := c_idiv ex7 (64 : Int32) (64) (by decide) (by decide); rw [hex8] at fa8; try simp only [Int32.reduceAdd, Int32.reduceSub, Int32.reduceToInt, Int64.reduceToInt] at fa8
  first | (have fb8 := fa8.1 (by omega); clear fa8) | (have fb8 := fa8.2 (by omega); clear fa8) | skip
  clear hex8
  all_goals omega
set_option maxRecDepth 65536 in
set_option maxHeartbeats 40000000 in
theorem own_side440 (p0 : Int32) (v224 : Int32) (hv224 : v224 = ((1 : Int32) + (p0 &&& (255 : Int32)))) (hq248 : mm243 ≠ bb244) : ¬ ((4 : Int32) < (((v224 + (64 : Int32)) - (1 : Int32)) / (64 : Int32))) := by
  generalize hex1 : (p0 &&& (255 : Int32)) = ex1 at *
  generalize hex2 : ((1 : Int32) + ex1) = ex2 at *
  generalize hex3 : (v224 + (64 : Int32)) = ex3 at *
  generalize hex4 : (ex3 - (1 : Int32)) = ex4 at *
  generalize hex5 : (ex4 / (64 : Int32)) = ex5 at *
  try simp only [Int32.reduceAdd, Int32.reduceSub, Int32.reduceMul, Int64.reduceAdd, Int64.reduceSub, Int64.reduceMul, Int32.lt_iff_toInt_lt, Int64.lt_iff_toInt_lt, ← Int32.toInt_inj, ← Int64.toInt_inj, Int32.reduceToInt, Int64.reduceToInt, not_true_eq_false, not_false_eq_true, false_and, and_false, true_and, and_true, false_or, or_false, true_or, or_true] at hv224
  try simp only [Int32.reduceAdd, Int32.reduceSub, Int32.reduceMul, Int64.reduceAdd, Int64.reduceSub, Int64.reduceMul, Int32.lt_iff_toInt_lt, Int64.lt_iff_toInt_lt, ← Int32.toInt_inj, ← Int64.toInt_inj, Int32.reduceToInt, Int64.reduceToInt, not_true_eq_false, not_false_eq_true, false_and, and_false, true_and, and_true, false_or, or_false, true_or, or_true] at hq248
  try simp only [Int32.reduceAdd, Int32.reduceSub, Int32.reduceMul, Int64.reduceAdd, Int64.reduceSub, Int64.reduceMul, Int32.lt_iff_toInt_lt, Int64.lt_iff_toInt_lt, ← Int32.toInt_inj, ← Int64.toInt_inj, Int32.reduceToInt, Int64.reduceToInt, not_true_eq_false, not_false_eq_true, false_and, and_false, true_and, and_true, false_or, or_false, true_or, or_true]
  have := Int32.le_toInt p0; have := Int32.toInt_lt p0
  have := Int32.le_toInt v224; have := Int32.toInt_lt v224
  have bl1 := Int32.le_toInt ex1; have bu1 := Int32.toInt_lt ex1
  have fa1 := c_mask p0 (255 : Int32) 8 (by decide) (by decide); rw [hex1] at fa1; try simp only [Int32.reduceAdd, Int32.reduceSub, Int32.reduceToInt, Int64.reduceToInt] at fa1
  clear hex1
  have bl2 := Int32.le_toInt ex2; have bu2 := Int32.toInt_lt ex2
  have fa2 := c_iadd (1 : Int32) ex1; rw [hex2] at fa2; try simp only [Int32.reduceAdd, Int32.reduceSub, Int32.reduceToInt, Int64.reduceToInt] at fa2
  clear hex2
  have bl3 := Int32.le_toInt ex3; have bu3 := Int32.toInt_lt ex3
  have fa3 := c_iadd v224 (64 : Int32); rw [hex3] at fa3; try simp only [Int32.reduceAdd, Int32.reduceSub, Int32.reduceToInt, Int64.reduceToInt] at fa3
  clear hex3
  have bl4 := Int32.le_toInt ex4; have bu4 := Int32.toInt_lt ex4
  have fa4 := c_isub ex3 (1 : Int32); rw [hex4] at fa4; try simp only [Int32.reduceAdd, Int32.reduceSub, Int32.reduceToInt, Int64.reduceToInt] at fa4
  clear hex4
  have bl5 := Int32.le_toInt ex5; have bu5 := Int32.toInt_lt ex5
  have fa5 := c_idiv ex4 (64 : Int32) (64) (by decide) (by decide); rw [hex5] at fa5; try simp only [Int32.reduceAdd, Int32.reduceSub, Int32.reduceToInt, Int64.reduceToInt] at fa5
  first | (have fb5 := fa5.1 (by omega); clear fa5) | (have fb5 := fa5.2 (by omega); clear fa5) | skip
  clear hex5
  all_goals omega
set_option maxRecDepth 65536 in
set_option maxHeartbeats 40000000 in
theorem own_side444 (p0 : Int32) (p5 : Int32) (v224 : Int32) (hv224 : v224 = ((1 : Int32) + (p0 &&& (255 : Int32)))) (v232 : Int32) (hv232 : v232 = ((p5 &&& (2147483647 : Int32)) % v224)) (hq248 : mm243 ≠ bb244) : own_In (((v224 + (64 : Int32)) - (1 : Int32)) / (64 : Int32)) v232 := by
  unfold own_In
  generalize hex1 : (p0 &&& (255 : Int32)) = ex1 at *
  generalize hex2 : ((1 : Int32) + ex1) = ex2 at *
  generalize hex3 : (p5 &&& (2147483647 : Int32)) = ex3 at *
  generalize hex4 : (ex3 % v224) = ex4 at *
  generalize hex5 : (v232 / (64 : Int32)) = ex5 at *
  generalize hex6 : (v224 + (64 : Int32)) = ex6 at *
  generalize hex7 : (ex6 - (1 : Int32)) = ex7 at *
  generalize hex8 : (ex7 / (64 : Int32)) = ex8 at *
  try simp only [Int32.reduceAdd, Int32.reduceSub, Int32.reduceMul, Int64.reduceAdd, Int64.reduceSub, Int64.reduceMul, Int32.lt_iff_toInt_lt, Int64.lt_iff_toInt_lt, ← Int32.toInt_inj, ← Int64.toInt_inj, Int32.reduceToInt, Int64.reduceToInt, not_true_eq_false, not_false_eq_true, false_and, and_false, true_and, and_true, false_or, or_false, true_or, or_true] at hv224
  try simp only [Int32.reduceAdd, Int32.reduceSub, Int32.reduceMul, Int64.reduceAdd, Int64.reduceSub, Int64.reduceMul, Int32.lt_iff_toInt_lt, Int64.lt_iff_toInt_lt, ← Int32.toInt_inj, ← Int64.toInt_inj, Int32.reduceToInt, Int64.reduceToInt, not_true_eq_false, not_false_eq_true, false_and, and_false, true_and, and_true, false_or, or_false, true_or, or_true] at hv232
  try simp only [Int32.reduceAdd, Int32.reduceSub, Int32.reduceMul, Int64.reduceAdd, Int64.reduceSub, Int64.reduceMul, Int32.lt_iff_toInt_lt, Int64.lt_iff_toInt_lt, ← Int32.toInt_inj, ← Int64.toInt_inj, Int32.reduceToInt, Int64.reduceToInt, not_true_eq_false, not_false_eq_true, false_and, and_false, true_and, and_true, false_or, or_false, true_or, or_true] at hq248
  try simp only [Int32.reduceAdd, Int32.reduceSub, Int32.reduceMul, Int64.reduceAdd, Int64.reduceSub, Int64.reduceMul, Int32.lt_iff_toInt_lt, Int64.lt_iff_toInt_lt, ← Int32.toInt_inj, ← Int64.toInt_inj, Int32.reduceToInt, Int64.reduceToInt, not_true_eq_false, not_false_eq_true, false_and, and_false, true_and, and_true, false_or, or_false, true_or, or_true]
  have := Int32.le_toInt p0; have := Int32.toInt_lt p0
  have := Int32.le_toInt p5; have := Int32.toInt_lt p5
  have := Int32.le_toInt v224; have := Int32.toInt_lt v224
  have := Int32.le_toInt v232; have := Int32.toInt_lt v232
  have bl1 := Int32.le_toInt ex1; have bu1 := Int32.toInt_lt ex1
  have fa1 := c_mask p0 (255 : Int32) 8 (by decide) (by decide); rw [hex1] at fa1; try simp only [Int32.reduceAdd, Int32.reduceSub, Int32.reduceToInt, Int64.reduceToInt] at fa1
  clear hex1
  have bl2 := Int32.le_toInt ex2; have bu2 := Int32.toInt_lt ex2
  have fa2 := c_iadd (1 : Int32) ex1; rw [hex2] at fa2; try simp only [Int32.reduceAdd, Int32.reduceSub, Int32.reduceToInt, Int64.reduceToInt] at fa2
  clear hex2
  have bl3 := Int32.le_toInt ex3; have bu3 := Int32.toInt_lt ex3
  have fa3 := c_mask p5 (2147483647 : Int32) 31 (by decide) (by decide); rw [hex3] at fa3; try simp only [Int32.reduceAdd, Int32.reduceSub, Int32.reduceToInt, Int64.reduceToInt] at fa3
  clear hex3
  have bl4 := Int32.le_toInt ex4; have bu4 := Int32.toInt_lt ex4
  have fa4 := c_iremV ex3 v224; rw [hex4] at fa4; try simp only [Int32.reduceAdd, Int32.reduceSub, Int32.reduceToInt, Int64.reduceToInt] at fa4
  first | (have fb4 := fa4.1 (by omega) (by omega); clear fa4) | (have fb4 := fa4.2 (by omega) (by omega); clear fa4) | skip
  clear hex4
  have bl5 := Int32.le_toInt ex5; have bu5 := Int32.toInt_lt ex5
  have fa5 := c_idiv v232 (64 : Int32) (64) (by decide) (by decide); rw [hex5] at fa5; try simp only [Int32.reduceAdd, Int32.reduceSub, Int32.reduceToInt, Int64.reduceToInt] at fa5
  first | (have fb5 := fa5.1 (by omega); clear fa5) | (have fb5 := fa5.2 (by omega); clear fa5) | skip
  clear hex5
  have bl6 := Int32.le_toInt ex6; have bu6 := Int32.toInt_lt ex6
  have fa6 := c_iadd v224 (64 : Int32); rw [hex6] at fa6; try simp only [Int32.reduceAdd, Int32.reduceSub, Int32.reduceToInt, Int64.reduceToInt] at fa6
  clear hex6
  have bl7 := Int32.le_toInt ex7; have bu7 := Int32.toInt_lt ex7
  have fa7 := c_isub ex6 (1 : Int32); rw [hex7] at fa7; try simp only [Int32.reduceAdd, Int32.reduceSub, Int32.reduceToInt, Int64.reduceToInt] at fa7
  clear hex7
  have bl8 := Int32.le_toInt ex8; have bu8 := Int32.toInt_lt ex8
  have fa8 := c_idiv ex7 (64 : Int32) (64) (by decide) (by decide); rw [hex8] at fa8; try simp only [Int32.reduceAdd, Int32.reduceSub, Int32.reduceToInt, Int64.reduceToInt] at fa8
  first | (have fb8 := fa8.1 (by omega); clear fa8) | (have fb8 := fa8.2 (by omega); clear fa8) | skip
  clear hex8
  all_goals omega
set_option maxRecDepth 65536 in
set_option maxHeartbeats 40000000 in
theorem own_side445 (p0 : Int32) (v224 : Int32) (hv224 : v224 = ((1 : Int32) + (p0 &&& (255 : Int32)))) (hq248 : mm243 ≠ bb244) : ¬ ((4 : Int32) < (((v224 + (64 : Int32)) - (1 : Int32)) / (64 : Int32))) := by
  generalize hex1 : (p0 &&& (255 : Int32)) = ex1 at *
  generalize hex2 : ((1 : Int32) + ex1) = ex2 at *
  generalize hex3 : (v224 + (64 : Int32)) = ex3 at *
  generalize hex4 : (ex3 - (1 : Int32)) = ex4 at *
  generalize hex5 : (ex4 / (64 : Int32)) = ex5 at *
  try simp only [Int32.reduceAdd, Int32.reduceSub, Int32.reduceMul, Int64.reduceAdd, Int64.reduceSub, Int64.reduceMul, Int32.lt_iff_toInt_lt, Int64.lt_iff_toInt_lt, ← Int32.toInt_inj, ← Int64.toInt_inj, Int32.reduceToInt, Int64.reduceToInt, not_true_eq_false, not_false_eq_true, false_and, and_false, true_and, and_true, false_or, or_false, true_or, or_true] at hv224
  try simp only [Int32.reduceAdd, Int32.reduceSub, Int32.reduceMul, Int64.reduceAdd, Int64.reduceSub, Int64.reduceMul, Int32.lt_iff_toInt_lt, Int64.lt_iff_toInt_lt, ← Int32.toInt_inj, ← Int64.toInt_inj, Int32.reduceToInt, Int64.reduceToInt, not_true_eq_false, not_false_eq_true, false_and, and_false, true_and, and_true, false_or, or_false, true_or, or_true] at hq248
  try simp only [Int32.reduceAdd, Int32.reduceSub, Int32.reduceMul, Int64.reduceAdd, Int64.reduceSub, Int64.reduceMul, Int32.lt_iff_toInt_lt, Int64.lt_iff_toInt_lt, ← Int32.toInt_inj, ← Int64.toInt_inj, Int32.reduceToInt, Int64.reduceToInt, not_true_eq_false, not_false_eq_true, false_and, and_false, true_and, and_true, false_or, or_false, true_or, or_true]
  have := Int32.le_toInt p0; have := Int32.toInt_lt p0
  have := Int32.le_toInt v224; have := Int32.toInt_lt v224
  have bl1 := Int32.le_toInt ex1; have bu1 := Int32.toInt_lt ex1
  have fa1 := c_mask p0 (255 : Int32) 8 (by decide) (by decide); rw [hex1] at fa1; try simp only [Int32.reduceAdd, Int32.reduceSub, Int32.reduceToInt, Int64.reduceToInt] at fa1
  clear hex1
  have bl2 := Int32.le_toInt ex2; have bu2 := Int32.toInt_lt ex2
  have fa2 := c_iadd (1 : Int32) ex1; rw [hex2] at fa2; try simp only [Int32.reduceAdd, Int32.reduceSub, Int32.reduceToInt, Int64.reduceToInt] at fa2
  clear hex2
  have bl3 := Int32.le_toInt ex3; have bu3 := Int32.toInt_lt ex3
  have fa3 := c_iadd v224 (64 : Int32); rw [hex3] at fa3; try simp only [Int32.reduceAdd, Int32.reduceSub, Int32.reduceToInt, Int64.reduceToInt] at fa3
  clear hex3
  have bl4 := Int32.le_toInt ex4; have bu4 := Int32.toInt_lt ex4
  have fa4 := c_isub ex3 (1 : Int32); rw [hex4] at fa4; try simp only [Int32.reduceAdd, Int32.reduceSub, Int32.reduceToInt, Int64.reduceToInt] at fa4
  clear hex4
  have bl5 := Int32.le_toInt ex5; have bu5 := Int32.toInt_lt ex5
  have fa5 := c_idiv ex4 (64 : Int32) (64) (by decide) (by decide); rw [hex5] at fa5; try simp only [Int32.reduceAdd, Int32.reduceSub, Int32.reduceToInt, Int64.reduceToInt] at fa5
  first | (have fb5 := fa5.1 (by omega); clear fa5) | (have fb5 := fa5.2 (by omega); clear fa5) | skip
  clear hex5
  all_goals omega
set_option maxRecDepth 65536 in
set_option maxHeartbeats 40000000 in
theorem own_side468 (p0 : Int32) (p4 : Int32) (v224 : Int32) (hv224 : v224 = ((1 : Int32) + (p0 &&& (255 : Int32)))) (v230 : Int32) (hv230 : v230 = ((p4 &&& (2147483647 : Int32)) % v224)) (hq248 : mm243 ≠ bb244) : own_In (((v224 + (64 : Int32)) - (1 : Int32)) / (64 : Int32)) v230 := by
  unfold own_In
  generalize hex1 : (p0 &&& (255 : Int32)) = ex1 at *
  generalize hex2 : ((1 : Int32) + ex1) = ex2 at *
  generalize hex3 : (p4 &&& (2147483647 : Int32)) = ex3 at *
  generalize hex4 : (ex3 % v224) = ex4 at *
  generalize hex5 : (v230 / (64 : Int32)) = ex5 at *
  generalize hex6 : (v224 + (64 : Int32)) = ex6 at *
  generalize hex7 : (ex6 - (1 : Int32)) = ex7 at *
  generalize hex8 : (ex7 / (64 : Int32)) = ex8 at *
  try simp only [Int32.reduceAdd, Int32.reduceSub, Int32.reduceMul, Int64.reduceAdd, Int64.reduceSub, Int64.reduceMul, Int32.lt_iff_toInt_lt, Int64.lt_iff_toInt_lt, ← Int32.toInt_inj, ← Int64.toInt_inj, Int32.reduceToInt, Int64.reduceToInt, not_true_eq_false, not_false_eq_true, false_and, and_false, true_and, and_true, false_or, or_false, true_or, or_true] at hv224
  try simp only [Int32.reduceAdd, Int32.reduceSub, Int32.reduceMul, Int64.reduceAdd, Int64.reduceSub, Int64.reduceMul, Int32.lt_iff_toInt_lt, Int64.lt_iff_toInt_lt, ← Int32.toInt_inj, ← Int64.toInt_inj, Int32.reduceToInt, Int64.reduceToInt, not_true_eq_false, not_false_eq_true, false_and, and_false, true_and, and_true, false_or, or_false, true_or, or_true] at hv230
  try simp only [Int32.reduceAdd, Int32.reduceSub, Int32.reduceMul, Int64.reduceAdd, Int64.reduceSub, Int64.reduceMul, Int32.lt_iff_toInt_lt, Int64.lt_iff_toInt_lt, ← Int32.toInt_inj, ← Int64.toInt_inj, Int32.reduceToInt, Int64.reduceToInt, not_true_eq_false, not_false_eq_true, false_and, and_false, true_and, and_true, false_or, or_false, true_or, or_true] at hq248
  try simp only [Int32.reduceAdd, Int32.reduceSub, Int32.reduceMul, Int64.reduceAdd, Int64.reduceSub, Int64.reduceMul, Int32.lt_iff_toInt_lt, Int64.lt_iff_toInt_lt, ← Int32.toInt_inj, ← Int64.toInt_inj, Int32.reduceToInt, Int64.reduceToInt, not_true_eq_false, not_false_eq_true, false_and, and_false, true_and, and_true, false_or, or_false, true_or, or_true]
  have := Int32.le_toInt p0; have := Int32.toInt_lt p0
  have := Int32.le_toInt p4; have := Int32.toInt_lt p4
  have := Int32.le_toInt v224; have := Int32.toInt_lt v224
  have := Int32.le_toInt v230; have := Int32.toInt_lt v230
  have bl1 := Int32.le_toInt ex1; have bu1 := Int32.toInt_lt ex1
  have fa1 := c_mask p0 (255 : Int32) 8 (by decide) (by decide); rw [hex1] at fa1; try simp only [Int32.reduceAdd, Int32.reduceSub, Int32.reduceToInt, Int64.reduceToInt] at fa1
  clear hex1
  have bl2 := Int32.le_toInt ex2; have bu2 := Int32.toInt_lt ex2
  have fa2 := c_iadd (1 : Int32) ex1; rw [hex2] at fa2; try simp only [Int32.reduceAdd, Int32.reduceSub, Int32.reduceToInt, Int64.reduceToInt] at fa2
  clear hex2
  have bl3 := Int32.le_toInt ex3; have bu3 := Int32.toInt_lt ex3
  have fa3 := c_mask p4 (2147483647 : Int32) 31 (by decide) (by decide); rw [hex3] at fa3; try simp only [Int32.reduceAdd, Int32.reduceSub, Int32.reduceToInt, Int64.reduceToInt] at fa3
  clear hex3
  have bl4 := Int32.le_toInt ex4; have bu4 := Int32.toInt_lt ex4
  have fa4 := c_iremV ex3 v224; rw [hex4] at fa4; try simp only [Int32.reduceAdd, Int32.reduceSub, Int32.reduceToInt, Int64.reduceToInt] at fa4
  first | (have fb4 := fa4.1 (by omega) (by omega); clear fa4) | (have fb4 := fa4.2 (by omega) (by omega); clear fa4) | skip
  clear hex4
  have bl5 := Int32.le_toInt ex5; have bu5 := Int32.toInt_lt ex5
  have fa5 := c_idiv v230 (64 : Int32) (64) (by decide) (by decide); rw [hex5] at fa5; try simp only [Int32.reduceAdd, Int32.reduceSub, Int32.reduceToInt, Int64.reduceToInt] at fa5
  first | (have fb5 := fa5.1 (by omega); clear fa5) | (have fb5 := fa5.2 (by omega); clear fa5) | skip
  clear hex5
  have bl6 := Int32.le_toInt ex6; have bu6 := Int32.toInt_lt ex6
  have fa6 := c_iadd v224 (64 : Int32); rw [hex6] at fa6; try simp only [Int32.reduceAdd, Int32.reduceSub, Int32.reduceToInt, Int64.reduceToInt] at fa6
  clear hex6
  have bl7 := Int32.le_toInt ex7; have bu7 := Int32.toInt_lt ex7
  have fa7 := c_isub ex6 (1 : Int32); rw [hex7] at fa7; try simp only [Int32.reduceAdd, Int32.reduceSub, Int32.reduceToInt, Int64.reduceToInt] at fa7
  clear hex7
  have bl8 := Int32.le_toInt ex8; have bu8 := Int32.toInt_lt ex8
  have fa8 := c_idiv ex7 (64 : Int32) (64) (by decide) (by decide); rw [hex8] at fa8; try simp only [Int32.reduceAdd, Int32.reduceSub, Int32.reduceToInt, Int64.reduceToInt] at fa8
  first | (have fb8 := fa8.1 (by omega); clear fa8) | (have fb8 := fa8.2 (by omega); clear fa8) | skip
  clear hex8
  all_goals omega
set_option maxRecDepth 65536 in
set_option maxHeartbeats 40000000 in
theorem own_side469 (p0 : Int32) (v224 : Int32) (hv224 : v224 = ((1 : Int32) + (p0 &&& (255 : Int32)))) (hq248 : mm243 ≠ bb244) : ¬ ((4 : Int32) < (((v224 + (64 : Int32)) - (1 : Int32)) / (64 : Int32))) := by
  generalize hex1 : (p0 &&& (255 : Int32)) = ex1 at *
  generalize hex2 : ((1 : Int32) + ex1) = ex2 at *
  generalize hex3 : (v224 + (64 : Int32)) = ex3 at *
  generalize hex4 : (ex3 - (1 : Int32)) = ex4 at *
  generalize hex5 : (ex4 / (64 : Int32)) = ex5 at *
  try simp only [Int32.reduceAdd, Int32.reduceSub, Int32.reduceMul, Int64.reduceAdd, Int64.reduceSub, Int64.reduceMul, Int32.lt_iff_toInt_lt, Int64.lt_iff_toInt_lt, ← Int32.toInt_inj, ← Int64.toInt_inj, Int32.reduceToInt, Int64.reduceToInt, not_true_eq_false, not_false_eq_true, false_and, and_false, true_and, and_true, false_or, or_false, true_or, or_true] at hv224
  try simp only [Int32.reduceAdd, Int32.reduceSub, Int32.reduceMul, Int64.reduceAdd, Int64.reduceSub, Int64.reduceMul, Int32.lt_iff_toInt_lt, Int64.lt_iff_toInt_lt, ← Int32.toInt_inj, ← Int64.toInt_inj, Int32.reduceToInt, Int64.reduceToInt, not_true_eq_false, not_false_eq_true, false_and, and_false, true_and, and_true, false_or, or_false, true_or, or_true] at hq248
  try simp only [Int32.reduceAdd, Int32.reduceSub, Int32.reduceMul, Int64.reduceAdd, Int64.reduceSub, Int64.reduceMul, Int32.lt_iff_toInt_lt, Int64.lt_iff_toInt_lt, ← Int32.toInt_inj, ← Int64.toInt_inj, Int32.reduceToInt, Int64.reduceToInt, not_true_eq_false, not_false_eq_true, false_and, and_false, true_and, and_true, false_or, or_false, true_or, or_true]
  have := Int32.le_toInt p0; have := Int32.toInt_lt p0
  have := Int32.le_toInt v224; have := Int32.toInt_lt v224
  have bl1 := Int32.le_toInt ex1; have bu1 := Int32.toInt_lt ex1
  have fa1 := c_mask p0 (255 : Int32) 8 (by decide) (by decide); rw [hex1] at fa1; try simp only [Int32.reduceAdd, Int32.reduceSub, Int32.reduceToInt, Int64.reduceToInt] at fa1
  clear hex1
  have bl2 := Int32.le_toInt ex2; have bu2 := Int32.toInt_lt ex2
  have fa2 := c_iadd (1 : Int32) ex1; rw [hex2] at fa2; try simp only [Int32.reduceAdd, Int32.reduceSub, Int32.reduceToInt, Int64.reduceToInt] at fa2
  clear hex2
  have bl3 := Int32.le_toInt ex3; have bu3 := Int32.toInt_lt ex3
  have fa3 := c_iadd v224 (64 : Int32); rw [hex3] at fa3; try simp only [Int32.reduceAdd, Int32.reduceSub, Int32.reduceToInt, Int64.reduceToInt] at fa3
  clear hex3
  have bl4 := Int32.le_toInt ex4; have bu4 := Int32.toInt_lt ex4
  have fa4 := c_isub ex3 (1 : Int32); rw [hex4] at fa4; try simp only [Int32.reduceAdd, Int32.reduceSub, Int32.reduceToInt, Int64.reduceToInt] at fa4
  clear hex4
  have bl5 := Int32.le_toInt ex5; have bu5 := Int32.toInt_lt ex5
  have fa5 := c_idiv ex4 (64 : Int32) (64) (by decide) (by decide); rw [hex5] at fa5; try simp only [Int32.reduceAdd, Int32.reduceSub, Int32.reduceToInt, Int64.reduceToInt] at fa5
  first | (have fb5 := fa5.1 (by omega); clear fa5) | (have fb5 := fa5.2 (by omega); clear fa5) | skip
  clear hex5
  all_goals omega
set_option maxRecDepth 65536 in
set_option maxHeartbeats 40000000 in
theorem own_side487 (p0 : Int32) (v224 : Int32) (hv224 : v224 = ((1 : Int32) + (p0 &&& (255 : Int32)))) (hq248 : mm243 ≠ bb244) : ¬ ((4 : Int32) < (((v224 + (64 : Int32)) - (1 : Int32)) / (64 : Int32))) := by
  generalize hex1 : (p0 &&& (255 : Int32)) = ex1 at *
  generalize hex2 : ((1 : Int32) + ex1) = ex2 at *
  generalize hex3 : (v224 + (64 : Int32)) = ex3 at *
  generalize hex4 : (ex3 - (1 : Int32)) = ex4 at *
  generalize hex5 : (ex4 / (64 : Int32)) = ex5 at *
  try simp only [Int32.reduceAdd, Int32.reduceSub, Int32.reduceMul, Int64.reduceAdd, Int64.reduceSub, Int64.reduceMul, Int32.lt_iff_toInt_lt, Int64.lt_iff_toInt_lt, ← Int32.toInt_inj, ← Int64.toInt_inj, Int32.reduceToInt, Int64.reduceToInt, not_true_eq_false, not_false_eq_true, false_and, and_false, true_and, and_true, false_or, or_false, true_or, or_true] at hv224
  try simp only [Int32.reduceAdd, Int32.reduceSub, Int32.reduceMul, Int64.reduceAdd, Int64.reduceSub, Int64.reduceMul, Int32.lt_iff_toInt_lt, Int64.lt_iff_toInt_lt, ← Int32.toInt_inj, ← Int64.toInt_inj, Int32.reduceToInt, Int64.reduceToInt, not_true_eq_false, not_false_eq_true, false_and, and_false, true_and, and_true, false_or, or_false, true_or, or_true] at hq248
  try simp only [Int32.reduceAdd, Int32.reduceSub, Int32.reduceMul, Int64.reduceAdd, Int64.reduceSub, Int64.reduceMul, Int32.lt_iff_toInt_lt, Int64.lt_iff_toInt_lt, ← Int32.toInt_inj, ← Int64.toInt_inj, Int32.reduceToInt, Int64.reduceToInt, not_true_eq_false, not_false_eq_true, false_and, and_false, true_and, and_true, false_or, or_false, true_or, or_true]
  have := Int32.le_toInt p0; have := Int32.toInt_lt p0
  have := Int32.le_toInt v224; have := Int32.toInt_lt v224
  have bl1 := Int32.le_toInt ex1; have bu1 := Int32.toInt_lt ex1
  have fa1 := c_mask p0 (255 : Int32) 8 (by decide) (by decide); rw [hex1] at fa1; try simp only [Int32.reduceAdd, Int32.reduceSub, Int32.reduceToInt, Int64.reduceToInt] at fa1
  clear hex1
  have bl2 := Int32.le_toInt ex2; have bu2 := Int32.toInt_lt ex2
  have fa2 := c_iadd (1 : Int32) ex1; rw [hex2] at fa2; try simp only [Int32.reduceAdd, Int32.reduceSub, Int32.reduceToInt, Int64.reduceToInt] at fa2
  clear hex2
  have bl3 := Int32.le_toInt ex3; have bu3 := Int32.toInt_lt ex3
  have fa3 := c_iadd v224 (64 : Int32); rw [hex3] at fa3; try simp only [Int32.reduceAdd, Int32.reduceSub, Int32.reduceToInt, Int64.reduceToInt] at fa3
  clear hex3
  have bl4 := Int32.le_toInt ex4; have bu4 := Int32.toInt_lt ex4
  have fa4 := c_isub ex3 (1 : Int32); rw [hex4] at fa4; try simp only [Int32.reduceAdd, Int32.reduceSub, Int32.reduceToInt, Int64.reduceToInt] at fa4
  clear hex4
  have bl5 := Int32.le_toInt ex5; have bu5 := Int32.toInt_lt ex5
  have fa5 := c_idiv ex4 (64 : Int32) (64) (by decide) (by decide); rw [hex5] at fa5; try simp only [Int32.reduceAdd, Int32.reduceSub, Int32.reduceToInt, Int64.reduceToInt] at fa5
  first | (have fb5 := fa5.1 (by omega); clear fa5) | (have fb5 := fa5.2 (by omega); clear fa5) | skip
  clear hex5
  all_goals omega
set_option maxRecDepth 65536 in
set_option maxHeartbeats 40000000 in
theorem own_side502 (p0 : Int32) (p2 : Int32) (v224 : Int32) (hv224 : v224 = ((1 : Int32) + (p0 &&& (255 : Int32)))) (v226 : Int32) (hv226 : v226 = ((p2 &&& (2147483647 : Int32)) % v224)) (hq248 : mm243 ≠ bb244) : own_In (((v224 + (64 : Int32)) - (1 : Int32)) / (64 : Int32)) v226 := by
  unfold own_In
  generalize hex1 : (p0 &&& (255 : Int32)) = ex1 at *
  generalize hex2 : ((1 : Int32) + ex1) = ex2 at *
  generalize hex3 : (p2 &&& (2147483647 : Int32)) = ex3 at *
  generalize hex4 : (ex3 % v224) = ex4 at *
  generalize hex5 : (v226 / (64 : Int32)) = ex5 at *
  generalize hex6 : (v224 + (64 : Int32)) = ex6 at *
  generalize hex7 : (ex6 - (1 : Int32)) = ex7 at *
  generalize hex8 : (ex7 / (64 : Int32)) = ex8 at *
  try simp only [Int32.reduceAdd, Int32.reduceSub, Int32.reduceMul, Int64.reduceAdd, Int64.reduceSub, Int64.reduceMul, Int32.lt_iff_toInt_lt, Int64.lt_iff_toInt_lt, ← Int32.toInt_inj, ← Int64.toInt_inj, Int32.reduceToInt, Int64.reduceToInt, not_true_eq_false, not_false_eq_true, false_and, and_false, true_and, and_true, false_or, or_false, true_or, or_true] at hv224
  try simp only [Int32.reduceAdd, Int32.reduceSub, Int32.reduceMul, Int64.reduceAdd, Int64.reduceSub, Int64.reduceMul, Int32.lt_iff_toInt_lt, Int64.lt_iff_toInt_lt, ← Int32.toInt_inj, ← Int64.toInt_inj, Int32.reduceToInt, Int64.reduceToInt, not_true_eq_false, not_false_eq_true, false_and, and_false, true_and, and_true, false_or, or_false, true_or, or_true] at hv226
  try simp only [Int32.reduceAdd, Int32.reduceSub, Int32.reduceMul, Int64.reduceAdd, Int64.reduceSub, Int64.reduceMul, Int32.lt_iff_toInt_lt, Int64.lt_iff_toInt_lt, ← Int32.toInt_inj, ← Int64.toInt_inj, Int32.reduceToInt, Int64.reduceToInt, not_true_eq_false, not_false_eq_true, false_and, and_false, true_and, and_true, false_or, or_false, true_or, or_true] at hq248
  try simp only [Int32.reduceAdd, Int32.reduceSub, Int32.reduceMul, Int64.reduceAdd, Int64.reduceSub, Int64.reduceMul, Int32.lt_iff_toInt_lt, Int64.lt_iff_toInt_lt, ← Int32.toInt_inj, ← Int64.toInt_inj, Int32.reduceToInt, Int64.reduceToInt, not_true_eq_false, not_false_eq_true, false_and, and_false, true_and, and_true, false_or, or_false, true_or, or_true]
  have := Int32.le_toInt p0; have := Int32.toInt_lt p0
  have := Int32.le_toInt p2; have := Int32.toInt_lt p2
  have := Int32.le_toInt v224; have := Int32.toInt_lt v224
  have := Int32.le_toInt v226; have := Int32.toInt_lt v226
  have bl1 := Int32.le_toInt ex1; have bu1 := Int32.toInt_lt ex1
  have fa1 := c_mask p0 (255 : Int32) 8 (by decide) (by decide); rw [hex1] at fa1; try simp only [Int32.reduceAdd, Int32.reduceSub, Int32.reduceToInt, Int64.reduceToInt] at fa1
  clear hex1
  have bl2 := Int32.le_toInt ex2; have bu2 := Int32.toInt_lt ex2
  have fa2 := c_iadd (1 : Int32) ex1; rw [hex2] at fa2; try simp only [Int32.reduceAdd, Int32.reduceSub, Int32.reduceToInt, Int64.reduceToInt] at fa2
  clear hex2
  have bl3 := Int32.le_toInt ex3; have bu3 := Int32.toInt_lt ex3
  have fa3 := c_mask p2 (2147483647 : Int32) 31 (by decide) (by decide); rw [hex3] at fa3; try simp only [Int32.reduceAdd, Int32.reduceSub, Int32.reduceToInt, Int64.reduceToInt] at fa3
  clear hex3
  have bl4 := Int32.le_toInt ex4; have bu4 := Int32.toInt_lt ex4
  have fa4 := c_iremV ex3 v224; rw [hex4] at fa4; try simp only [Int32.reduceAdd, Int32.reduceSub, Int32.reduceToInt, Int64.reduceToInt] at fa4
  first | (have fb4 := fa4.1 (by omega) (by omega); clear fa4) | (have fb4 := fa4.2 (by omega) (by omega); clear fa4) | skip
  clear hex4
  have bl5 := Int32.le_toInt ex5; have bu5 := Int32.toInt_lt ex5
  have fa5 := c_idiv v226 (64 : Int32) (64) (by decide) (by decide); rw [hex5] at fa5; try simp only [Int32.reduceAdd, Int32.reduceSub, Int32.reduceToInt, Int64.reduceToInt] at fa5
  first | (have fb5 := fa5.1 (by omega); clear fa5) | (have fb5 := fa5.2 (by omega); clear fa5) | skip
  clear hex5
  have bl6 := Int32.le_toInt ex6; have bu6 := Int32.toInt_lt ex6
  have fa6 := c_iadd v224 (64 : Int32); rw [hex6] at fa6; try simp only [Int32.reduceAdd, Int32.reduceSub, Int32.reduceToInt, Int64.reduceToInt] at fa6
  clear hex6
  have bl7 := Int32.le_toInt ex7; have bu7 := Int32.toInt_lt ex7
  have fa7 := c_isub ex6 (1 : Int32); rw [hex7] at fa7; try simp only [Int32.reduceAdd, Int32.reduceSub, Int32.reduceToInt, Int64.reduceToInt] at fa7
  clear hex7
  have bl8 := Int32.le_toInt ex8; have bu8 := Int32.toInt_lt ex8
  have fa8 := c_idiv ex7 (64 : Int32) (64) (by decide) (by decide); rw [hex8] at fa8; try simp only [Int32.reduceAdd, Int32.reduceSub, Int32.reduceToInt, Int64.reduceToInt] at fa8
  first | (have fb8 := fa8.1 (by omega); clear fa8) | (have fb8 := fa8.2 (by omega); clear fa8) | skip
  clear hex8
  all_goals omega
set_option maxRecDepth 65536 in
set_option maxHeartbeats 40000000 in
theorem own_side503 (p0 : Int32) (v224 : Int32) (hv224 : v224 = ((1 : Int32) + (p0 &&& (255 : Int32)))) (hq248 : mm243 ≠ bb244) : ¬ ((4 : Int32) < (((v224 + (64 : Int32)) - (1 : Int32)) / (64 : Int32))) := by
  generalize hex1 : (p0 &&& (255 : Int32)) = ex1 at *
  generalize hex2 : ((1 : Int32) + ex1) = ex2 at *
  generalize hex3 : (v224 + (64 : Int32)) = ex3 at *
  generalize hex4 : (ex3 - (1 : Int32)) = ex4 at *
  generalize hex5 : (ex4 / (64 : Int32)) = ex5 at *
  try simp only [Int32.reduceAdd, Int32.reduceSub, Int32.reduceMul, Int64.reduceAdd, Int64.reduceSub, Int64.reduceMul, Int32.lt_iff_toInt_lt, Int64.lt_iff_toInt_lt, ← Int32.toInt_inj, ← Int64.toInt_inj, Int32.reduceToInt, Int64.reduceToInt, not_true_eq_false, not_false_eq_true, false_and, and_false, true_and, and_true, false_or, or_false, true_or, or_true] at hv224
  try simp only [Int32.reduceAdd, Int32.reduceSub, Int32.reduceMul, Int64.reduceAdd, Int64.reduceSub, Int64.reduceMul, Int32.lt_iff_toInt_lt, Int64.lt_iff_toInt_lt, ← Int32.toInt_inj, ← Int64.toInt_inj, Int32.reduceToInt, Int64.reduceToInt, not_true_eq_false, not_false_eq_true, false_and, and_false, true_and, and_true, false_or, or_false, true_or, or_true] at hq248
  try simp only [Int32.reduceAdd, Int32.reduceSub, Int32.reduceMul, Int64.reduceAdd, Int64.reduceSub, Int64.reduceMul, Int32.lt_iff_toInt_lt, Int64.lt_iff_toInt_lt, ← Int32.toInt_inj, ← Int64.toInt_inj, Int32.reduceToInt, Int64.reduceToInt, not_true_eq_false, not_false_eq_true, false_and, and_false, true_and, and_true, false_or, or_false, true_or, or_true]
  have := Int32.le_toInt p0; have := Int32.toInt_lt p0
  have := Int32.le_toInt v224; have := Int32.toInt_lt v224
  have bl1 := Int32.le_toInt ex1; have bu1 := Int32.toInt_lt ex1
  have fa1 := c_mask p0 (255 : Int32) 8 (by decide) (by decide); rw [hex1] at fa1; try simp only [Int32.reduceAdd, Int32.reduceSub, Int32.reduceToInt, Int64.reduceToInt] at fa1
  clear hex1
  have bl2 := Int32.le_toInt ex2; have bu2 := Int32.toInt_lt ex2
  have fa2 := c_iadd (1 : Int32) ex1; rw [hex2] at fa2; try simp only [Int32.reduceAdd, Int32.reduceSub, Int32.reduceToInt, Int64.reduceToInt] at fa2
  clear hex2
  have bl3 := Int32.le_toInt ex3; have bu3 := Int32.toInt_lt ex3
  have fa3 := c_iadd v224 (64 : Int32); rw [hex3] at fa3; try simp only [Int32.reduceAdd, Int32.reduceSub, Int32.reduceToInt, Int64.reduceToInt] at fa3
  clear hex3
  have bl4 := Int32.le_toInt ex4; have bu4 := Int32.toInt_lt ex4
  have fa4 := c_isub ex3 (1 : Int32); rw [hex4] at fa4; try simp only [Int32.reduceAdd, Int32.reduceSub, Int32.reduceToInt, Int64.reduceToInt] at fa4
  clear hex4
  have bl5 := Int32.le_toInt ex5; have bu5 := Int32.toInt_lt ex5
  have fa5 := c_idiv ex4 (64 : Int32) (64) (by decide) (by decide); rw [hex5] at fa5; try simp only [Int32.reduceAdd, Int32.reduceSub, Int32.reduceToInt, Int64.reduceToInt] at fa5
  first | (have fb5 := fa5.1 (by omega); clear fa5) | (have fb5 := fa5.2 (by omega); clear fa5) | skip
  clear hex5
  all_goals omega
set_option maxRecDepth 65536 in
set_option maxHeartbeats 40000000 in
theorem own_side507 (p0 : Int32) (p3 : Int32) (v224 : Int32) (hv224 : v224 = ((1 : Int32) + (p0 &&& (255 : Int32)))) (v228 : Int32) (hv228 : v228 = ((p3 &&& (2147483647 : Int32)) % v224)) (hq248 : mm243 ≠ bb244) : own_In (((v224 + (64 : Int32)) - (1 : Int32)) / (64 : Int32)) v228 := by
  unfold own_In
  generalize hex1 : (p0 &&& (255 : Int32)) = ex1 at *
  generalize hex2 : ((1 : Int32) + ex1) = ex2 at *
  generalize hex3 : (p3 &&& (2147483647 : Int32)) = ex3 at *
  generalize hex4 : (ex3 % v224) = ex4 at *
  generalize hex5 : (v228 / (64 : Int32)) = ex5 at *
  generalize hex6 : (v224 + (64 : Int32)) = ex6 at *
  generalize hex7 : (ex6 - (1 : Int32)) = ex7 at *
  generalize hex8 : (ex7 / (64 : Int32)) = ex8 at *
  try simp only [Int32.reduceAdd, Int32.reduceSub, Int32.reduceMul, Int64.reduceAdd, Int64.reduceSub, Int64.reduceMul, Int32.lt_iff_toInt_lt, Int64.lt_iff_toInt_lt, ← Int32.toInt_inj, ← Int64.toInt_inj, Int32.reduceToInt, Int64.reduceToInt, not_true_eq_false, not_false_eq_true, false_and, and_false, true_and, and_true, false_or, or_false, true_or, or_true] at hv224
  try simp only [Int32.reduceAdd, Int32.reduceSub, Int32.reduceMul, Int64.reduceAdd, Int64.reduceSub, Int64.reduceMul, Int32.lt_iff_toInt_lt, Int64.lt_iff_toInt_lt, ← Int32.toInt_inj, ← Int64.toInt_inj, Int32.reduceToInt, Int64.reduceToInt, not_true_eq_false, not_false_eq_true, false_and, and_false, true_and, and_true, false_or, or_false, true_or, or_true] at hv228
  try simp only [Int32.reduceAdd, Int32.reduceSub, Int32.reduceMul, Int64.reduceAdd, Int64.reduceSub, Int64.reduceMul, Int32.lt_iff_toInt_lt, Int64.lt_iff_toInt_lt, ← Int32.toInt_inj, ← Int64.toInt_inj, Int32.reduceToInt, Int64.reduceToInt, not_true_eq_false, not_false_eq_true, false_and, and_false, true_and, and_true, false_or, or_false, true_or, or_true] at hq248
  try simp only [Int32.reduceAdd, Int32.reduceSub, Int32.reduceMul, Int64.reduceAdd, Int64.reduceSub, Int64.reduceMul, Int32.lt_iff_toInt_lt, Int64.lt_iff_toInt_lt, ← Int32.toInt_inj, ← Int64.toInt_inj, Int32.reduceToInt, Int64.reduceToInt, not_true_eq_false, not_false_eq_true, false_and, and_false, true_and, and_true, false_or, or_false, true_or, or_true]
  have := Int32.le_toInt p0; have := Int32.toInt_lt p0
  have := Int32.le_toInt p3; have := Int32.toInt_lt p3
  have := Int32.le_toInt v224; have := Int32.toInt_lt v224
  have := Int32.le_toInt v228; have := Int32.toInt_lt v228
  have bl1 := Int32.le_toInt ex1; have bu1 := Int32.toInt_lt ex1
  have fa1 := c_mask p0 (255 : Int32) 8 (by decide) (by decide); rw [hex1] at fa1; try simp only [Int32.reduceAdd, Int32.reduceSub, Int32.reduceToInt, Int64.reduceToInt] at fa1
  clear hex1
  have bl2 := Int32.le_toInt ex2; have bu2 := Int32.toInt_lt ex2
  have fa2 := c_iadd (1 : Int32) ex1; rw [hex2] at fa2; try simp only [Int32.reduceAdd, Int32.reduceSub, Int32.reduceToInt, Int64.reduceToInt] at fa2
  clear hex2
  have bl3 := Int32.le_toInt ex3; have bu3 := Int32.toInt_lt ex3
  have fa3 := c_mask p3 (2147483647 : Int32) 31 (by decide) (by decide); rw [hex3] at fa3; try simp only [Int32.reduceAdd, Int32.reduceSub, Int32.reduceToInt, Int64.reduceToInt] at fa3
  clear hex3
  have bl4 := Int32.le_toInt ex4; have bu4 := Int32.toInt_lt ex4
  have fa4 := c_iremV ex3 v224; rw [hex4] at fa4; try simp only [Int32.reduceAdd, Int32.reduceSub, Int32.reduceToInt, Int64.reduceToInt] at fa4
  first | (have fb4 := fa4.1 (by omega) (by omega); clear fa4) | (have fb4 := fa4.2 (by omega) (by omega); clear fa4) | skip
  clear hex4
  have bl5 := Int32.le_toInt ex5; have bu5 := Int32.toInt_lt ex5
  have fa5 := c_idiv v228 (64 : Int32) (64) (by decide) (by decide); rw [hex5] at fa5; try simp only [Int32.reduceAdd, Int32.reduceSub, Int32.reduceToInt, Int64.reduceToInt] at fa5
  first | (have fb5 := fa5.1 (by omega); clear fa5) | (have fb5 := fa5.2 (by omega); clear fa5) | skip
  clear hex5
  have bl6 := Int32.le_toInt ex6; have bu6 := Int32.toInt_lt ex6
  have fa6 := c_iadd v224 (64 : Int32); rw [hex6] at fa6; try simp only [Int32.reduceAdd, Int32.reduceSub, Int32.reduceToInt, Int64.reduceToInt] at fa6
  clear hex6
  have bl7 := Int32.le_toInt ex7; have bu7 := Int32.toInt_lt ex7
  have fa7 := c_isub ex6 (1 : Int32); rw [hex7] at fa7; try simp only [Int32.reduceAdd, Int32.reduceSub, Int32.reduceToInt, Int64.reduceToInt] at fa7
  clear hex7
  have bl8 := Int32.le_toInt ex8; have bu8 := Int32.toInt_lt ex8
  have fa8 := c_idiv ex7 (64 : Int32) (64) (by decide) (by decide); rw [hex8] at fa8; try simp only [Int32.reduceAdd, Int32.reduceSub, Int32.reduceToInt, Int64.reduceToInt] at fa8
  first | (have fb8 := fa8.1 (by omega); clear fa8) | (have fb8 := fa8.2 (by omega); clear fa8) | skip
  clear hex8
  all_goals omega
set_option maxRecDepth 65536 in
set_option maxHeartbeats 40000000 in
theorem own_side508 (p0 : Int32) (v224 : Int32) (hv224 : v224 = ((1 : Int32) + (p0 &&& (255 : Int32)))) (hq248 : mm243 ≠ bb244) : ¬ ((4 : Int32) < (((v224 + (64 : Int32)) - (1 : Int32)) / (64 : Int32))) := by
  generalize hex1 : (p0 &&& (255 : Int32)) = ex1 at *
  generalize hex2 : ((1 : Int32) + ex1) = ex2 at *
  generalize hex3 : (v224 + (64 : Int32)) = ex3 at *
  generalize hex4 : (ex3 - (1 : Int32)) = ex4 at *
  generalize hex5 : (ex4 / (64 : Int32)) = ex5 at *
  try simp only [Int32.reduceAdd, Int32.reduceSub, Int32.reduceMul, Int64.reduceAdd, Int64.reduceSub, Int64.reduceMul, Int32.lt_iff_toInt_lt, Int64.lt_iff_toInt_lt, ← Int32.toInt_inj, ← Int64.toInt_inj, Int32.reduceToInt, Int64.reduceToInt, not_true_eq_false, not_false_eq_true, false_and, and_false, true_and, and_true, false_or, or_false, true_or, or_true] at hv224
  try simp only [Int32.reduceAdd, Int32.reduceSub, Int32.reduceMul, Int64.reduceAdd, Int64.reduceSub, Int64.reduceMul, Int32.lt_iff_toInt_lt, Int64.lt_iff_toInt_lt, ← Int32.toInt_inj, ← Int64.toInt_inj, Int32.reduceToInt, Int64.reduceToInt, not_true_eq_false, not_false_eq_true, false_and, and_false, true_and, and_true, false_or, or_false, true_or, or_true] at hq248
  try simp only [Int32.reduceAdd, Int32.reduceSub, Int32.reduceMul, Int64.reduceAdd, Int64.reduceSub, Int64.reduceMul, Int32.lt_iff_toInt_lt, Int64.lt_iff_toInt_lt, ← Int32.toInt_inj, ← Int64.toInt_inj, Int32.reduceToInt, Int64.reduceToInt, not_true_eq_false, not_false_eq_true, false_and, and_false, true_and, and_true, false_or, or_false, true_or, or_true]
  have := Int32.le_toInt p0; have := Int32.toInt_lt p0
  have := Int32.le_toInt v224; have := Int32.toInt_lt v224
  have bl1 := Int32.le_toInt ex1; have bu1 := Int32.toInt_lt ex1
  have fa1 := c_mask p0 (255 : Int32) 8 (by decide) (by decide); rw [hex1] at fa1; try simp only [Int32.reduceAdd, Int32.reduceSub, Int32.reduceToInt, Int64.reduceToInt] at fa1
  clear hex1
  have bl2 := Int32.le_toInt ex2; have bu2 := Int32.toInt_lt ex2
  have fa2 := c_iadd (1 : Int32) ex1; rw [hex2] at fa2; try simp only [Int32.reduceAdd, Int32.reduceSub, Int32.reduceToInt, Int64.reduceToInt] at fa2
  clear hex2
  have bl3 := Int32.le_toInt ex3; have bu3 := Int32.toInt_lt ex3
  have fa3 := c_iadd v224 (64 : Int32); rw [hex3] at fa3; try simp only [Int32.reduceAdd, Int32.reduceSub, Int32.reduceToInt, Int64.reduceToInt] at fa3
  clear hex3
  have bl4 := Int32.le_toInt ex4; have bu4 := Int32.toInt_lt ex4
  have fa4 := c_isub ex3 (1 : Int32); rw [hex4] at fa4; try simp only [Int32.reduceAdd, Int32.reduceSub, Int32.reduceToInt, Int64.reduceToInt] at fa4
  clear hex4
  have bl5 := Int32.le_toInt ex5; have bu5 := Int32.toInt_lt ex5
  have fa5 := c_idiv ex4 (64 : Int32) (64) (by decide) (by decide); rw [hex5] at fa5; try simp only [Int32.reduceAdd, Int32.reduceSub, Int32.reduceToInt, Int64.reduceToInt] at fa5
  first | (have fb5 := fa5.1 (by omega); clear fa5) | (have fb5 := fa5.2 (by omega); clear fa5) | skip
  clear hex5
  all_goals omega
set_option maxRecDepth 65536 in
set_option maxHeartbeats 40000000 in
theorem own_side512 (p0 : Int32) (p4 : Int32) (v224 : Int32) (hv224 : v224 = ((1 : Int32) + (p0 &&& (255 : Int32)))) (v230 : Int32) (hv230 : v230 = ((p4 &&& (2147483647 : Int32)) % v224)) (hq248 : mm243 ≠ bb244) : own_In (((v224 + (64 : Int32)) - (1 : Int32)) / (64 : Int32)) v230 := by
  unfold own_In
  generalize hex1 : (p0 &&& (255 : Int32)) = ex1 at *
  generalize hex2 : ((1 : Int32) + ex1) = ex2 at *
  generalize hex3 : (p4 &&& (2147483647 : Int32)) = ex3 at *
  generalize hex4 : (ex3 % v224) = ex4 at *
  generalize hex5 : (v230 / (64 : Int32)) = ex5 at *
  generalize hex6 : (v224 + (64 : Int32)) = ex6 at *
  generalize hex7 : (ex6 - (1 : Int32)) = ex7 at *
  generalize hex8 : (ex7 / (64 : Int32)) = ex8 at *
  try simp only [Int32.reduceAdd, Int32.reduceSub, Int32.reduceMul, Int64.reduceAdd, Int64.reduceSub, Int64.reduceMul, Int32.lt_iff_toInt_lt, Int64.lt_iff_toInt_lt, ← Int32.toInt_inj, ← Int64.toInt_inj, Int32.reduceToInt, Int64.reduceToInt, not_true_eq_false, not_false_eq_true, false_and, and_false, true_and, and_true, false_or, or_false, true_or, or_true] at hv224
  try simp only [Int32.reduceAdd, Int32.reduceSub, Int32.reduceMul, Int64.reduceAdd, Int64.reduceSub, Int64.reduceMul, Int32.lt_iff_toInt_lt, Int64.lt_iff_toInt_lt, ← Int32.toInt_inj, ← Int64.toInt_inj, Int32.reduceToInt, Int64.reduceToInt, not_true_eq_false, not_false_eq_true, false_and, and_false, true_and, and_true, false_or, or_false, true_or, or_true] at hv230
  try simp only [Int32.reduceAdd, Int32.reduceSub, Int32.reduceMul, Int64.reduceAdd, Int64.reduceSub, Int64.reduceMul, Int32.lt_iff_toInt_lt, Int64.lt_iff_toInt_lt, ← Int32.toInt_inj, ← Int64.toInt_inj, Int32.reduceToInt, Int64.reduceToInt, not_true_eq_false, not_false_eq_true, false_and, and_false, true_and, and_true, false_or, or_false, true_or, or_true] at hq248
  try simp only [Int32.reduceAdd, Int32.reduceSub, Int32.reduceMul, Int64.reduceAdd, Int64.reduceSub, Int64.reduceMul, Int32.lt_iff_toInt_lt, Int64.lt_iff_toInt_lt, ← Int32.toInt_inj, ← Int64.toInt_inj, Int32.reduceToInt, Int64.reduceToInt, not_true_eq_false, not_false_eq_true, false_and, and_false, true_and, and_true, false_or, or_false, true_or, or_true]
  have := Int32.le_toInt p0; have := Int32.toInt_lt p0
  have := Int32.le_toInt p4; have := Int32.toInt_lt p4
  have := Int32.le_toInt v224; have := Int32.toInt_lt v224
  have := Int32.le_toInt v230; have := Int32.toInt_lt v230
  have bl1 := Int32.le_toInt ex1; have bu1 := Int32.toInt_lt ex1
  have fa1 := c_mask p0 (255 : Int32) 8 (by decide) (by decide); rw [hex1] at fa1; try simp only [Int32.reduceAdd, Int32.reduceSub, Int32.reduceToInt, Int64.reduceToInt] at fa1
  clear hex1
  have bl2 := Int32.le_toInt ex2; have bu2 := Int32.toInt_lt ex2
  have fa2 := c_iadd (1 : Int32) ex1; rw [hex2] at fa2; try simp only [Int32.reduceAdd, Int32.reduceSub, Int32.reduceToInt, Int64.reduceToInt] at fa2
  clear hex2
  have bl3 := Int32.le_toInt ex3; have bu3 := Int32.toInt_lt ex3
  have fa3 := c_mask p4 (2147483647 : Int32) 31 (by decide) (by decide); rw [hex3] at fa3; try simp only [Int32.reduceAdd, Int32.reduceSub, Int32.reduceToInt, Int64.reduceToInt] at fa3
  clear hex3
  have bl4 := Int32.le_toInt ex4; have bu4 := Int32.toInt_lt ex4
  have fa4 := c_iremV ex3 v224; rw [hex4] at fa4; try simp only [Int32.reduceAdd, Int32.reduceSub, Int32.reduceToInt, Int64.reduceToInt] at fa4
  first | (have fb4 := fa4.1 (by omega) (by omega); clear fa4) | (have fb4 := fa4.2 (by omega) (by omega); clear fa4) | skip
  clear hex4
  have bl5 := Int32.le_toInt ex5; have bu5 := Int32.toInt_lt ex5
  have fa5 := c_idiv v230 (64 : Int32) (64) (by decide) (by decide); rw [hex5] at fa5; try simp only [Int32.reduceAdd, Int32.reduceSub, Int32.reduceToInt, Int64.reduceToInt] at fa5
  first | (have fb5 := fa5.1 (by omega); clear fa5) | (have fb5 := fa5.2 (by omega); clear fa5) | skip
  clear hex5
  have bl6 := Int32.le_toInt ex6; have bu6 := Int32.toInt_lt ex6
  have fa6 := c_iadd v224 (64 : Int32); rw [hex6] at fa6; try simp only [Int32.reduceAdd, Int32.reduceSub, Int32.reduceToInt, Int64.reduceToInt] at fa6
  clear hex6
  have bl7 := Int32.le_toInt ex7; have bu7 := Int32.toInt_lt ex7
  have fa7 := c_isub ex6 (1 : Int32); rw [hex7] at fa7; try simp only [Int32.reduceAdd, Int32.reduceSub, Int32.reduceToInt, Int64.reduceToInt] at fa7
  clear hex7
  have bl8 := Int32.le_toInt ex8; have bu8 := Int32.toInt_lt ex8
  have fa8 := c_idiv ex7 (64 : Int32) (64) (by decide) (by decide); rw [hex8] at fa8; try simp only [Int32.reduceAdd, Int32.reduceSub, Int32.reduceToInt, Int64.reduceToInt] at fa8
  first | (have fb8 := fa8.1 (by omega); clear fa8) | (have fb8 := fa8.2 (by omega); clear fa8) | skip
  clear hex8
  all_goals omega
set_option maxRecDepth 65536 in
set_option maxHeartbeats 40000000 in
theorem own_side513 (p0 : Int32) (v224 : Int32) (hv224 : v224 = ((1 : Int32) + (p0 &&& (255 : Int32)))) (hq248 : mm243 ≠ bb244) : ¬ ((4 : Int32) < (((v224 + (64 : Int32)) - (1 : Int32)) / (64 : Int32))) := by
  generalize hex1 : (p0 &&& (255 : Int32)) = ex1 at *
  generalize hex2 : ((1 : Int32) + ex1) = ex2 at *
  generalize hex3 : (v224 + (64 : Int32)) = ex3 at *
  generalize hex4 : (ex3 - (1 : Int32)) = ex4 at *
  generalize hex5 : (ex4 / (64 : Int32)) = ex5 at *
  try simp only [Int32.reduceAdd, Int32.reduceSub, Int32.reduceMul, Int64.reduceAdd, Int64.reduceSub, Int64.reduceMul, Int32.lt_iff_toInt_lt, Int64.lt_iff_toInt_lt, ← Int32.toInt_inj, ← Int64.toInt_inj, Int32.reduceToInt, Int64.reduceToInt, not_true_eq_false, not_false_eq_true, false_and, and_false, true_and, and_true, false_or, or_false, true_or, or_true] at hv224
  try simp only [Int32.reduceAdd, Int32.reduceSub, Int32.reduceMul, Int64.reduceAdd, Int64.reduceSub, Int64.reduceMul, Int32.lt_iff_toInt_lt, Int64.lt_iff_toInt_lt, ← Int32.toInt_inj, ← Int64.toInt_inj, Int32.reduceToInt, Int64.reduceToInt, not_true_eq_false, not_false_eq_true, false_and, and_false, true_and, and_true, false_or, or_false, true_or, or_true] at hq248
  try simp only [Int32.reduceAdd, Int32.reduceSub, Int32.reduceMul, Int64.reduceAdd, Int64.reduceSub, Int64.reduceMul, Int32.lt_iff_toInt_lt, Int64.lt_iff_toInt_lt, ← Int32.toInt_inj, ← Int64.toInt_inj, Int32.reduceToInt, Int64.reduceToInt, not_true_eq_false, not_false_eq_true, false_and, and_false, true_and, and_true, false_or, or_false, true_or, or_true]
  have := Int32.le_toInt p0; have := Int32.toInt_lt p0
  have := Int32.le_toInt v224; have := Int32.toInt_lt v224
  have bl1 := Int32.le_toInt ex1; have bu1 := Int32.toInt_lt ex1
  have fa1 := c_mask p0 (255 : Int32) 8 (by decide) (by decide); rw [hex1] at fa1; try simp only [Int32.reduceAdd, Int32.reduceSub, Int32.reduceToInt, Int64.reduceToInt] at fa1
  clear hex1
  have bl2 := Int32.le_toInt ex2; have bu2 := Int32.toInt_lt ex2
  have fa2 := c_iadd (1 : Int32) ex1; rw [hex2] at fa2; try simp only [Int32.reduceAdd, Int32.reduceSub, Int32.reduceToInt, Int64.reduceToInt] at fa2
  clear hex2
  have bl3 := Int32.le_toInt ex3; have bu3 := Int32.toInt_lt ex3
  have fa3 := c_iadd v224 (64 : Int32); rw [hex3] at fa3; try simp only [Int32.reduceAdd, Int32.reduceSub, Int32.reduceToInt, Int64.reduceToInt] at fa3
  clear hex3
  have bl4 := Int32.le_toInt ex4; have bu4 := Int32.toInt_lt ex4
  have fa4 := c_isub ex3 (1 : Int32); rw [hex4] at fa4; try simp only [Int32.reduceAdd, Int32.reduceSub, Int32.reduceToInt, Int64.reduceToInt] at fa4
  clear hex4
  have bl5 := Int32.le_toInt ex5; have bu5 := Int32.toInt_lt ex5
  have fa5 := c_idiv ex4 (64 : Int32) (64) (by decide) (by decide); rw [hex5] at fa5; try simp only [Int32.reduceAdd, Int32.reduceSub, Int32.reduceToInt, Int64.reduceToInt] at fa5
  first | (have fb5 := fa5.1 (by omega); clear fa5) | (have fb5 := fa5.2 (by omega); clear fa5) | skip
  clear hex5
  all_goals omega
set_option maxRecDepth 65536 in
set_option maxHeartbeats 40000000 in
theorem own_side517 (p0 : Int32) (p5 : Int32) (v224 : Int32) (hv224 : v224 = ((1 : Int32) + (p0 &&& (255 : Int32)))) (v232 : Int32) (hv232 : v232 = ((p5 &&& (2147483647 : Int32)) % v224)) (hq248 : mm243 ≠ bb244) : own_In (((v224 + (64 : Int32)) - (1 : Int32)) / (64 : Int32)) v232 := by
  unfold own_In
  generalize hex1 : (p0 &&& (255 : Int32)) = ex1 at *
  generalize hex2 : ((1 : Int32) + ex1) = ex2 at *
  generalize hex3 : (p5 &&& (2147483647 : Int32)) = ex3 at *
  generalize hex4 : (ex3 % v224) = ex4 at *
  generalize hex5 : (v232 / (64 : Int32)) = ex5 at *
  generalize hex6 : (v224 + (64 : Int32)) = ex6 at *
  generalize hex7 : (ex6 - (1 : Int32)) = ex7 at *
  generalize hex8 : (ex7 / (64 : Int32)) = ex8 at *
  try simp only [Int32.reduceAdd, Int32.reduceSub, Int32.reduceMul, Int64.reduceAdd, Int64.reduceSub, Int64.reduceMul, Int32.lt_iff_toInt_lt, Int64.lt_iff_toInt_lt, ← Int32.toInt_inj, ← Int64.toInt_inj, Int32.reduceToInt, Int64.reduceToInt, not_true_eq_false, not_false_eq_true, false_and, and_false, true_and, and_true, false_or, or_false, true_or, or_true] at hv224
  try simp only [Int32.reduceAdd, Int32.reduceSub, Int32.reduceMul, Int64.reduceAdd, Int64.reduceSub, Int64.reduceMul, Int32.lt_iff_toInt_lt, Int64.lt_iff_toInt_lt, ← Int32.toInt_inj, ← Int64.toInt_inj, Int32.reduceToInt, Int64.reduceToInt, not_true_eq_false, not_false_eq_true, false_and, and_false, true_and, and_true, false_or, or_false, true_or, or_true] at hv232
  try simp only [Int32.reduceAdd, Int32.reduceSub, Int32.reduceMul, Int64.reduceAdd, Int64.reduceSub, Int64.reduceMul, Int32.lt_iff_toInt_lt, Int64.lt_iff_toInt_lt, ← Int32.toInt_inj, ← Int64.toInt_inj, Int32.reduceToInt, Int64.reduceToInt, not_true_eq_false, not_false_eq_true, false_and, and_false, true_and, and_true, false_or, or_false, true_or, or_true] at hq248
  try simp only [Int32.reduceAdd, Int32.reduceSub, Int32.reduceMul, Int64.reduceAdd, Int64.reduceSub, Int64.reduceMul, Int32.lt_iff_toInt_lt, Int64.lt_iff_toInt_lt, ← Int32.toInt_inj, ← Int64.toInt_inj, Int32.reduceToInt, Int64.reduceToInt, not_true_eq_false, not_false_eq_true, false_and, and_false, true_and, and_true, false_or, or_false, true_or, or_true]
  have := Int32.le_toInt p0; have := Int32.toInt_lt p0
  have := Int32.le_toInt p5; have := Int32.toInt_lt p5
  have := Int32.le_toInt v224; have := Int32.toInt_lt v224
  have := Int32.le_toInt v232; have := Int32.toInt_lt v232
  have bl1 := Int32.le_toInt ex1; have bu1 := Int32.toInt_lt ex1
  have fa1 := c_mask p0 (255 : Int32) 8 (by decide) (by decide); rw [hex1] at fa1; try simp only [Int32.reduceAdd, Int32.reduceSub, Int32.reduceToInt, Int64.reduceToInt] at fa1
  clear hex1
  have bl2 := Int32.le_toInt ex2; have bu2 := Int32.toInt_lt ex2
  have fa2 := c_iadd (1 : Int32) ex1; rw [hex2] at fa2; try simp only [Int32.reduceAdd, Int32.reduceSub, Int32.reduceToInt, Int64.reduceToInt] at fa2
  clear hex2
  have bl3 := Int32.le_toInt ex3; have bu3 := Int32.toInt_lt ex3
  have fa3 := c_mask p5 (2147483647 : Int32) 31 (by decide) (by decide); rw [hex3] at fa3; try simp only [Int32.reduceAdd, Int32.reduceSub, Int32.reduceToInt, Int64.reduceToInt] at fa3
  clear hex3
  have bl4 := Int32.le_toInt ex4; have bu4 := Int32.toInt_lt ex4
  have fa4 := c_iremV ex3 v224; rw [hex4] at fa4; try simp only [Int32.reduceAdd, Int32.reduceSub, Int32.reduceToInt, Int64.reduceToInt] at fa4
  first | (have fb4 := fa4.1 (by omega) (by omega); clear fa4) | (have fb4 := fa4.2 (by omega) (by omega); clear fa4) | skip
  clear hex4
  have bl5 := Int32.le_toInt ex5; have bu5 := Int32.toInt_lt ex5
  have fa5 := c_idiv v232 (64 : Int32) (64) (by decide) (by decide); rw [hex5] at fa5; try simp only [Int32.reduceAdd, Int32.reduceSub, Int32.reduceToInt, Int64.reduceToInt] at fa5
  first | (have fb5 := fa5.1 (by omega); clear fa5) | (have fb5 := fa5.2 (by omega); clear fa5) | skip
  clear hex5
  have bl6 := Int32.le_toInt ex6; have bu6 := Int32.toInt_lt ex6
  have fa6 := c_iadd v224 (64 : Int32); rw [hex6] at fa6; try simp only [Int32.reduceAdd, Int32.reduceSub, Int32.reduceToInt, Int64.reduceToInt] at fa6
  clear hex6
  have bl7 := Int32.le_toInt ex7; have bu7 := Int32.toInt_lt ex7
  have fa7 := c_isub ex6 (1 : Int32); rw [hex7] at fa7; try simp only [Int32.reduceAdd, Int32.reduceSub, Int32.reduceToInt, Int64.reduceToInt] at fa7
  clear hex7
  have bl8 := Int32.le_toInt ex8; have bu8 := Int32.toInt_lt ex8
  have fa8 := c_idiv ex7 (64 : Int32) (64) (by decide) (by decide); rw [hex8] at fa8; try simp only [Int32.reduceAdd, Int32.reduceSub, Int32.reduceToInt, Int64.reduceToInt] at fa8
  first | (have fb8 := fa8.1 (by omega); clear fa8) | (have fb8 := fa8.2 (by omega); clear fa8) | skip
  clear hex8
  all_goals omega
set_option maxRecDepth 65536 in
set_option maxHeartbeats 40000000 in
theorem own_side518 (p0 : Int32) (v224 : Int32) (hv224 : v224 = ((1 : Int32) + (p0 &&& (255 : Int32)))) (hq248 : mm243 ≠ bb244) : ¬ ((4 : Int32) < (((v224 + (64 : Int32)) - (1 : Int32)) / (64 : Int32))) := by
  generalize hex1 : (p0 &&& (255 : Int32)) = ex1 at *
  generalize hex2 : ((1 : Int32) + ex1) = ex2 at *
  generalize hex3 : (v224 + (64 : Int32)) = ex3 at *
  generalize hex4 : (ex3 - (1 : Int32)) = ex4 at *
  generalize hex5 : (ex4 / (64 : Int32)) = ex5 at *
  try simp only [Int32.reduceAdd, Int32.reduceSub, Int32.reduceMul, Int64.reduceAdd, Int64.reduceSub, Int64.reduceMul, Int32.lt_iff_toInt_lt, Int64.lt_iff_toInt_lt, ← Int32.toInt_inj, ← Int64.toInt_inj, Int32.reduceToInt, Int64.reduceToInt, not_true_eq_false, not_false_eq_true, false_and, and_false, true_and, and_true, false_or, or_false, true_or, or_true] at hv224
  try simp only [Int32.reduceAdd, Int32.reduceSub, Int32.reduceMul, Int64.reduceAdd, Int64.reduceSub, Int64.reduceMul, Int32.lt_iff_toInt_lt, Int64.lt_iff_toInt_lt, ← Int32.toInt_inj, ← Int64.toInt_inj, Int32.reduceToInt, Int64.reduceToInt, not_true_eq_false, not_false_eq_true, false_and, and_false, true_and, and_true, false_or, or_false, true_or, or_true] at hq248
  try simp only [Int32.reduceAdd, Int32.reduceSub, Int32.reduceMul, Int64.reduceAdd, Int64.reduceSub, Int64.reduceMul, Int32.lt_iff_toInt_lt, Int64.lt_iff_toInt_lt, ← Int32.toInt_inj, ← Int64.toInt_inj, Int32.reduceToInt, Int64.reduceToInt, not_true_eq_false, not_false_eq_true, false_and, and_false, true_and, and_true, false_or, or_false, true_or, or_true]
  have := Int32.le_toInt p0; have := Int32.toInt_lt p0
  have := Int32.le_toInt v224; have := Int32.toInt_lt v224
  have bl1 := Int32.le_toInt ex1; have bu1 := Int32.toInt_lt ex1
  have fa1 := c_mask p0 (255 : Int32) 8 (by decide) (by decide); rw [hex1] at fa1; try simp only [Int32.reduceAdd, Int32.reduceSub, Int32.reduceToInt, Int64.reduceToInt] at fa1
  clear hex1
  have bl2 := Int32.le_toInt ex2; have bu2 := Int32.toInt_lt ex2
  have fa2 := c_iadd (1 : Int32) ex1; rw [hex2] at fa2; try simp only [Int32.reduceAdd, Int32.reduceSub, Int32.reduceToInt, Int64.reduceToInt] at fa2
  clear hex2
  have bl3 := Int32.le_toInt ex3; have bu3 := Int32.toInt_lt ex3
  have fa3 := c_iadd v224 (64 : Int32); rw [hex3] at fa3; try simp only [Int32.reduceAdd, Int32.reduceSub, Int32.reduceToInt, Int64.reduceToInt] at fa3
  clear hex3
  have bl4 := Int32.le_toInt ex4; have bu4 := Int32.toInt_lt ex4
  have fa4 := c_isub ex3 (1 : Int32); rw [hex4] at fa4; try simp only [Int32.reduceAdd, Int32.reduceSub, Int32.reduceToInt, Int64.reduceToInt] at fa4
  clear hex4
  have bl5 := Int32.le_toInt ex5; have bu5 := Int32.toInt_lt ex5
  have fa5 := c_idiv ex4 (64 : Int32) (64) (by decide) (by decide); rw [hex5] at fa5; try simp only [Int32.reduceAdd, Int32.reduceSub, Int32.reduceToInt, Int64.reduceToInt] at fa5
  first | (have fb5 := fa5.1 (by omega); clear fa5) | (have fb5 := fa5.2 (by omega); clear fa5) | skip
  clear hex5
  all_goals omega
theorem own_pn111 : plainName "archetest/util/StateSetClearPinLaw" = true := by first | (simp [plainName, overriddenIn]; done) | decide +kernel
theorem own_ef0 (m : MethodId) (p0 : Int32) (p1 : Int32) (p2 : Int32) (p3 : Int32) (p4 : Int32) (p5 : Int32) : entryFrame m #[(.int p0), (.int p1), (.int p2), (.int p3), (.int p4), (.int p5)] maxLocals = mkF m 0 #[.val (.int p0), .val (.int p1), .val (.int p2), .val (.int p3), .val (.int p4), .val (.int p5), .unset, .unset, .unset, .unset, .unset, .unset, .unset] [] := by first | (simp [entryFrame, mkF, argsToLocals, Value.category, maxLocals]; done) | rfl
def own_Q0 (Z : State) (p0 : Int32) (p1 : Int32) (p2 : Int32) (p3 : Int32) (p4 : Int32) (p5 : Int32) (h0 : Heap) (n0 : Nat) (v : Option Value) (h : Heap) (L : List Loc) : Prop := v = some (.int 1) ∧ Fr n0 L
set_option maxRecDepth 65536 in
set_option maxHeartbeats 40000000 in
theorem own_rm0 (l : Launch) (Z : State) (av : Array Value) (hw : ∀ d ∈ tables_1, d.before av Z = true) (ws : List Jvm.Cond) (p0 : Int32) (p1 : Int32) (p2 : Int32) (p3 : Int32) (p4 : Int32) (p5 : Int32) (h0 : Heap) (n0 : Nat) (Z0 : n0 ≤ h0.size) :
    MetFree l x (head1 (Jvm.Cond.code x code maxLocals ret :: ws) room_1) (fun a U => a = #[(.int p0), (.int p1), (.int p2), (.int p3), (.int p4), (.int p5)] ∧ Z.Warmed39 U.vm ∧ U.heap = h0) (fun _ _ _ _ _ => True) (fun _ U o U' => ∃ v L, o = .returned v ∧ own_Q0 Z p0 p1 p2 p3 p4 p5 h0 n0 v U'.heap L ∧ FrameEnd U o U' L room_1.cells room_1.slots) := by
  refine MetFree.of_bodySF (plainFor_of_name own_pn111) hisR ?_
  intro p e s m args below meth c s₁ Bd hml0 hP hK
  obtain ⟨rfl, hZ, hh⟩ := hP
  have hx := Bd.exec
  have hby := Bd.bytes
  have hml : c.maxLocals = 13 := hml0
  have hown : s.vm.findClass "archetest/util/StateSetClearPinLaw" = some m.cls := findClass_of_methodNamed Bd.named
  have hnm := (name_of_methodNamed Bd.named Bd.method).1
  have X0 : Stand p l e room_1 s m #[(.int p0), (.int p1), (.int p2), (.int p3), (.int p4), (.int p5)] below meth c s₁ [] 0 0 := Stand.of_body Bd
  have e0 : s₁.heap = h0 := by rw [← hh, Bd.state]; rfl
  have N0 := Fr.nil n0
  have pre0 : ∀ t, Steps p.tables e below (s₁.setTop (mkF m 0 #[.val (.int p0), .val (.int p1), .val (.int p2), .val (.int p3), .val (.int p4), .val (.int p5), .unset, .unset, .unset, .unset, .unset, .unset, .unset] [])) t → Steps p.tables e below (s₁.setTop (entryFrame m #[(.int p0), (.int p1), (.int p2), (.int p3), (.int p4), (.int p5)] maxLocals)) t := fun t k => castTop (own_ef0 m p0 p1 p2 p3 p4 p5) k
  obtain ⟨v224, hv224⟩ : ∃ z : Int32, z = ((1 : Int32) + (p0 &&& (255 : Int32))) := ⟨_, rfl⟩
  obtain ⟨v226, hv226⟩ : ∃ z : Int32, z = ((p2 &&& (2147483647 : Int32)) % v224) := ⟨_, rfl⟩
  obtain ⟨v228, hv228⟩ : ∃ z : Int32, z = ((p3 &&& (2147483647 : Int32)) % v224) := ⟨_, rfl⟩
  obtain ⟨v230, hv230⟩ : ∃ z : Int32, z = ((p4 &&& (2147483647 : Int32)) % v224) := ⟨_, rfl⟩
  obtain ⟨v232, hv232⟩ : ∃ z : Int32, z = ((p5 &&& (2147483647 : Int32)) % v224) := ⟨_, rfl⟩
  obtain ⟨v233, hv233⟩ : ∃ z : Int32, z = (p1 &&& (3 : Int32)) := ⟨_, rfl⟩
  obtain ⟨T234, h234, X234, e234, E234, A234, D234, -, st234⟩ := newO X0 hx hZ hown (hw _ (List.mem_of_getElem? (i := 1) rfl)) (hw _ (List.mem_of_getElem? (i := 2) rfl)) (hw _ (List.mem_of_getElem? (i := 3) rfl)) e0 (g := (mkF m 52 #[.val (.int p0), .val (.int p1), .val (.int p2), .val (.int p3), .val (.int p4), .val (.int p5), .val (.int v224), .val (.int v226), .val (.int v228), .val (.int v230), .val (.int v232), .val (.int v233), .unset] [])) rfl (hb hby at_52) (by decide) (by decide)
  obtain ⟨b234, g234⟩ : ∃ z, z = h0.size := ⟨_, rfl⟩
  have g_b234 : n0 ≤ b234 := Nat.le_trans Z0 (Nat.le_of_eq g234.symm)
  have sz_b234 : h0.size ≤ b234 := Nat.le_trans (Keep.refl h0 []).1 (Nat.le_of_eq g234.symm)
  rw [← g234] at A234 D234 st234
  have z235 : n0 ≤ h234.size := Nat.le_trans Z0 E234.1
  have K236 : Keep h0 h234 [] := (Keep.refl h0 []).ext E234
  have f237 : Fld Z h234 b234 "archetest/util/StateSet" "members" "[I" .null := D234 (Or.inl (hw _ (List.mem_of_getElem? (i := 12) rfl))) (ty := (.array .int)) (by decide)
  have f238 : Fld Z h234 b234 "archetest/util/StateSet" "bits" "[J" .null := D234 (Or.inr (hw _ (List.mem_of_getElem? (i := 15) rfl))) (ty := (.array .long)) (by decide)
  have f239 : Fld Z h234 b234 "archetest/util/StateSet" "size" "I" (.int (0 : Int32)) := D234 (Or.inl (hw _ (List.mem_of_getElem? (i := 22) rfl))) (ty := .int) (by decide)
  obtain ⟨_, _, ⟨T240, L240, k240, n240⟩, -, X240, ⟨Lc240, hQ240, l240, y240, z240⟩, st240⟩ := X234.specialBack hx (y := (⟨"archetest/util/StateSet", "<init>", "(I)V"⟩ : MethodName)) rfl hown (mvT hZ (hw _ (List.mem_of_getElem? (i := 4) rfl))) (mvT hZ (hw _ (List.mem_of_getElem? (i := 5) rfl))) (mvT hZ (hw _ (List.mem_of_getElem? (i := 6) rfl))) (by decide) (backOf (W := 1) (own_rm1 l Z av hw [] b234 v224 h234 n0 z235 A234 f237 f238 f239 g_b234 ((own_side241 p0 v224 hv224)) ((own_side242 p0 v224 hv224))) hZ (hw _ (List.mem_of_getElem? (i := 6) rfl)) (hw _ (List.mem_of_getElem? (i := 3) rfl)) (by decide) (by decide)) (g := (mkF m 58 #[.val (.int p0), .val (.int p1), .val (.int p2), .val (.int p3), .val (.int p4), .val (.int p5), .val (.int v224), .val (.int v226), .val (.int v228), .val (.int v230), .val (.int v232), .val (.int v233), .unset] [(.int v224), (.ref b234), (.ref b234)])) rfl (by rw [hml]; rfl) (Steps.refl _) (a := b234) (argsL := [(.int v224)]) (rest := [(.ref b234)]) (lenOf own_pd0 rfl) rfl (by show 2 * 0 + _ ≤ _; exact Nat.le_of_eq rfl) (hb hby at_58) (fun _ _ => ⟨rfl, e234, (by decide : 1 + 2 ≤ _), (by decide : 3 + 12 ≤ _)⟩)
  dsimp only [Pt.U, Pt.locs, Pt.cells, Pt.slots] at X240 l240 y240 z240 st240 hQ240
  subst l240 y240 z240
  obtain ⟨mm243, bb244, km245, kb246, rfl, N240q, K240, g_mm243, sz240_mm243, g_bb244, sz240_bb244, f249, f250, f251, f252, f253, f254, hq248⟩ := hQ240
  have ne_b234_mm243 : b234 ≠ mm243 := Nat.ne_of_lt (Nat.lt_of_lt_of_le A234.lt sz240_mm243)
  have sz_mm243 : h0.size ≤ mm243 := Nat.le_trans K236.1 sz240_mm243
  have ne_b234_bb244 : b234 ≠ bb244 := Nat.ne_of_lt (Nat.lt_of_lt_of_le A234.lt sz240_bb244)
  have sz_bb244 : h0.size ≤ bb244 := Nat.le_trans K236.1 sz240_bb244
  have K255 : Keep h0 T240.heap [] := K236.trans K240 (allS (Or.inr sz_b234) all0)
  have z256 : n0 ≤ T240.heap.size := Nat.le_trans z235 K240.1
  have N247 := Fr.app N0 N240q
  have pre257 : ∀ t, Steps p.tables e below (T240.setTop (mkF m 66 #[.val (.int p0), .val (.int p1), .val (.int p2), .val (.int p3), .val (.int p4), .val (.int p5), .val (.int v224), .val (.int v226), .val (.int v228), .val (.int v230), .val (.int v232), .val (.int v233), .val (.ref b234)] [(.int (1 : Int32)), (.int v233)])) t → Steps p.tables e below (s₁.setTop (entryFrame m #[(.int p0), (.int p1), (.int p2), (.int p3), (.int p4), (.int p5)] maxLocals)) t := fun t kk => pre0 t (by
    show Steps p.tables e below (s₁.setTop (mkF m 0 #[.val (.int p0), .val (.int p1), .val (.int p2), .val (.int p3), .val (.int p4), .val (.int p5), .unset, .unset, .unset, .unset, .unset, .unset, .unset] [])) _
    refine XS.iconst X0.here hx rfl (hb hby at_0) ?_
    show Steps p.tables e below (s₁.setTop (mkF m 1 #[.val (.int p0), .val (.int p1), .val (.int p2), .val (.int p3), .val (.int p4), .val (.int p5), .unset, .unset, .unset, .unset, .unset, .unset, .unset] [(.int (1 : Int32))])) _
    refine XS.iloadN X0.here hx rfl (hb hby at_1) rfl ?_
    show Steps p.tables e below (s₁.setTop (mkF m 2 #[.val (.int p0), .val (.int p1), .val (.int p2), .val (.int p3), .val (.int p4), .val (.int p5), .unset, .unset, .unset, .unset, .unset, .unset, .unset] [(.int p0), (.int (1 : Int32))])) _
    refine XS.sipush X0.here hx rfl (hb hby at_2) ?_
    show Steps p.tables e below (s₁.setTop (mkF m 5 #[.val (.int p0), .val (.int p1), .val (.int p2), .val (.int p3), .val (.int p4), .val (.int p5), .unset, .unset, .unset, .unset, .unset, .unset, .unset] [(.int (255 : Int32)), (.int p0), (.int (1 : Int32))])) _
    refine XS.iand X0.here hx rfl (hb hby at_5) rfl ?_
    show Steps p.tables e below (s₁.setTop (mkF m 6 #[.val (.int p0), .val (.int p1), .val (.int p2), .val (.int p3), .val (.int p4), .val (.int p5), .unset, .unset, .unset, .unset, .unset, .unset, .unset] [(.int (p0 &&& (255 : Int32))), (.int (1 : Int32))])) _
    refine XS.iadd X0.here hx rfl (hb hby at_6) rfl ?_
    show Steps p.tables e below (s₁.setTop (mkF m 7 #[.val (.int p0), .val (.int p1), .val (.int p2), .val (.int p3), .val (.int p4), .val (.int p5), .unset, .unset, .unset, .unset, .unset, .unset, .unset] [(.int ((1 : Int32) + (p0 &&& (255 : Int32))))])) _
    refine castTop (congrArg (fun z : Int32 => mkF m 7 #[.val (.int p0), .val (.int p1), .val (.int p2), .val (.int p3), .val (.int p4), .val (.int p5), .unset, .unset, .unset, .unset, .unset, .unset, .unset] [(.int z)]) hv224.symm) ?_
    show Steps p.tables e below (s₁.setTop (mkF m 7 #[.val (.int p0), .val (.int p1), .val (.int p2), .val (.int p3), .val (.int p4), .val (.int p5), .unset, .unset, .unset, .unset, .unset, .unset, .unset] [(.int v224)])) _
    refine XS.istore X0.here hx rfl (hb hby at_7) rfl (l' := #[.val (.int p0), .val (.int p1), .val (.int p2), .val (.int p3), .val (.int p4), .val (.int p5), .val (.int v224), .unset, .unset, .unset, .unset, .unset, .unset]) rfl ?_
    show Steps p.tables e below (s₁.setTop (mkF m 9 #[.val (.int p0), .val (.int p1), .val (.int p2), .val (.int p3), .val (.int p4), .val (.int p5), .val (.int v224), .unset, .unset, .unset, .unset, .unset, .unset] [])) _
    refine XS.iloadN X0.here hx rfl (hb hby at_9) rfl ?_
    show Steps p.tables e below (s₁.setTop (mkF m 10 #[.val (.int p0), .val (.int p1), .val (.int p2), .val (.int p3), .val (.int p4), .val (.int p5), .val (.int v224), .unset, .unset, .unset, .unset, .unset, .unset] [(.int p2)])) _
    refine X0.ldcInt hx hown (mvT hZ (hw _ (List.mem_of_getElem? (i := 0) rfl))) (g := (mkF m 10 #[.val (.int p0), .val (.int p1), .val (.int p2), .val (.int p3), .val (.int p4), .val (.int p5), .val (.int v224), .unset, .unset, .unset, .unset, .unset, .unset] [(.int p2)])) rfl (hb hby at_10) _ ?_
    show Steps p.tables e below (s₁.setTop (mkF m 12 #[.val (.int p0), .val (.int p1), .val (.int p2), .val (.int p3), .val (.int p4), .val (.int p5), .val (.int v224), .unset, .unset, .unset, .unset, .unset, .unset] [(.int (2147483647 : Int32)), (.int p2)])) _
    refine XS.iand X0.here hx rfl (hb hby at_12) rfl ?_
    show Steps p.tables e below (s₁.setTop (mkF m 13 #[.val (.int p0), .val (.int p1), .val (.int p2), .val (.int p3), .val (.int p4), .val (.int p5), .val (.int v224), .unset, .unset, .unset, .unset, .unset, .unset] [(.int (p2 &&& (2147483647 : Int32)))])) _
    refine XS.iload X0.here hx rfl (hb hby at_13) rfl ?_
    show Steps p.tables e below (s₁.setTop (mkF m 15 #[.val (.int p0), .val (.int p1), .val (.int p2), .val (.int p3), .val (.int p4), .val (.int p5), .val (.int v224), .unset, .unset, .unset, .unset, .unset, .unset] [(.int v224), (.int (p2 &&& (2147483647 : Int32)))])) _
    refine iremM X0 hx rfl (hb hby at_15) rfl (own_side225 p0 v224 hv224) ?_
    show Steps p.tables e below (s₁.setTop (mkF m 16 #[.val (.int p0), .val (.int p1), .val (.int p2), .val (.int p3), .val (.int p4), .val (.int p5), .val (.int v224), .unset, .unset, .unset, .unset, .unset, .unset] [(.int ((p2 &&& (2147483647 : Int32)) % v224))])) _
    refine castTop (congrArg (fun z : Int32 => mkF m 16 #[.val (.int p0), .val (.int p1), .val (.int p2), .val (.int p3), .val (.int p4), .val (.int p5), .val (.int v224), .unset, .unset, .unset, .unset, .unset, .unset] [(.int z)]) hv226.symm) ?_
    show Steps p.tables e below (s₁.setTop (mkF m 16 #[.val (.int p0), .val (.int p1), .val (.int p2), .val (.int p3), .val (.int p4), .val (.int p5), .val (.int v224), .unset, .unset, .unset, .unset, .unset, .unset] [(.int v226)])) _
    refine XS.istore X0.here hx rfl (hb hby at_16) rfl (l' := #[.val (.int p0), .val (.int p1), .val (.int p2), .val (.int p3), .val (.int p4), .val (.int p5), .val (.int v224), .val (.int v226), .unset, .unset, .unset, .unset, .unset]) rfl ?_
    show Steps p.tables e below (s₁.setTop (mkF m 18 #[.val (.int p0), .val (.int p1), .val (.int p2), .val (.int p3), .val (.int p4), .val (.int p5), .val (.int v224), .val (.int v226), .unset, .unset, .unset, .unset, .unset] [])) _
    refine XS.iloadN X0.here hx rfl (hb hby at_18) rfl ?_
    show Steps p.tables e below (s₁.setTop (mkF m 19 #[.val (.int p0), .val (.int p1), .val (.int p2), .val (.int p3), .val (.int p4), .val (.int p5), .val (.int v224), .val (.int v226), .unset, .unset, .unset, .unset, .unset] [(.int p3)])) _
    refine X0.ldcInt hx hown (mvT hZ (hw _ (List.mem_of_getElem? (i := 0) rfl))) (g := (mkF m 19 #[.val (.int p0), .val (.int p1), .val (.int p2), .val (.int p3), .val (.int p4), .val (.int p5), .val (.int v224), .val (.int v226), .unset, .unset, .unset, .unset, .unset] [(.int p3)])) rfl (hb hby at_19) _ ?_
    show Steps p.tables e below (s₁.setTop (mkF m 21 #[.val (.int p0), .val (.int p1), .val (.int p2), .val (.int p3), .val (.int p4), .val (.int p5), .val (.int v224), .val (.int v226), .unset, .unset, .unset, .unset, .unset] [(.int (2147483647 : Int32)), (.int p3)])) _
    refine XS.iand X0.here hx rfl (hb hby at_21) rfl ?_
    show Steps p.tables e below (s₁.setTop (mkF m 22 #[.val (.int p0), .val (.int p1), .val (.int p2), .val (.int p3), .val (.int p4), .val (.int p5), .val (.int v224), .val (.int v226), .unset, .unset, .unset, .unset, .unset] [(.int (p3 &&& (2147483647 : Int32)))])) _
    refine XS.iload X0.here hx rfl (hb hby at_22) rfl ?_
    show Steps p.tables e below (s₁.setTop (mkF m 24 #[.val (.int p0), .val (.int p1), .val (.int p2), .val (.int p3), .val (.int p4), .val (.int p5), .val (.int v224), .val (.int v226), .unset, .unset, .unset, .unset, .unset] [(.int v224), (.int (p3 &&& (2147483647 : Int32)))])) _
    refine iremM X0 hx rfl (hb hby at_24) rfl (own_side227 p0 v224 hv224) ?_
    show Steps p.tables e below (s₁.setTop (mkF m 25 #[.val (.int p0), .val (.int p1), .val (.int p2), .val (.int p3), .val (.int p4), .val (.int p5), .val (.int v224), .val (.int v226), .unset, .unset, .unset, .unset, .unset] [(.int ((p3 &&& (2147483647 : Int32)) % v224))])) _
    refine castTop (congrArg (fun z : Int32 => mkF m 25 #[.val (.int p0), .val (.int p1), .val (.int p2), .val (.int p3), .val (.int p4), .val (.int p5), .val (.int v224), .val (.int v226), .unset, .unset, .unset, .unset, .unset] [(.int z)]) hv228.symm) ?_
    show Steps p.tables e below (s₁.setTop (mkF m 25 #[.val (.int p0), .val (.int p1), .val (.int p2), .val (.int p3), .val (.int p4), .val (.int p5), .val (.int v224), .val (.int v226), .unset, .unset, .unset, .unset, .unset] [(.int v228)])) _
    refine XS.istore X0.here hx rfl (hb hby at_25) rfl (l' := #[.val (.int p0), .val (.int p1), .val (.int p2), .val (.int p3), .val (.int p4), .val (.int p5), .val (.int v224), .val (.int v226), .val (.int v228), .unset, .unset, .unset, .unset]) rfl ?_
    show Steps p.tables e below (s₁.setTop (mkF m 27 #[.val (.int p0), .val (.int p1), .val (.int p2), .val (.int p3), .val (.int p4), .val (.int p5), .val (.int v224), .val (.int v226), .val (.int v228), .unset, .unset, .unset, .unset] [])) _
    refine XS.iload X0.here hx rfl (hb hby at_27) rfl ?_
    show Steps p.tables e below (s₁.setTop (mkF m 29 #[.val (.int p0), .val (.int p1), .val (.int p2), .val (.int p3), .val (.int p4), .val (.int p5), .val (.int v224), .val (.int v226), .val (.int v228), .unset, .unset, .unset, .unset] [(.int p4)])) _
    refine X0.ldcInt hx hown (mvT hZ (hw _ (List.mem_of_getElem? (i := 0) rfl))) (g := (mkF m 29 #[.val (.int p0), .val (.int p1), .val (.int p2), .val (.int p3), .val (.int p4), .val (.int p5), .val (.int v224), .val (.int v226), .val (.int v228), .unset, .unset, .unset, .unset] [(.int p4)])) rfl (hb hby at_29) _ ?_
    show Steps p.tables e below (s₁.setTop (mkF m 31 #[.val (.int p0), .val (.int p1), .val (.int p2), .val (.int p3), .val (.int p4), .val (.int p5), .val (.int v224), .val (.int v226), .val (.int v228), .unset, .unset, .unset, .unset] [(.int (2147483647 : Int32)), (.int p4)])) _
    refine XS.iand X0.here hx rfl (hb hby at_31) rfl ?_
    show Steps p.tables e below (s₁.setTop (mkF m 32 #[.val (.int p0), .val (.int p1), .val (.int p2), .val (.int p3), .val (.int p4), .val (.int p5), .val (.int v224), .val (.int v226), .val (.int v228), .unset, .unset, .unset, .unset] [(.int (p4 &&& (2147483647 : Int32)))])) _
    refine XS.iload X0.here hx rfl (hb hby at_32) rfl ?_
    show Steps p.tables e below (s₁.setTop (mkF m 34 #[.val (.int p0), .val (.int p1), .val (.int p2), .val (.int p3), .val (.int p4), .val (.int p5), .val (.int v224), .val (.int v226), .val (.int v228), .unset, .unset, .unset, .unset] [(.int v224), (.int (p4 &&& (2147483647 : Int32)))])) _
    refine iremM X0 hx rfl (hb hby at_34) rfl (own_side229 p0 v224 hv224) ?_
    show Steps p.tables e below (s₁.setTop (mkF m 35 #[.val (.int p0), .val (.int p1), .val (.int p2), .val (.int p3), .val (.int p4), .val (.int p5), .val (.int v224), .val (.int v226), .val (.int v228), .unset, .unset, .unset, .unset] [(.int ((p4 &&& (2147483647 : Int32)) % v224))])) _
    refine castTop (congrArg (fun z : Int32 => mkF m 35 #[.val (.int p0), .val (.int p1), .val (.int p2), .val (.int p3), .val (.int p4), .val (.int p5), .val (.int v224), .val (.int v226), .val (.int v228), .unset, .unset, .unset, .unset] [(.int z)]) hv230.symm) ?_
    show Steps p.tables e below (s₁.setTop (mkF m 35 #[.val (.int p0), .val (.int p1), .val (.int p2), .val (.int p3), .val (.int p4), .val (.int p5), .val (.int v224), .val (.int v226), .val (.int v228), .unset, .unset, .unset, .unset] [(.int v230)])) _
    refine XS.istore X0.here hx rfl (hb hby at_35) rfl (l' := #[.val (.int p0), .val (.int p1), .val (.int p2), .val (.int p3), .val (.int p4), .val (.int p5), .val (.int v224), .val (.int v226), .val (.int v228), .val (.int v230), .unset, .unset, .unset]) rfl ?_
    show Steps p.tables e below (s₁.setTop (mkF m 37 #[.val (.int p0), .val (.int p1), .val (.int p2), .val (.int p3), .val (.int p4), .val (.int p5), .val (.int v224), .val (.int v226), .val (.int v228), .val (.int v230), .unset, .unset, .unset] [])) _
    refine XS.iload X0.here hx rfl (hb hby at_37) rfl ?_
    show Steps p.tables e below (s₁.setTop (mkF m 39 #[.val (.int p0), .val (.int p1), .val (.int p2), .val (.int p3), .val (.int p4), .val (.int p5), .val (.int v224), .val (.int v226), .val (.int v228), .val (.int v230), .unset, .unset, .unset] [(.int p5)])) _
    refine X0.ldcInt hx hown (mvT hZ (hw _ (List.mem_of_getElem? (i := 0) rfl))) (g := (mkF m 39 #[.val (.int p0), .val (.int p1), .val (.int p2), .val (.int p3), .val (.int p4), .val (.int p5), .val (.int v224), .val (.int v226), .val (.int v228), .val (.int v230), .unset, .unset, .unset] [(.int p5)])) rfl (hb hby at_39) _ ?_
    show Steps p.tables e below (s₁.setTop (mkF m 41 #[.val (.int p0), .val (.int p1), .val (.int p2), .val (.int p3), .val (.int p4), .val (.int p5), .val (.int v224), .val (.int v226), .val (.int v228), .val (.int v230), .unset, .unset, .unset] [(.int (2147483647 : Int32)), (.int p5)])) _
    refine XS.iand X0.here hx rfl (hb hby at_41) rfl ?_
    show Steps p.tables e below (s₁.setTop (mkF m 42 #[.val (.int p0), .val (.int p1), .val (.int p2), .val (.int p3), .val (.int p4), .val (.int p5), .val (.int v224), .val (.int v226), .val (.int v228), .val (.int v230), .unset, .unset, .unset] [(.int (p5 &&& (2147483647 : Int32)))])) _
    refine XS.iload X0.here hx rfl (hb hby at_42) rfl ?_
    show Steps p.tables e below (s₁.setTop (mkF m 44 #[.val (.int p0), .val (.int p1), .val (.int p2), .val (.int p3), .val (.int p4), .val (.int p5), .val (.int v224), .val (.int v226), .val (.int v228), .val (.int v230), .unset, .unset, .unset] [(.int v224), (.int (p5 &&& (2147483647 : Int32)))])) _
    refine iremM X0 hx rfl (hb hby at_44) rfl (own_side231 p0 v224 hv224) ?_
    show Steps p.tables e below (s₁.setTop (mkF m 45 #[.val (.int p0), .val (.int p1), .val (.int p2), .val (.int p3), .val (.int p4), .val (.int p5), .val (.int v224), .val (.int v226), .val (.int v228), .val (.int v230), .unset, .unset, .unset] [(.int ((p5 &&& (2147483647 : Int32)) % v224))])) _
    refine castTop (congrArg (fun z : Int32 => mkF m 45 #[.val (.int p0), .val (.int p1), .val (.int p2), .val (.int p3), .val (.int p4), .val (.int p5), .val (.int v224), .val (.int v226), .val (.int v228), .val (.int v230), .unset, .unset, .unset] [(.int z)]) hv232.symm) ?_
    show Steps p.tables e below (s₁.setTop (mkF m 45 #[.val (.int p0), .val (.int p1), .val (.int p2), .val (.int p3), .val (.int p4), .val (.int p5), .val (.int v224), .val (.int v226), .val (.int v228), .val (.int v230), .unset, .unset, .unset] [(.int v232)])) _
    refine XS.istore X0.here hx rfl (hb hby at_45) rfl (l' := #[.val (.int p0), .val (.int p1), .val (.int p2), .val (.int p3), .val (.int p4), .val (.int p5), .val (.int v224), .val (.int v226), .val (.int v228), .val (.int v230), .val (.int v232), .unset, .unset]) rfl ?_
    show Steps p.tables e below (s₁.setTop (mkF m 47 #[.val (.int p0), .val (.int p1), .val (.int p2), .val (.int p3), .val (.int p4), .val (.int p5), .val (.int v224), .val (.int v226), .val (.int v228), .val (.int v230), .val (.int v232), .unset, .unset] [])) _
    refine XS.iloadN X0.here hx rfl (hb hby at_47) rfl ?_
    show Steps p.tables e below (s₁.setTop (mkF m 48 #[.val (.int p0), .val (.int p1), .val (.int p2), .val (.int p3), .val (.int p4), .val (.int p5), .val (.int v224), .val (.int v226), .val (.int v228), .val (.int v230), .val (.int v232), .unset, .unset] [(.int p1)])) _
    refine XS.iconst X0.here hx rfl (hb hby at_48) ?_
    show Steps p.tables e below (s₁.setTop (mkF m 49 #[.val (.int p0), .val (.int p1), .val (.int p2), .val (.int p3), .val (.int p4), .val (.int p5), .val (.int v224), .val (.int v226), .val (.int v228), .val (.int v230), .val (.int v232), .unset, .unset] [(.int (3 : Int32)), (.int p1)])) _
    refine XS.iand X0.here hx rfl (hb hby at_49) rfl ?_
    show Steps p.tables e below (s₁.setTop (mkF m 50 #[.val (.int p0), .val (.int p1), .val (.int p2), .val (.int p3), .val (.int p4), .val (.int p5), .val (.int v224), .val (.int v226), .val (.int v228), .val (.int v230), .val (.int v232), .unset, .unset] [(.int (p1 &&& (3 : Int32)))])) _
    refine castTop (congrArg (fun z : Int32 => mkF m 50 #[.val (.int p0), .val (.int p1), .val (.int p2), .val (.int p3), .val (.int p4), .val (.int p5), .val (.int v224), .val (.int v226), .val (.int v228), .val (.int v230), .val (.int v232), .unset, .unset] [(.int z)]) hv233.symm) ?_
    show Steps p.tables e below (s₁.setTop (mkF m 50 #[.val (.int p0), .val (.int p1), .val (.int p2), .val (.int p3), .val (.int p4), .val (.int p5), .val (.int v224), .val (.int v226), .val (.int v228), .val (.int v230), .val (.int v232), .unset, .unset] [(.int v233)])) _
    refine XS.istore X0.here hx rfl (hb hby at_50) rfl (l' := #[.val (.int p0), .val (.int p1), .val (.int p2), .val (.int p3), .val (.int p4), .val (.int p5), .val (.int v224), .val (.int v226), .val (.int v228), .val (.int v230), .val (.int v232), .val (.int v233), .unset]) rfl ?_
    show Steps p.tables e below (s₁.setTop (mkF m 52 #[.val (.int p0), .val (.int p1), .val (.int p2), .val (.int p3), .val (.int p4), .val (.int p5), .val (.int v224), .val (.int v226), .val (.int v228), .val (.int v230), .val (.int v232), .val (.int v233), .unset] [])) _
    refine st234 _ ?_
    show Steps p.tables e below (T234.setTop (mkF m 55 #[.val (.int p0), .val (.int p1), .val (.int p2), .val (.int p3), .val (.int p4), .val (.int p5), .val (.int v224), .val (.int v226), .val (.int v228), .val (.int v230), .val (.int v232), .val (.int v233), .unset] [(.ref b234)])) _
    refine XS.dup X234.here hx rfl (hb hby at_55) rfl rfl ?_
    show Steps p.tables e below (T234.setTop (mkF m 56 #[.val (.int p0), .val (.int p1), .val (.int p2), .val (.int p3), .val (.int p4), .val (.int p5), .val (.int v224), .val (.int v226), .val (.int v228), .val (.int v230), .val (.int v232), .val (.int v233), .unset] [(.ref b234), (.ref b234)])) _
    refine XS.iload X234.here hx rfl (hb hby at_56) rfl ?_
    show Steps p.tables e below (T234.setTop (mkF m 58 #[.val (.int p0), .val (.int p1), .val (.int p2), .val (.int p3), .val (.int p4), .val (.int p5), .val (.int v224), .val (.int v226), .val (.int v228), .val (.int v230), .val (.int v232), .val (.int v233), .unset] [(.int v224), (.ref b234), (.ref b234)])) _
    refine st240.trans ?_
    show Steps p.tables e below (T240.setTop (mkF m 61 #[.val (.int p0), .val (.int p1), .val (.int p2), .val (.int p3), .val (.int p4), .val (.int p5), .val (.int v224), .val (.int v226), .val (.int v228), .val (.int v230), .val (.int v232), .val (.int v233), .unset] [(.ref b234)])) _
    refine XS.astore X240.here hx rfl (hb hby at_61) rfl rfl (l' := #[.val (.int p0), .val (.int p1), .val (.int p2), .val (.int p3), .val (.int p4), .val (.int p5), .val (.int v224), .val (.int v226), .val (.int v228), .val (.int v230), .val (.int v232), .val (.int v233), .val (.ref b234)]) rfl ?_
    show Steps p.tables e below (T240.setTop (mkF m 63 #[.val (.int p0), .val (.int p1), .val (.int p2), .val (.int p3), .val (.int p4), .val (.int p5), .val (.int v224), .val (.int v226), .val (.int v228), .val (.int v230), .val (.int v232), .val (.int v233), .val (.ref b234)] [])) _
    refine XS.iload X240.here hx rfl (hb hby at_63) rfl ?_
    show Steps p.tables e below (T240.setTop (mkF m 65 #[.val (.int p0), .val (.int p1), .val (.int p2), .val (.int p3), .val (.int p4), .val (.int p5), .val (.int v224), .val (.int v226), .val (.int v228), .val (.int v230), .val (.int v232), .val (.int v233), .val (.ref b234)] [(.int v233)])) _
    refine XS.iconst X240.here hx rfl (hb hby at_65) ?_
    show Steps p.tables e below (T240.setTop (mkF m 66 #[.val (.int p0), .val (.int p1), .val (.int p2), .val (.int p3), .val (.int p4), .val (.int p5), .val (.int v224), .val (.int v226), .val (.int v228), .val (.int v230), .val (.int v232), .val (.int v233), .val (.ref b234)] [(.int (1 : Int32)), (.int v233)])) _
    exact kk)
  by_cases hc258 : v233 < (1 : Int32)
  · obtain ⟨k261, hk261, hin261, hz261⟩ := own_clr0 (own_St0 (((v224 + (64 : Int32)) - (1 : Int32)) / (64 : Int32)) (fun _ => (0 : Int32)))
    obtain ⟨cq262, kq262, q262a, q262b, q262c⟩ := isOf hZ rfl f249
    obtain ⟨_, _, ⟨T262, L262, k262, n262⟩, -, X262, ⟨Lc262, hQ262, l262, y262, z262⟩, st262⟩ := X240.virtualBack hx (y := (⟨"archetest/util/StateSet", "clear", "()V"⟩ : MethodName)) (z := (⟨"archetest/util/StateSet", "clear", "()V"⟩ : MethodName)) hown (mvT hZ (hw _ (List.mem_of_getElem? (i := 23) rfl))) (mvT hZ (hw _ (List.mem_of_getElem? (i := 24) rfl))) (notFace_of_selects (args := #[]) (mvT hZ (hw _ (List.mem_of_getElem? (i := 26) rfl)))) (mvT hZ (hw _ (List.mem_of_getElem? (i := 26) rfl))) (mvT hZ (hw _ (List.mem_of_getElem? (i := 25) rfl))) (by decide) (backOf (W := 0) (own_rm4 l Z av hw [] b234 (mm243) (bb244) (km245) (kb246) ((((v224 + (64 : Int32)) - (1 : Int32)) / (64 : Int32))) ((fun _ => (0 : Int64))) ((fun _ => (0 : Int32))) ((0 : Int32)) (k261) T240.heap n0 z256 f249 f250 f251 f252 f253 f254 g_b234 g_bb244 ne_b234_mm243 ne_b234_bb244 hq248 (hk261) (hin261) ((own_side263 p0 v224 hv224 hq248))) hZ (hw _ (List.mem_of_getElem? (i := 27) rfl)) (hw _ (List.mem_of_getElem? (i := 3) rfl)) (by decide) (by decide)) q262a q262c (g := (mkF m 107 #[.val (.int p0), .val (.int p1), .val (.int p2), .val (.int p3), .val (.int p4), .val (.int p5), .val (.int v224), .val (.int v226), .val (.int v228), .val (.int v230), .val (.int v232), .val (.int v233), .val (.ref b234)] [(.ref b234)])) rfl (by rw [hml]; rfl) (Steps.refl _) (argsL := []) (rest := []) (lenOf own_pd1 rfl) rfl (by show 2 * 0 + _ ≤ _; exact Nat.le_of_eq rfl) (hb hby at_107) (fun _ _ => ⟨rfl, rfl, (by decide : 3 + 0 ≤ _), (by decide : 15 + 0 ≤ _)⟩)
    dsimp only [Pt.U, Pt.locs, Pt.cells, Pt.slots] at X262 l262 y262 z262 st262 hQ262
    subst l262 y262 z262
    obtain ⟨rfl, N262q, K262, f265, f266, f267, f268, f269, f270⟩ := hQ262
    have K271 : Keep h0 T262.heap [] := K255.trans K262 (allS (Or.inr sz_b234) (allS (Or.inr sz_bb244) all0))
    have z272 : n0 ≤ T262.heap.size := Nat.le_trans z256 K262.1
    have N264 := Fr.app N247 N262q
    have f273 : Arv Z T262.heap bb244 kb246 .long (((v224 + (64 : Int32)) - (1 : Int32)) / (64 : Int32)) (own_L (fun _ => (0 : Int64))) (.long (0 : Int64)) := by have q := f270; rw [hz261] at q; exact q
    obtain ⟨cq274, kq274, q274a, q274b, q274c⟩ := isOf hZ rfl f265
    obtain ⟨_, _, ⟨T274, L274, k274, n274⟩, -, X274, ⟨Lc274, hQ274, l274, y274, z274⟩, st274⟩ := X262.virtualBack hx (y := (⟨"archetest/util/StateSet", "size", "()I"⟩ : MethodName)) (z := (⟨"archetest/util/StateSet", "size", "()I"⟩ : MethodName)) hown (mvT hZ (hw _ (List.mem_of_getElem? (i := 28) rfl))) (mvT hZ (hw _ (List.mem_of_getElem? (i := 29) rfl))) (notFace_of_selects (args := #[]) (mvT hZ (hw _ (List.mem_of_getElem? (i := 31) rfl)))) (mvT hZ (hw _ (List.mem_of_getElem? (i := 31) rfl))) (mvT hZ (hw _ (List.mem_of_getElem? (i := 30) rfl))) (by decide) (backOf (W := 0) (own_rm5 l Z av hw [] b234 ((0 : Int32)) T262.heap n0 z272 f268) hZ (hw _ (List.mem_of_getElem? (i := 32) rfl)) (hw _ (List.mem_of_getElem? (i := 3) rfl)) (by decide) (by decide)) q274a q274c (g := (mkF m 112 #[.val (.int p0), .val (.int p1), .val (.int p2), .val (.int p3), .val (.int p4), .val (.int p5), .val (.int v224), .val (.int v226), .val (.int v228), .val (.int v230), .val (.int v232), .val (.int v233), .val (.ref b234)] [(.ref b234)])) rfl (by rw [hml]; rfl) (Steps.refl _) (argsL := []) (rest := []) (lenOf own_pd2 rfl) rfl (by show 2 * 0 + _ ≤ _; exact Nat.le_of_eq rfl) (hb hby at_112) (fun _ _ => ⟨rfl, rfl, (by decide : 3 + 0 ≤ _), (by decide : 15 + 0 ≤ _)⟩)
    dsimp only [Pt.U, Pt.locs, Pt.cells, Pt.slots] at X274 l274 y274 z274 st274 hQ274
    subst l274 y274 z274
    obtain ⟨rfl, N274q, e276⟩ := hQ274
    have N275 := Fr.app N264 N274q
    obtain ⟨cq277, kq277, q277a, q277b, q277c⟩ := isOf hZ e276 f265
    obtain ⟨_, _, ⟨T277, L277, k277, n277⟩, -, X277, ⟨Lc277, hQ277, l277, y277, z277⟩, st277⟩ := X274.virtualBack hx (y := (⟨"archetest/util/StateSet", "contains", "(I)Z"⟩ : MethodName)) (z := (⟨"archetest/util/StateSet", "contains", "(I)Z"⟩ : MethodName)) hown (mvT hZ (hw _ (List.mem_of_getElem? (i := 33) rfl))) (mvT hZ (hw _ (List.mem_of_getElem? (i := 34) rfl))) (notFace_of_selects (args := #[]) (mvT hZ (hw _ (List.mem_of_getElem? (i := 36) rfl)))) (mvT hZ (hw _ (List.mem_of_getElem? (i := 36) rfl))) (mvT hZ (hw _ (List.mem_of_getElem? (i := 35) rfl))) (by decide) (backOf (W := 0) (own_rm6 l Z av hw [] b234 v226 (bb244) (kb246) ((((v224 + (64 : Int32)) - (1 : Int32)) / (64 : Int32))) ((fun _ => (0 : Int64))) T262.heap n0 z272 f267 f273 ((own_side278 p0 p2 v224 hv224 v226 hv226 hq248)) ((own_side279 p0 v224 hv224 hq248))) hZ (hw _ (List.mem_of_getElem? (i := 37) rfl)) (hw _ (List.mem_of_getElem? (i := 3) rfl)) (by decide) (by decide)) q277a q277c (g := (mkF m 124 #[.val (.int p0), .val (.int p1), .val (.int p2), .val (.int p3), .val (.int p4), .val (.int p5), .val (.int v224), .val (.int v226), .val (.int v228), .val (.int v230), .val (.int v232), .val (.int v233), .val (.ref b234)] [(.int v226), (.ref b234)])) rfl (by rw [hml]; rfl) (Steps.refl _) (argsL := [(.int v226)]) (rest := []) (lenOf own_pd3 rfl) rfl (by show 2 * 0 + _ ≤ _; exact Nat.le_of_eq rfl) (hb hby at_124) (fun _ _ => ⟨rfl, e276, (by decide : 3 + 0 ≤ _), (by decide : 15 + 0 ≤ _)⟩)
    dsimp only [Pt.U, Pt.locs, Pt.cells, Pt.slots] at X277 l277 y277 z277 st277 hQ277
    subst l277 y277 z277
    obtain ⟨rfl, N277q, e281⟩ := hQ277
    have N280 := Fr.app N275 N277q
    obtain ⟨cq282, kq282, q282a, q282b, q282c⟩ := isOf hZ e281 f265
    obtain ⟨_, _, ⟨T282, L282, k282, n282⟩, -, X282, ⟨Lc282, hQ282, l282, y282, z282⟩, st282⟩ := X277.virtualBack hx (y := (⟨"archetest/util/StateSet", "contains", "(I)Z"⟩ : MethodName)) (z := (⟨"archetest/util/StateSet", "contains", "(I)Z"⟩ : MethodName)) hown (mvT hZ (hw _ (List.mem_of_getElem? (i := 33) rfl))) (mvT hZ (hw _ (List.mem_of_getElem? (i := 34) rfl))) (notFace_of_selects (args := #[]) (mvT hZ (hw _ (List.mem_of_getElem? (i := 36) rfl)))) (mvT hZ (hw _ (List.mem_of_getElem? (i := 36) rfl))) (mvT hZ (hw _ (List.mem_of_getElem? (i := 35) rfl))) (by decide) (backOf (W := 0) (own_rm6 l Z av hw [] b234 v228 (bb244) (kb246) ((((v224 + (64 : Int32)) - (1 : Int32)) / (64 : Int32))) ((fun _ => (0 : Int64))) T262.heap n0 z272 f267 f273 ((own_side283 p0 p3 v224 hv224 v228 hv228 hq248)) ((own_side284 p0 v224 hv224 hq248))) hZ (hw _ (List.mem_of_getElem? (i := 37) rfl)) (hw _ (List.mem_of_getElem? (i := 3) rfl)) (by decide) (by decide)) q282a q282c (g := (mkF m 134 #[.val (.int p0), .val (.int p1), .val (.int p2), .val (.int p3), .val (.int p4), .val (.int p5), .val (.int v224), .val (.int v226), .val (.int v228), .val (.int v230), .val (.int v232), .val (.int v233), .val (.ref b234)] [(.int v228), (.ref b234)])) rfl (by rw [hml]; rfl) (Steps.refl _) (argsL := [(.int v228)]) (rest := []) (lenOf own_pd3 rfl) rfl (by show 2 * 0 + _ ≤ _; exact Nat.le_of_eq rfl) (hb hby at_134) (fun _ _ => ⟨rfl, e281, (by decide : 3 + 0 ≤ _), (by decide : 15 + 0 ≤ _)⟩)
    dsimp only [Pt.U, Pt.locs, Pt.cells, Pt.slots] at X282 l282 y282 z282 st282 hQ282
    subst l282 y282 z282
    obtain ⟨rfl, N282q, e286⟩ := hQ282
    have N285 := Fr.app N280 N282q
    obtain ⟨cq287, kq287, q287a, q287b, q287c⟩ := isOf hZ e286 f265
    obtain ⟨_, _, ⟨T287, L287, k287, n287⟩, -, X287, ⟨Lc287, hQ287, l287, y287, z287⟩, st287⟩ := X282.virtualBack hx (y := (⟨"archetest/util/StateSet", "contains", "(I)Z"⟩ : MethodName)) (z := (⟨"archetest/util/StateSet", "contains", "(I)Z"⟩ : MethodName)) hown (mvT hZ (hw _ (List.mem_of_getElem? (i := 33) rfl))) (mvT hZ (hw _ (List.mem_of_getElem? (i := 34) rfl))) (notFace_of_selects (args := #[]) (mvT hZ (hw _ (List.mem_of_getElem? (i := 36) rfl)))) (mvT hZ (hw _ (List.mem_of_getElem? (i := 36) rfl))) (mvT hZ (hw _ (List.mem_of_getElem? (i := 35) rfl))) (by decide) (backOf (W := 0) (own_rm6 l Z av hw [] b234 v230 (bb244) (kb246) ((((v224 + (64 : Int32)) - (1 : Int32)) / (64 : Int32))) ((fun _ => (0 : Int64))) T262.heap n0 z272 f267 f273 ((own_side288 p0 p4 v224 hv224 v230 hv230 hq248)) ((own_side289 p0 v224 hv224 hq248))) hZ (hw _ (List.mem_of_getElem? (i := 37) rfl)) (hw _ (List.mem_of_getElem? (i := 3) rfl)) (by decide) (by decide)) q287a q287c (g := (mkF m 144 #[.val (.int p0), .val (.int p1), .val (.int p2), .val (.int p3), .val (.int p4), .val (.int p5), .val (.int v224), .val (.int v226), .val (.int v228), .val (.int v230), .val (.int v232), .val (.int v233), .val (.ref b234)] [(.int v230), (.ref b234)])) rfl (by rw [hml]; rfl) (Steps.refl _) (argsL := [(.int v230)]) (rest := []) (lenOf own_pd3 rfl) rfl (by show 2 * 0 + _ ≤ _; exact Nat.le_of_eq rfl) (hb hby at_144) (fun _ _ => ⟨rfl, e286, (by decide : 3 + 0 ≤ _), (by decide : 15 + 0 ≤ _)⟩)
    dsimp only [Pt.U, Pt.locs, Pt.cells, Pt.slots] at X287 l287 y287 z287 st287 hQ287
    subst l287 y287 z287
    obtain ⟨rfl, N287q, e291⟩ := hQ287
    have N290 := Fr.app N285 N287q
    obtain ⟨cq292, kq292, q292a, q292b, q292c⟩ := isOf hZ e291 f265
    obtain ⟨_, _, ⟨T292, L292, k292, n292⟩, -, X292, ⟨Lc292, hQ292, l292, y292, z292⟩, st292⟩ := X287.virtualBack hx (y := (⟨"archetest/util/StateSet", "add", "(I)Z"⟩ : MethodName)) (z := (⟨"archetest/util/StateSet", "add", "(I)Z"⟩ : MethodName)) hown (mvT hZ (hw _ (List.mem_of_getElem? (i := 16) rfl))) (mvT hZ (hw _ (List.mem_of_getElem? (i := 17) rfl))) (notFace_of_selects (args := #[]) (mvT hZ (hw _ (List.mem_of_getElem? (i := 19) rfl)))) (mvT hZ (hw _ (List.mem_of_getElem? (i := 19) rfl))) (mvT hZ (hw _ (List.mem_of_getElem? (i := 18) rfl))) (by decide) (backOf (W := 0) (own_rm3 l Z av hw [] b234 v232 (mm243) (bb244) (km245) (kb246) ((((v224 + (64 : Int32)) - (1 : Int32)) / (64 : Int32))) ((fun _ => (0 : Int64))) ((fun _ => (0 : Int32))) ((0 : Int32)) (0) T262.heap n0 z272 f265 f266 f267 f268 f269 f273 g_b234 g_mm243 g_bb244 ne_b234_mm243 ne_b234_bb244 hq248 ((own_St0 (((v224 + (64 : Int32)) - (1 : Int32)) / (64 : Int32)) (fun _ => (0 : Int32)))) ((by decide)) ((own_side293 p0 p5 v224 hv224 v232 hv232 hq248)) ((own_side294 p0 v224 hv224 hq248))) hZ (hw _ (List.mem_of_getElem? (i := 20) rfl)) (hw _ (List.mem_of_getElem? (i := 3) rfl)) (by decide) (by decide)) q292a q292c (g := (mkF m 156 #[.val (.int p0), .val (.int p1), .val (.int p2), .val (.int p3), .val (.int p4), .val (.int p5), .val (.int v224), .val (.int v226), .val (.int v228), .val (.int v230), .val (.int v232), .val (.int v233), .val (.ref b234)] [(.int v232), (.ref b234)])) rfl (by rw [hml]; rfl) (Steps.refl _) (argsL := [(.int v232)]) (rest := []) (lenOf own_pd3 rfl) rfl (by show 2 * 0 + _ ≤ _; exact Nat.le_of_eq rfl) (hb hby at_156) (fun _ _ => ⟨rfl, e291, (by decide : 3 + 0 ≤ _), (by decide : 15 + 0 ≤ _)⟩)
    dsimp only [Pt.U, Pt.locs, Pt.cells, Pt.slots] at X292 l292 y292 z292 st292 hQ292
    subst l292 y292 z292
    obtain ⟨gg295, ff296, ss297, r298, rfl, N292q, K292, f302, f303, f304, f305, f306, f307, hq300, hq301⟩ := hQ292
    have K308 : Keep h0 T292.heap [] := K271.trans K292 (allS (Or.inr sz_b234) (allS (Or.inr sz_mm243) (allS (Or.inr sz_bb244) all0)))
    have z309 : n0 ≤ T292.heap.size := Nat.le_trans z272 K292.1
    have N299 := Fr.app N290 N292q
    obtain ⟨cq310, kq310, q310a, q310b, q310c⟩ := isOf hZ rfl f302
    obtain ⟨_, _, ⟨T310, L310, k310, n310⟩, -, X310, ⟨Lc310, hQ310, l310, y310, z310⟩, st310⟩ := X292.virtualBack hx (y := (⟨"archetest/util/StateSet", "size", "()I"⟩ : MethodName)) (z := (⟨"archetest/util/StateSet", "size", "()I"⟩ : MethodName)) hown (mvT hZ (hw _ (List.mem_of_getElem? (i := 28) rfl))) (mvT hZ (hw _ (List.mem_of_getElem? (i := 29) rfl))) (notFace_of_selects (args := #[]) (mvT hZ (hw _ (List.mem_of_getElem? (i := 31) rfl)))) (mvT hZ (hw _ (List.mem_of_getElem? (i := 31) rfl))) (mvT hZ (hw _ (List.mem_of_getElem? (i := 30) rfl))) (by decide) (backOf (W := 0) (own_rm5 l Z av hw [] b234 (ss297) T292.heap n0 z309 f305) hZ (hw _ (List.mem_of_getElem? (i := 32) rfl)) (hw _ (List.mem_of_getElem? (i := 3) rfl)) (by decide) (by decide)) q310a q310c (g := (mkF m 166 #[.val (.int p0), .val (.int p1), .val (.int p2), .val (.int p3), .val (.int p4), .val (.int p5), .val (.int v224), .val (.int v226), .val (.int v228), .val (.int v230), .val (.int v232), .val (.int v233), .val (.ref b234)] [(.ref b234)])) rfl (by rw [hml]; rfl) (Steps.refl _) (argsL := []) (rest := []) (lenOf own_pd2 rfl) rfl (by show 2 * 0 + _ ≤ _; exact Nat.le_of_eq rfl) (hb hby at_166) (fun _ _ => ⟨rfl, rfl, (by decide : 3 + 0 ≤ _), (by decide : 15 + 0 ≤ _)⟩)
    dsimp only [Pt.U, Pt.locs, Pt.cells, Pt.slots] at X310 l310 y310 z310 st310 hQ310
    subst l310 y310 z310
    obtain ⟨rfl, N310q, e312⟩ := hQ310
    have N311 := Fr.app N299 N310q
    obtain ⟨cq313, kq313, q313a, q313b, q313c⟩ := isOf hZ e312 f302
    obtain ⟨_, _, ⟨T313, L313, k313, n313⟩, -, X313, ⟨Lc313, hQ313, l313, y313, z313⟩, st313⟩ := X310.virtualBack hx (y := (⟨"archetest/util/StateSet", "get", "(I)I"⟩ : MethodName)) (z := (⟨"archetest/util/StateSet", "get", "(I)I"⟩ : MethodName)) hown (mvT hZ (hw _ (List.mem_of_getElem? (i := 38) rfl))) (mvT hZ (hw _ (List.mem_of_getElem? (i := 39) rfl))) (notFace_of_selects (args := #[]) (mvT hZ (hw _ (List.mem_of_getElem? (i := 41) rfl)))) (mvT hZ (hw _ (List.mem_of_getElem? (i := 41) rfl))) (mvT hZ (hw _ (List.mem_of_getElem? (i := 40) rfl))) (by decide) (backOf (W := 0) (own_rm7 l Z av hw [] b234 (0 : Int32) (mm243) (km245) (ff296) T292.heap n0 z309 f303 f306 (rfl)) hZ (hw _ (List.mem_of_getElem? (i := 42) rfl)) (hw _ (List.mem_of_getElem? (i := 3) rfl)) (by decide) (by decide)) q313a q313c (g := (mkF m 176 #[.val (.int p0), .val (.int p1), .val (.int p2), .val (.int p3), .val (.int p4), .val (.int p5), .val (.int v224), .val (.int v226), .val (.int v228), .val (.int v230), .val (.int v232), .val (.int v233), .val (.ref b234)] [(.int (0 : Int32)), (.ref b234)])) rfl (by rw [hml]; rfl) (Steps.refl _) (argsL := [(.int (0 : Int32))]) (rest := []) (lenOf own_pd4 rfl) rfl (by show 2 * 0 + _ ≤ _; exact Nat.le_of_eq rfl) (hb hby at_176) (fun _ _ => ⟨rfl, e312, (by decide : 3 + 0 ≤ _), (by decide : 15 + 0 ≤ _)⟩)
    dsimp only [Pt.U, Pt.locs, Pt.cells, Pt.slots] at X313 l313 y313 z313 st313 hQ313
    subst l313 y313 z313
    obtain ⟨rfl, N313q, e315⟩ := hQ313
    have N314 := Fr.app N311 N313q
    obtain ⟨fs, hr, hrun, hended, hW, hsame⟩ := X313.leave (v := some (.int (1 : Int32))) (fun h => by rw [Bd.returns] at h; cases h)
    refine ⟨_, _, pre257 _ ?_, hrun, hended, _, _, rfl, ?_, ⟨_, rfl⟩, hW, hsame.mono (by decide) (by decide)⟩
    · show Steps p.tables e below (T240.setTop (mkF m 66 #[.val (.int p0), .val (.int p1), .val (.int p2), .val (.int p3), .val (.int p4), .val (.int p5), .val (.int v224), .val (.int v226), .val (.int v228), .val (.int v230), .val (.int v232), .val (.int v233), .val (.ref b234)] [(.int (1 : Int32)), (.int v233)])) _
      refine XS.icmpYes X240.here hx rfl (pc0 := 66) (pc' := 77) rfl (hb hby at_66) rfl (tlt hc258).1 (by decide) (by decide) ?_
      show Steps p.tables e below (T240.setTop (mkF m 77 #[.val (.int p0), .val (.int p1), .val (.int p2), .val (.int p3), .val (.int p4), .val (.int p5), .val (.int v224), .val (.int v226), .val (.int v228), .val (.int v230), .val (.int v232), .val (.int v233), .val (.ref b234)] [])) _
      refine XS.iload X240.here hx rfl (hb hby at_77) rfl ?_
      show Steps p.tables e below (T240.setTop (mkF m 79 #[.val (.int p0), .val (.int p1), .val (.int p2), .val (.int p3), .val (.int p4), .val (.int p5), .val (.int v224), .val (.int v226), .val (.int v228), .val (.int v230), .val (.int v232), .val (.int v233), .val (.ref b234)] [(.int v233)])) _
      refine XS.iconst X240.here hx rfl (hb hby at_79) ?_
      show Steps p.tables e below (T240.setTop (mkF m 80 #[.val (.int p0), .val (.int p1), .val (.int p2), .val (.int p3), .val (.int p4), .val (.int p5), .val (.int v224), .val (.int v226), .val (.int v228), .val (.int v230), .val (.int v232), .val (.int v233), .val (.ref b234)] [(.int (2 : Int32)), (.int v233)])) _
      refine XS.icmpYes X240.here hx rfl (pc0 := 80) (pc' := 91) rfl (hb hby at_80) rfl (tlt ((own_side259 p1 v233 hv233 hq248 hc258) : v233 < (2 : Int32))).1 (by decide) (by decide) ?_
      show Steps p.tables e below (T240.setTop (mkF m 91 #[.val (.int p0), .val (.int p1), .val (.int p2), .val (.int p3), .val (.int p4), .val (.int p5), .val (.int v224), .val (.int v226), .val (.int v228), .val (.int v230), .val (.int v232), .val (.int v233), .val (.ref b234)] [])) _
      refine XS.iload X240.here hx rfl (hb hby at_91) rfl ?_
      show Steps p.tables e below (T240.setTop (mkF m 93 #[.val (.int p0), .val (.int p1), .val (.int p2), .val (.int p3), .val (.int p4), .val (.int p5), .val (.int v224), .val (.int v226), .val (.int v228), .val (.int v230), .val (.int v232), .val (.int v233), .val (.ref b234)] [(.int v233)])) _
      refine XS.iconst X240.here hx rfl (hb hby at_93) ?_
      show Steps p.tables e below (T240.setTop (mkF m 94 #[.val (.int p0), .val (.int p1), .val (.int p2), .val (.int p3), .val (.int p4), .val (.int p5), .val (.int v224), .val (.int v226), .val (.int v228), .val (.int v230), .val (.int v232), .val (.int v233), .val (.ref b234)] [(.int (3 : Int32)), (.int v233)])) _
      refine XS.icmpYes X240.here hx rfl (pc0 := 94) (pc' := 105) rfl (hb hby at_94) rfl (tlt ((own_side260 p1 v233 hv233 hq248 hc258) : v233 < (3 : Int32))).1 (by decide) (by decide) ?_
      show Steps p.tables e below (T240.setTop (mkF m 105 #[.val (.int p0), .val (.int p1), .val (.int p2), .val (.int p3), .val (.int p4), .val (.int p5), .val (.int v224), .val (.int v226), .val (.int v228), .val (.int v230), .val (.int v232), .val (.int v233), .val (.ref b234)] [])) _
      refine XS.aload X240.here hx rfl (hb hby at_105) rfl rfl ?_
      show Steps p.tables e below (T240.setTop (mkF m 107 #[.val (.int p0), .val (.int p1), .val (.int p2), .val (.int p3), .val (.int p4), .val (.int p5), .val (.int v224), .val (.int v226), .val (.int v228), .val (.int v230), .val (.int v232), .val (.int v233), .val (.ref b234)] [(.ref b234)])) _
      refine st262.trans ?_
      show Steps p.tables e below (T262.setTop (mkF m 110 #[.val (.int p0), .val (.int p1), .val (.int p2), .val (.int p3), .val (.int p4), .val (.int p5), .val (.int v224), .val (.int v226), .val (.int v228), .val (.int v230), .val (.int v232), .val (.int v233), .val (.ref b234)] [])) _
      refine XS.aload X262.here hx rfl (hb hby at_110) rfl rfl ?_
      show Steps p.tables e below (T262.setTop (mkF m 112 #[.val (.int p0), .val (.int p1), .val (.int p2), .val (.int p3), .val (.int p4), .val (.int p5), .val (.int v224), .val (.int v226), .val (.int v228), .val (.int v230), .val (.int v232), .val (.int v233), .val (.ref b234)] [(.ref b234)])) _
      refine st274.trans ?_
      show Steps p.tables e below (T274.setTop (mkF m 115 #[.val (.int p0), .val (.int p1), .val (.int p2), .val (.int p3), .val (.int p4), .val (.int p5), .val (.int v224), .val (.int v226), .val (.int v228), .val (.int v230), .val (.int v232), .val (.int v233), .val (.ref b234)] [(.int (0 : Int32))])) _
      refine XS.ifYes X274.here hx rfl (pc0 := 115) (pc' := 120) rfl (hb hby at_115) rfl ((if0 _ _).trans (teq (by decide : (0 : Int32) = (0 : Int32))).1) (by decide) (by decide) ?_
      show Steps p.tables e below (T274.setTop (mkF m 120 #[.val (.int p0), .val (.int p1), .val (.int p2), .val (.int p3), .val (.int p4), .val (.int p5), .val (.int v224), .val (.int v226), .val (.int v228), .val (.int v230), .val (.int v232), .val (.int v233), .val (.ref b234)] [])) _
      refine XS.aload X274.here hx rfl (hb hby at_120) rfl rfl ?_
      show Steps p.tables e below (T274.setTop (mkF m 122 #[.val (.int p0), .val (.int p1), .val (.int p2), .val (.int p3), .val (.int p4), .val (.int p5), .val (.int v224), .val (.int v226), .val (.int v228), .val (.int v230), .val (.int v232), .val (.int v233), .val (.ref b234)] [(.ref b234)])) _
      refine XS.iload X274.here hx rfl (hb hby at_122) rfl ?_
      show Steps p.tables e below (T274.setTop (mkF m 124 #[.val (.int p0), .val (.int p1), .val (.int p2), .val (.int p3), .val (.int p4), .val (.int p5), .val (.int v224), .val (.int v226), .val (.int v228), .val (.int v230), .val (.int v232), .val (.int v233), .val (.ref b234)] [(.int v226), (.ref b234)])) _
      refine st277.trans ?_
      show Steps p.tables e below (T277.setTop (mkF m 127 #[.val (.int p0), .val (.int p1), .val (.int p2), .val (.int p3), .val (.int p4), .val (.int p5), .val (.int v224), .val (.int v226), .val (.int v228), .val (.int v230), .val (.int v232), .val (.int v233), .val (.ref b234)] [(.int (own_ct (fun _ => (0 : Int64)) v226))])) _
      refine XS.ifNo X277.here hx rfl (hb hby at_127) rfl ((if0 _ _).trans (teq (own_ct0 _ : (own_ct (fun _ => (0 : Int64)) v226) = (0 : Int32))).2) ?_
      show Steps p.tables e below (T277.setTop (mkF m 130 #[.val (.int p0), .val (.int p1), .val (.int p2), .val (.int p3), .val (.int p4), .val (.int p5), .val (.int v224), .val (.int v226), .val (.int v228), .val (.int v230), .val (.int v232), .val (.int v233), .val (.ref b234)] [])) _
      refine XS.aload X277.here hx rfl (hb hby at_130) rfl rfl ?_
      show Steps p.tables e below (T277.setTop (mkF m 132 #[.val (.int p0), .val (.int p1), .val (.int p2), .val (.int p3), .val (.int p4), .val (.int p5), .val (.int v224), .val (.int v226), .val (.int v228), .val (.int v230), .val (.int v232), .val (.int v233), .val (.ref b234)] [(.ref b234)])) _
      refine XS.iload X277.here hx rfl (hb hby at_132) rfl ?_
      show Steps p.tables e below (T277.setTop (mkF m 134 #[.val (.int p0), .val (.int p1), .val (.int p2), .val (.int p3), .val (.int p4), .val (.int p5), .val (.int v224), .val (.int v226), .val (.int v228), .val (.int v230), .val (.int v232), .val (.int v233), .val (.ref b234)] [(.int v228), (.ref b234)])) _
      refine st282.trans ?_
      show Steps p.tables e below (T282.setTop (mkF m 137 #[.val (.int p0), .val (.int p1), .val (.int p2), .val (.int p3), .val (.int p4), .val (.int p5), .val (.int v224), .val (.int v226), .val (.int v228), .val (.int v230), .val (.int v232), .val (.int v233), .val (.ref b234)] [(.int (own_ct (fun _ => (0 : Int64)) v228))])) _
      refine XS.ifNo X282.here hx rfl (hb hby at_137) rfl ((if0 _ _).trans (teq (own_ct0 _ : (own_ct (fun _ => (0 : Int64)) v228) = (0 : Int32))).2) ?_
      show Steps p.tables e below (T282.setTop (mkF m 140 #[.val (.int p0), .val (.int p1), .val (.int p2), .val (.int p3), .val (.int p4), .val (.int p5), .val (.int v224), .val (.int v226), .val (.int v228), .val (.int v230), .val (.int v232), .val (.int v233), .val (.ref b234)] [])) _
      refine XS.aload X282.here hx rfl (hb hby at_140) rfl rfl ?_
      show Steps p.tables e below (T282.setTop (mkF m 142 #[.val (.int p0), .val (.int p1), .val (.int p2), .val (.int p3), .val (.int p4), .val (.int p5), .val (.int v224), .val (.int v226), .val (.int v228), .val (.int v230), .val (.int v232), .val (.int v233), .val (.ref b234)] [(.ref b234)])) _
      refine XS.iload X282.here hx rfl (hb hby at_142) rfl ?_
      show Steps p.tables e below (T282.setTop (mkF m 144 #[.val (.int p0), .val (.int p1), .val (.int p2), .val (.int p3), .val (.int p4), .val (.int p5), .val (.int v224), .val (.int v226), .val (.int v228), .val (.int v230), .val (.int v232), .val (.int v233), .val (.ref b234)] [(.int v230), (.ref b234)])) _
      refine st287.trans ?_
      show Steps p.tables e below (T287.setTop (mkF m 147 #[.val (.int p0), .val (.int p1), .val (.int p2), .val (.int p3), .val (.int p4), .val (.int p5), .val (.int v224), .val (.int v226), .val (.int v228), .val (.int v230), .val (.int v232), .val (.int v233), .val (.ref b234)] [(.int (own_ct (fun _ => (0 : Int64)) v230))])) _
      refine XS.ifYes X287.here hx rfl (pc0 := 147) (pc' := 152) rfl (hb hby at_147) rfl ((if0 _ _).trans (teq (own_ct0 _ : (own_ct (fun _ => (0 : Int64)) v230) = (0 : Int32))).1) (by decide) (by decide) ?_
      show Steps p.tables e below (T287.setTop (mkF m 152 #[.val (.int p0), .val (.int p1), .val (.int p2), .val (.int p3), .val (.int p4), .val (.int p5), .val (.int v224), .val (.int v226), .val (.int v228), .val (.int v230), .val (.int v232), .val (.int v233), .val (.ref b234)] [])) _
      refine XS.aload X287.here hx rfl (hb hby at_152) rfl rfl ?_
      show Steps p.tables e below (T287.setTop (mkF m 154 #[.val (.int p0), .val (.int p1), .val (.int p2), .val (.int p3), .val (.int p4), .val (.int p5), .val (.int v224), .val (.int v226), .val (.int v228), .val (.int v230), .val (.int v232), .val (.int v233), .val (.ref b234)] [(.ref b234)])) _
      refine XS.iload X287.here hx rfl (hb hby at_154) rfl ?_
      show Steps p.tables e below (T287.setTop (mkF m 156 #[.val (.int p0), .val (.int p1), .val (.int p2), .val (.int p3), .val (.int p4), .val (.int p5), .val (.int v224), .val (.int v226), .val (.int v228), .val (.int v230), .val (.int v232), .val (.int v233), .val (.ref b234)] [(.int v232), (.ref b234)])) _
      refine st292.trans ?_
      show Steps p.tables e below (T292.setTop (mkF m 159 #[.val (.int p0), .val (.int p1), .val (.int p2), .val (.int p3), .val (.int p4), .val (.int p5), .val (.int v224), .val (.int v226), .val (.int v228), .val (.int v230), .val (.int v232), .val (.int v233), .val (.ref b234)] [(.int r298)])) _
      refine XS.ifYes X292.here hx rfl (pc0 := 159) (pc' := 164) rfl (hb hby at_159) rfl ((if0 _ _).trans (feq ((by rw [(own_fresh hq300).1]; decide) : ¬ (r298 = (0 : Int32)))).2) (by decide) (by decide) ?_
      show Steps p.tables e below (T292.setTop (mkF m 164 #[.val (.int p0), .val (.int p1), .val (.int p2), .val (.int p3), .val (.int p4), .val (.int p5), .val (.int v224), .val (.int v226), .val (.int v228), .val (.int v230), .val (.int v232), .val (.int v233), .val (.ref b234)] [])) _
      refine XS.aload X292.here hx rfl (hb hby at_164) rfl rfl ?_
      show Steps p.tables e below (T292.setTop (mkF m 166 #[.val (.int p0), .val (.int p1), .val (.int p2), .val (.int p3), .val (.int p4), .val (.int p5), .val (.int v224), .val (.int v226), .val (.int v228), .val (.int v230), .val (.int v232), .val (.int v233), .val (.ref b234)] [(.ref b234)])) _
      refine st310.trans ?_
      show Steps p.tables e below (T310.setTop (mkF m 169 #[.val (.int p0), .val (.int p1), .val (.int p2), .val (.int p3), .val (.int p4), .val (.int p5), .val (.int v224), .val (.int v226), .val (.int v228), .val (.int v230), .val (.int v232), .val (.int v233), .val (.ref b234)] [(.int ss297)])) _
      refine XS.iconst X310.here hx rfl (hb hby at_169) ?_
      show Steps p.tables e below (T310.setTop (mkF m 170 #[.val (.int p0), .val (.int p1), .val (.int p2), .val (.int p3), .val (.int p4), .val (.int p5), .val (.int v224), .val (.int v226), .val (.int v228), .val (.int v230), .val (.int v232), .val (.int v233), .val (.ref b234)] [(.int (1 : Int32)), (.int ss297)])) _
      refine XS.icmpNo X310.here hx rfl (hb hby at_170) rfl (teq ((own_fresh hq300).2.1 : ss297 = (1 : Int32))).2 ?_
      show Steps p.tables e below (T310.setTop (mkF m 173 #[.val (.int p0), .val (.int p1), .val (.int p2), .val (.int p3), .val (.int p4), .val (.int p5), .val (.int v224), .val (.int v226), .val (.int v228), .val (.int v230), .val (.int v232), .val (.int v233), .val (.ref b234)] [])) _
      refine XS.aload X310.here hx rfl (hb hby at_173) rfl rfl ?_
      show Steps p.tables e below (T310.setTop (mkF m 175 #[.val (.int p0), .val (.int p1), .val (.int p2), .val (.int p3), .val (.int p4), .val (.int p5), .val (.int v224), .val (.int v226), .val (.int v228), .val (.int v230), .val (.int v232), .val (.int v233), .val (.ref b234)] [(.ref b234)])) _
      refine XS.iconst X310.here hx rfl (hb hby at_175) ?_
      show Steps p.tables e below (T310.setTop (mkF m 176 #[.val (.int p0), .val (.int p1), .val (.int p2), .val (.int p3), .val (.int p4), .val (.int p5), .val (.int v224), .val (.int v226), .val (.int v228), .val (.int v230), .val (.int v232), .val (.int v233), .val (.ref b234)] [(.int (0 : Int32)), (.ref b234)])) _
      refine st313.trans ?_
      show Steps p.tables e below (T313.setTop (mkF m 179 #[.val (.int p0), .val (.int p1), .val (.int p2), .val (.int p3), .val (.int p4), .val (.int p5), .val (.int v224), .val (.int v226), .val (.int v228), .val (.int v230), .val (.int v232), .val (.int v233), .val (.ref b234)] [(.int (ff296 0))])) _
      refine XS.iload X313.here hx rfl (hb hby at_179) rfl ?_
      show Steps p.tables e below (T313.setTop (mkF m 181 #[.val (.int p0), .val (.int p1), .val (.int p2), .val (.int p3), .val (.int p4), .val (.int p5), .val (.int v224), .val (.int v226), .val (.int v228), .val (.int v230), .val (.int v232), .val (.int v233), .val (.ref b234)] [(.int v232), (.int (ff296 0))])) _
      refine XS.icmpNo X313.here hx rfl (hb hby at_181) rfl (teq ((own_fresh hq300).2.2 : (ff296 0) = v232)).2 ?_
      show Steps p.tables e below (T313.setTop (mkF m 184 #[.val (.int p0), .val (.int p1), .val (.int p2), .val (.int p3), .val (.int p4), .val (.int p5), .val (.int v224), .val (.int v226), .val (.int v228), .val (.int v230), .val (.int v232), .val (.int v233), .val (.ref b234)] [])) _
      refine XS.iconst X313.here hx rfl (hb hby at_184) ?_
      show Steps p.tables e below (T313.setTop (mkF m 185 #[.val (.int p0), .val (.int p1), .val (.int p2), .val (.int p3), .val (.int p4), .val (.int p5), .val (.int v224), .val (.int v226), .val (.int v228), .val (.int v230), .val (.int v232), .val (.int v233), .val (.ref b234)] [(.int (1 : Int32))])) _
      refine XS.goto X313.here hx rfl (pc0 := 185) (pc' := 189) rfl (hb hby at_185) (by decide) (by decide) ?_
      show Steps p.tables e below (T313.setTop (mkF m 189 #[.val (.int p0), .val (.int p1), .val (.int p2), .val (.int p3), .val (.int p4), .val (.int p5), .val (.int v224), .val (.int v226), .val (.int v228), .val (.int v230), .val (.int v232), .val (.int v233), .val (.ref b234)] [(.int (1 : Int32))])) _
      exact retN X313 hx (t := .boolean) Bd.returns (by simp) (hb hby at_189) hr
    · show own_Q0 Z p0 p1 p2 p3 p4 p5 h0 n0 _ T313.heap _
      rw [e315]
      exact ⟨rfl, N314⟩
  · obtain ⟨cq316, kq316, q316a, q316b, q316c⟩ := isOf hZ rfl f249
    obtain ⟨_, _, ⟨T316, L316, k316, n316⟩, -, X316, ⟨Lc316, hQ316, l316, y316, z316⟩, st316⟩ := X240.virtualBack hx (y := (⟨"archetest/util/StateSet", "add", "(I)Z"⟩ : MethodName)) (z := (⟨"archetest/util/StateSet", "add", "(I)Z"⟩ : MethodName)) hown (mvT hZ (hw _ (List.mem_of_getElem? (i := 16) rfl))) (mvT hZ (hw _ (List.mem_of_getElem? (i := 17) rfl))) (notFace_of_selects (args := #[]) (mvT hZ (hw _ (List.mem_of_getElem? (i := 19) rfl)))) (mvT hZ (hw _ (List.mem_of_getElem? (i := 19) rfl))) (mvT hZ (hw _ (List.mem_of_getElem? (i := 18) rfl))) (by decide) (backOf (W := 0) (own_rm3 l Z av hw [] b234 v226 (mm243) (bb244) (km245) (kb246) ((((v224 + (64 : Int32)) - (1 : Int32)) / (64 : Int32))) ((fun _ => (0 : Int64))) ((fun _ => (0 : Int32))) ((0 : Int32)) (0) T240.heap n0 z256 f249 f250 f251 f252 f253 f254 g_b234 g_mm243 g_bb244 ne_b234_mm243 ne_b234_bb244 hq248 ((own_St0 (((v224 + (64 : Int32)) - (1 : Int32)) / (64 : Int32)) (fun _ => (0 : Int32)))) ((by decide)) ((own_side317 p0 p2 v224 hv224 v226 hv226 hq248)) ((own_side318 p0 v224 hv224 hq248))) hZ (hw _ (List.mem_of_getElem? (i := 20) rfl)) (hw _ (List.mem_of_getElem? (i := 3) rfl)) (by decide) (by decide)) q316a q316c (g := (mkF m 73 #[.val (.int p0), .val (.int p1), .val (.int p2), .val (.int p3), .val (.int p4), .val (.int p5), .val (.int v224), .val (.int v226), .val (.int v228), .val (.int v230), .val (.int v232), .val (.int v233), .val (.ref b234)] [(.int v226), (.ref b234)])) rfl (by rw [hml]; rfl) (Steps.refl _) (argsL := [(.int v226)]) (rest := []) (lenOf own_pd3 rfl) rfl (by show 2 * 0 + _ ≤ _; exact Nat.le_of_eq rfl) (hb hby at_73) (fun _ _ => ⟨rfl, rfl, (by decide : 3 + 0 ≤ _), (by decide : 15 + 0 ≤ _)⟩)
    dsimp only [Pt.U, Pt.locs, Pt.cells, Pt.slots] at X316 l316 y316 z316 st316 hQ316
    subst l316 y316 z316
    obtain ⟨gg319, ff320, ss321, r322, rfl, N316q, K316, f326, f327, f328, f329, f330, f331, hq324, hq325⟩ := hQ316
    have K332 : Keep h0 T316.heap [] := K255.trans K316 (allS (Or.inr sz_b234) (allS (Or.inr sz_mm243) (allS (Or.inr sz_bb244) all0)))
    have z333 : n0 ≤ T316.heap.size := Nat.le_trans z256 K316.1
    have N323 := Fr.app N247 N316q
    have pre334 : ∀ t, Steps p.tables e below (T316.setTop (mkF m 80 #[.val (.int p0), .val (.int p1), .val (.int p2), .val (.int p3), .val (.int p4), .val (.int p5), .val (.int v224), .val (.int v226), .val (.int v228), .val (.int v230), .val (.int v232), .val (.int v233), .val (.ref b234)] [(.int (2 : Int32)), (.int v233)])) t → Steps p.tables e below (s₁.setTop (entryFrame m #[(.int p0), (.int p1), (.int p2), (.int p3), (.int p4), (.int p5)] maxLocals)) t := fun t kk => pre257 t (by
      show Steps p.tables e below (T240.setTop (mkF m 66 #[.val (.int p0), .val (.int p1), .val (.int p2), .val (.int p3), .val (.int p4), .val (.int p5), .val (.int v224), .val (.int v226), .val (.int v228), .val (.int v230), .val (.int v232), .val (.int v233), .val (.ref b234)] [(.int (1 : Int32)), (.int v233)])) _
      refine XS.icmpNo X240.here hx rfl (hb hby at_66) rfl (flt hc258).1 ?_
      show Steps p.tables e below (T240.setTop (mkF m 69 #[.val (.int p0), .val (.int p1), .val (.int p2), .val (.int p3), .val (.int p4), .val (.int p5), .val (.int v224), .val (.int v226), .val (.int v228), .val (.int v230), .val (.int v232), .val (.int v233), .val (.ref b234)] [])) _
      refine XS.aload X240.here hx rfl (hb hby at_69) rfl rfl ?_
      show Steps p.tables e below (T240.setTop (mkF m 71 #[.val (.int p0), .val (.int p1), .val (.int p2), .val (.int p3), .val (.int p4), .val (.int p5), .val (.int v224), .val (.int v226), .val (.int v228), .val (.int v230), .val (.int v232), .val (.int v233), .val (.ref b234)] [(.ref b234)])) _
      refine XS.iload X240.here hx rfl (hb hby at_71) rfl ?_
      show Steps p.tables e below (T240.setTop (mkF m 73 #[.val (.int p0), .val (.int p1), .val (.int p2), .val (.int p3), .val (.int p4), .val (.int p5), .val (.int v224), .val (.int v226), .val (.int v228), .val (.int v230), .val (.int v232), .val (.int v233), .val (.ref b234)] [(.int v226), (.ref b234)])) _
      refine st316.trans ?_
      show Steps p.tables e below (T316.setTop (mkF m 76 #[.val (.int p0), .val (.int p1), .val (.int p2), .val (.int p3), .val (.int p4), .val (.int p5), .val (.int v224), .val (.int v226), .val (.int v228), .val (.int v230), .val (.int v232), .val (.int v233), .val (.ref b234)] [(.int r322)])) _
      refine XS.pop X316.here hx rfl (hb hby at_76) rfl rfl ?_
      show Steps p.tables e below (T316.setTop (mkF m 77 #[.val (.int p0), .val (.int p1), .val (.int p2), .val (.int p3), .val (.int p4), .val (.int p5), .val (.int v224), .val (.int v226), .val (.int v228), .val (.int v230), .val (.int v232), .val (.int v233), .val (.ref b234)] [])) _
      refine XS.iload X316.here hx rfl (hb hby at_77) rfl ?_
      show Steps p.tables e below (T316.setTop (mkF m 79 #[.val (.int p0), .val (.int p1), .val (.int p2), .val (.int p3), .val (.int p4), .val (.int p5), .val (.int v224), .val (.int v226), .val (.int v228), .val (.int v230), .val (.int v232), .val (.int v233), .val (.ref b234)] [(.int v233)])) _
      refine XS.iconst X316.here hx rfl (hb hby at_79) ?_
      show Steps p.tables e below (T316.setTop (mkF m 80 #[.val (.int p0), .val (.int p1), .val (.int p2), .val (.int p3), .val (.int p4), .val (.int p5), .val (.int v224), .val (.int v226), .val (.int v228), .val (.int v230), .val (.int v232), .val (.int v233), .val (.ref b234)] [(.int (2 : Int32)), (.int v233)])) _
      exact kk)
    by_cases hc335 : v233 < (2 : Int32)
    · obtain ⟨k337, hk337, hin337, hz337⟩ := own_clr0 hq325
      obtain ⟨cq338, kq338, q338a, q338b, q338c⟩ := isOf hZ rfl f326
      obtain ⟨_, _, ⟨T338, L338, k338, n338⟩, -, X338, ⟨Lc338, hQ338, l338, y338, z338⟩, st338⟩ := X316.virtualBack hx (y := (⟨"archetest/util/StateSet", "clear", "()V"⟩ : MethodName)) (z := (⟨"archetest/util/StateSet", "clear", "()V"⟩ : MethodName)) hown (mvT hZ (hw _ (List.mem_of_getElem? (i := 23) rfl))) (mvT hZ (hw _ (List.mem_of_getElem? (i := 24) rfl))) (notFace_of_selects (args := #[]) (mvT hZ (hw _ (List.mem_of_getElem? (i := 26) rfl)))) (mvT hZ (hw _ (List.mem_of_getElem? (i := 26) rfl))) (mvT hZ (hw _ (List.mem_of_getElem? (i := 25) rfl))) (by decide) (backOf (W := 0) (own_rm4 l Z av hw [] b234 (mm243) (bb244) (km245) (kb246) ((((v224 + (64 : Int32)) - (1 : Int32)) / (64 : Int32))) (gg319) (ff320) (ss321) (k337) T316.heap n0 z333 f326 f327 f328 f329 f330 f331 g_b234 g_bb244 ne_b234_mm243 ne_b234_bb244 hq248 (hk337) (hin337) ((own_side339 p0 v224 hv224 hq248))) hZ (hw _ (List.mem_of_getElem? (i := 27) rfl)) (hw _ (List.mem_of_getElem? (i := 3) rfl)) (by decide) (by decide)) q338a q338c (g := (mkF m 107 #[.val (.int p0), .val (.int p1), .val (.int p2), .val (.int p3), .val (.int p4), .val (.int p5), .val (.int v224), .val (.int v226), .val (.int v228), .val (.int v230), .val (.int v232), .val (.int v233), .val (.ref b234)] [(.ref b234)])) rfl (by rw [hml]; rfl) (Steps.refl _) (argsL := []) (rest := []) (lenOf own_pd1 rfl) rfl (by show 2 * 0 + _ ≤ _; exact Nat.le_of_eq rfl) (hb hby at_107) (fun _ _ => ⟨rfl, rfl, (by decide : 3 + 0 ≤ _), (by decide : 15 + 0 ≤ _)⟩)
      dsimp only [Pt.U, Pt.locs, Pt.cells, Pt.slots] at X338 l338 y338 z338 st338 hQ338
      subst l338 y338 z338
      obtain ⟨rfl, N338q, K338, f341, f342, f343, f344, f345, f346⟩ := hQ338
      have K347 : Keep h0 T338.heap [] := K332.trans K338 (allS (Or.inr sz_b234) (allS (Or.inr sz_bb244) all0))
      have z348 : n0 ≤ T338.heap.size := Nat.le_trans z333 K338.1
      have N340 := Fr.app N323 N338q
      have f349 : Arv Z T338.heap bb244 kb246 .long (((v224 + (64 : Int32)) - (1 : Int32)) / (64 : Int32)) (own_L (fun _ => (0 : Int64))) (.long (0 : Int64)) := by have q := f346; rw [hz337] at q; exact q
      obtain ⟨cq350, kq350, q350a, q350b, q350c⟩ := isOf hZ rfl f341
      obtain ⟨_, _, ⟨T350, L350, k350, n350⟩, -, X350, ⟨Lc350, hQ350, l350, y350, z350⟩, st350⟩ := X338.virtualBack hx (y := (⟨"archetest/util/StateSet", "size", "()I"⟩ : MethodName)) (z := (⟨"archetest/util/StateSet", "size", "()I"⟩ : MethodName)) hown (mvT hZ (hw _ (List.mem_of_getElem? (i := 28) rfl))) (mvT hZ (hw _ (List.mem_of_getElem? (i := 29) rfl))) (notFace_of_selects (args := #[]) (mvT hZ (hw _ (List.mem_of_getElem? (i := 31) rfl)))) (mvT hZ (hw _ (List.mem_of_getElem? (i := 31) rfl))) (mvT hZ (hw _ (List.mem_of_getElem? (i := 30) rfl))) (by decide) (backOf (W := 0) (own_rm5 l Z av hw [] b234 ((0 : Int32)) T338.heap n0 z348 f344) hZ (hw _ (List.mem_of_getElem? (i := 32) rfl)) (hw _ (List.mem_of_getElem? (i := 3) rfl)) (by decide) (by decide)) q350a q350c (g := (mkF m 112 #[.val (.int p0), .val (.int p1), .val (.int p2), .val (.int p3), .val (.int p4), .val (.int p5), .val (.int v224), .val (.int v226), .val (.int v228), .val (.int v230), .val (.int v232), .val (.int v233), .val (.ref b234)] [(.ref b234)])) rfl (by rw [hml]; rfl) (Steps.refl _) (argsL := []) (rest := []) (lenOf own_pd2 rfl) rfl (by show 2 * 0 + _ ≤ _; exact Nat.le_of_eq rfl) (hb hby at_112) (fun _ _ => ⟨rfl, rfl, (by decide : 3 + 0 ≤ _), (by decide : 15 + 0 ≤ _)⟩)
      dsimp only [Pt.U, Pt.locs, Pt.cells, Pt.slots] at X350 l350 y350 z350 st350 hQ350
      subst l350 y350 z350
      obtain ⟨rfl, N350q, e352⟩ := hQ350
      have N351 := Fr.app N340 N350q
      obtain ⟨cq353, kq353, q353a, q353b, q353c⟩ := isOf hZ e352 f341
      obtain ⟨_, _, ⟨T353, L353, k353, n353⟩, -, X353, ⟨Lc353, hQ353, l353, y353, z353⟩, st353⟩ := X350.virtualBack hx (y := (⟨"archetest/util/StateSet", "contains", "(I)Z"⟩ : MethodName)) (z := (⟨"archetest/util/StateSet", "contains", "(I)Z"⟩ : MethodName)) hown (mvT hZ (hw _ (List.mem_of_getElem? (i := 33) rfl))) (mvT hZ (hw _ (List.mem_of_getElem? (i := 34) rfl))) (notFace_of_selects (args := #[]) (mvT hZ (hw _ (List.mem_of_getElem? (i := 36) rfl)))) (mvT hZ (hw _ (List.mem_of_getElem? (i := 36) rfl))) (mvT hZ (hw _ (List.mem_of_getElem? (i := 35) rfl))) (by decide) (backOf (W := 0) (own_rm6 l Z av hw [] b234 v226 (bb244) (kb246) ((((v224 + (64 : Int32)) - (1 : Int32)) / (64 : Int32))) ((fun _ => (0 : Int64))) T338.heap n0 z348 f343 f349 ((own_side354 p0 p2 v224 hv224 v226 hv226 hq248)) ((own_side355 p0 v224 hv224 hq248))) hZ (hw _ (List.mem_of_getElem? (i := 37) rfl)) (hw _ (List.mem_of_getElem? (i := 3) rfl)) (by decide) (by decide)) q353a q353c (g := (mkF m 124 #[.val (.int p0), .val (.int p1), .val (.int p2), .val (.int p3), .val (.int p4), .val (.int p5), .val (.int v224), .val (.int v226), .val (.int v228), .val (.int v230), .val (.int v232), .val (.int v233), .val (.ref b234)] [(.int v226), (.ref b234)])) rfl (by rw [hml]; rfl) (Steps.refl _) (argsL := [(.int v226)]) (rest := []) (lenOf own_pd3 rfl) rfl (by show 2 * 0 + _ ≤ _; exact Nat.le_of_eq rfl) (hb hby at_124) (fun _ _ => ⟨rfl, e352, (by decide : 3 + 0 ≤ _), (by decide : 15 + 0 ≤ _)⟩)
      dsimp only [Pt.U, Pt.locs, Pt.cells, Pt.slots] at X353 l353 y353 z353 st353 hQ353
      subst l353 y353 z353
      obtain ⟨rfl, N353q, e357⟩ := hQ353
      have N356 := Fr.app N351 N353q
      obtain ⟨cq358, kq358, q358a, q358b, q358c⟩ := isOf hZ e357 f341
      obtain ⟨_, _, ⟨T358, L358, k358, n358⟩, -, X358, ⟨Lc358, hQ358, l358, y358, z358⟩, st358⟩ := X353.virtualBack hx (y := (⟨"archetest/util/StateSet", "contains", "(I)Z"⟩ : MethodName)) (z := (⟨"archetest/util/StateSet", "contains", "(I)Z"⟩ : MethodName)) hown (mvT hZ (hw _ (List.mem_of_getElem? (i := 33) rfl))) (mvT hZ (hw _ (List.mem_of_getElem? (i := 34) rfl))) (notFace_of_selects (args := #[]) (mvT hZ (hw _ (List.mem_of_getElem? (i := 36) rfl)))) (mvT hZ (hw _ (List.mem_of_getElem? (i := 36) rfl))) (mvT hZ (hw _ (List.mem_of_getElem? (i := 35) rfl))) (by decide) (backOf (W := 0) (own_rm6 l Z av hw [] b234 v228 (bb244) (kb246) ((((v224 + (64 : Int32)) - (1 : Int32)) / (64 : Int32))) ((fun _ => (0 : Int64))) T338.heap n0 z348 f343 f349 ((own_side359 p0 p3 v224 hv224 v228 hv228 hq248)) ((own_side360 p0 v224 hv224 hq248))) hZ (hw _ (List.mem_of_getElem? (i := 37) rfl)) (hw _ (List.mem_of_getElem? (i := 3) rfl)) (by decide) (by decide)) q358a q358c (g := (mkF m 134 #[.val (.int p0), .val (.int p1), .val (.int p2), .val (.int p3), .val (.int p4), .val (.int p5), .val (.int v224), .val (.int v226), .val (.int v228), .val (.int v230), .val (.int v232), .val (.int v233), .val (.ref b234)] [(.int v228), (.ref b234)])) rfl (by rw [hml]; rfl) (Steps.refl _) (argsL := [(.int v228)]) (rest := []) (lenOf own_pd3 rfl) rfl (by show 2 * 0 + _ ≤ _; exact Nat.le_of_eq rfl) (hb hby at_134) (fun _ _ => ⟨rfl, e357, (by decide : 3 + 0 ≤ _), (by decide : 15 + 0 ≤ _)⟩)
      dsimp only [Pt.U, Pt.locs, Pt.cells, Pt.slots] at X358 l358 y358 z358 st358 hQ358
      subst l358 y358 z358
      obtain ⟨rfl, N358q, e362⟩ := hQ358
      have N361 := Fr.app N356 N358q
      obtain ⟨cq363, kq363, q363a, q363b, q363c⟩ := isOf hZ e362 f341
      obtain ⟨_, _, ⟨T363, L363, k363, n363⟩, -, X363, ⟨Lc363, hQ363, l363, y363, z363⟩, st363⟩ := X358.virtualBack hx (y := (⟨"archetest/util/StateSet", "contains", "(I)Z"⟩ : MethodName)) (z := (⟨"archetest/util/StateSet", "contains", "(I)Z"⟩ : MethodName)) hown (mvT hZ (hw _ (List.mem_of_getElem? (i := 33) rfl))) (mvT hZ (hw _ (List.mem_of_getElem? (i := 34) rfl))) (notFace_of_selects (args := #[]) (mvT hZ (hw _ (List.mem_of_getElem? (i := 36) rfl)))) (mvT hZ (hw _ (List.mem_of_getElem? (i := 36) rfl))) (mvT hZ (hw _ (List.mem_of_getElem? (i := 35) rfl))) (by decide) (backOf (W := 0) (own_rm6 l Z av hw [] b234 v230 (bb244) (kb246) ((((v224 + (64 : Int32)) - (1 : Int32)) / (64 : Int32))) ((fun _ => (0 : Int64))) T338.heap n0 z348 f343 f349 ((own_side364 p0 p4 v224 hv224 v230 hv230 hq248)) ((own_side365 p0 v224 hv224 hq248))) hZ (hw _ (List.mem_of_getElem? (i := 37) rfl)) (hw _ (List.mem_of_getElem? (i := 3) rfl)) (by decide) (by decide)) q363a q363c (g := (mkF m 144 #[.val (.int p0), .val (.int p1), .val (.int p2), .val (.int p3), .val (.int p4), .val (.int p5), .val (.int v224), .val (.int v226), .val (.int v228), .val (.int v230), .val (.int v232), .val (.int v233), .val (.ref b234)] [(.int v230), (.ref b234)])) rfl (by rw [hml]; rfl) (Steps.refl _) (argsL := [(.int v230)]) (rest := []) (lenOf own_pd3 rfl) rfl (by show 2 * 0 + _ ≤ _; exact Nat.le_of_eq rfl) (hb hby at_144) (fun _ _ => ⟨rfl, e362, (by decide : 3 + 0 ≤ _), (by decide : 15 + 0 ≤ _)⟩)
      dsimp only [Pt.U, Pt.locs, Pt.cells, Pt.slots] at X363 l363 y363 z363 st363 hQ363
      subst l363 y363 z363
      obtain ⟨rfl, N363q, e367⟩ := hQ363
      have N366 := Fr.app N361 N363q
      obtain ⟨cq368, kq368, q368a, q368b, q368c⟩ := isOf hZ e367 f341
      obtain ⟨_, _, ⟨T368, L368, k368, n368⟩, -, X368, ⟨Lc368, hQ368, l368, y368, z368⟩, st368⟩ := X363.virtualBack hx (y := (⟨"archetest/util/StateSet", "add", "(I)Z"⟩ : MethodName)) (z := (⟨"archetest/util/StateSet", "add", "(I)Z"⟩ : MethodName)) hown (mvT hZ (hw _ (List.mem_of_getElem? (i := 16) rfl))) (mvT hZ (hw _ (List.mem_of_getElem? (i := 17) rfl))) (notFace_of_selects (args := #[]) (mvT hZ (hw _ (List.mem_of_getElem? (i := 19) rfl)))) (mvT hZ (hw _ (List.mem_of_getElem? (i := 19) rfl))) (mvT hZ (hw _ (List.mem_of_getElem? (i := 18) rfl))) (by decide) (backOf (W := 0) (own_rm3 l Z av hw [] b234 v232 (mm243) (bb244) (km245) (kb246) ((((v224 + (64 : Int32)) - (1 : Int32)) / (64 : Int32))) ((fun _ => (0 : Int64))) (ff320) ((0 : Int32)) (0) T338.heap n0 z348 f341 f342 f343 f344 f345 f349 g_b234 g_mm243 g_bb244 ne_b234_mm243 ne_b234_bb244 hq248 ((own_St0 (((v224 + (64 : Int32)) - (1 : Int32)) / (64 : Int32)) ff320)) ((by decide)) ((own_side369 p0 p5 v224 hv224 v232 hv232 hq248)) ((own_side370 p0 v224 hv224 hq248))) hZ (hw _ (List.mem_of_getElem? (i := 20) rfl)) (hw _ (List.mem_of_getElem? (i := 3) rfl)) (by decide) (by decide)) q368a q368c (g := (mkF m 156 #[.val (.int p0), .val (.int p1), .val (.int p2), .val (.int p3), .val (.int p4), .val (.int p5), .val (.int v224), .val (.int v226), .val (.int v228), .val (.int v230), .val (.int v232), .val (.int v233), .val (.ref b234)] [(.int v232), (.ref b234)])) rfl (by rw [hml]; rfl) (Steps.refl _) (argsL := [(.int v232)]) (rest := []) (lenOf own_pd3 rfl) rfl (by show 2 * 0 + _ ≤ _; exact Nat.le_of_eq rfl) (hb hby at_156) (fun _ _ => ⟨rfl, e367, (by decide : 3 + 0 ≤ _), (by decide : 15 + 0 ≤ _)⟩)
      dsimp only [Pt.U, Pt.locs, Pt.cells, Pt.slots] at X368 l368 y368 z368 st368 hQ368
      subst l368 y368 z368
      obtain ⟨gg371, ff372, ss373, r374, rfl, N368q, K368, f378, f379, f380, f381, f382, f383, hq376, hq377⟩ := hQ368
      have K384 : Keep h0 T368.heap [] := K347.trans K368 (allS (Or.inr sz_b234) (allS (Or.inr sz_mm243) (allS (Or.inr sz_bb244) all0)))
      have z385 : n0 ≤ T368.heap.size := Nat.le_trans z348 K368.1
      have N375 := Fr.app N366 N368q
      obtain ⟨cq386, kq386, q386a, q386b, q386c⟩ := isOf hZ rfl f378
      obtain ⟨_, _, ⟨T386, L386, k386, n386⟩, -, X386, ⟨Lc386, hQ386, l386, y386, z386⟩, st386⟩ := X368.virtualBack hx (y := (⟨"archetest/util/StateSet", "size", "()I"⟩ : MethodName)) (z := (⟨"archetest/util/StateSet", "size", "()I"⟩ : MethodName)) hown (mvT hZ (hw _ (List.mem_of_getElem? (i := 28) rfl))) (mvT hZ (hw _ (List.mem_of_getElem? (i := 29) rfl))) (notFace_of_selects (args := #[]) (mvT hZ (hw _ (List.mem_of_getElem? (i := 31) rfl)))) (mvT hZ (hw _ (List.mem_of_getElem? (i := 31) rfl))) (mvT hZ (hw _ (List.mem_of_getElem? (i := 30) rfl))) (by decide) (backOf (W := 0) (own_rm5 l Z av hw [] b234 (ss373) T368.heap n0 z385 f381) hZ (hw _ (List.mem_of_getElem? (i := 32) rfl)) (hw _ (List.mem_of_getElem? (i := 3) rfl)) (by decide) (by decide)) q386a q386c (g := (mkF m 166 #[.val (.int p0), .val (.int p1), .val (.int p2), .val (.int p3), .val (.int p4), .val (.int p5), .val (.int v224), .val (.int v226), .val (.int v228), .val (.int v230), .val (.int v232), .val (.int v233), .val (.ref b234)] [(.ref b234)])) rfl (by rw [hml]; rfl) (Steps.refl _) (argsL := []) (rest := []) (lenOf own_pd2 rfl) rfl (by show 2 * 0 + _ ≤ _; exact Nat.le_of_eq rfl) (hb hby at_166) (fun _ _ => ⟨rfl, rfl, (by decide : 3 + 0 ≤ _), (by decide : 15 + 0 ≤ _)⟩)
      dsimp only [Pt.U, Pt.locs, Pt.cells, Pt.slots] at X386 l386 y386 z386 st386 hQ386
      subst l386 y386 z386
      obtain ⟨rfl, N386q, e388⟩ := hQ386
      have N387 := Fr.app N375 N386q
      obtain ⟨cq389, kq389, q389a, q389b, q389c⟩ := isOf hZ e388 f378
      obtain ⟨_, _, ⟨T389, L389, k389, n389⟩, -, X389, ⟨Lc389, hQ389, l389, y389, z389⟩, st389⟩ := X386.virtualBack hx (y := (⟨"archetest/util/StateSet", "get", "(I)I"⟩ : MethodName)) (z := (⟨"archetest/util/StateSet", "get", "(I)I"⟩ : MethodName)) hown (mvT hZ (hw _ (List.mem_of_getElem? (i := 38) rfl))) (mvT hZ (hw _ (List.mem_of_getElem? (i := 39) rfl))) (notFace_of_selects (args := #[]) (mvT hZ (hw _ (List.mem_of_getElem? (i := 41) rfl)))) (mvT hZ (hw _ (List.mem_of_getElem? (i := 41) rfl))) (mvT hZ (hw _ (List.mem_of_getElem? (i := 40) rfl))) (by decide) (backOf (W := 0) (own_rm7 l Z av hw [] b234 (0 : Int32) (mm243) (km245) (ff372) T368.heap n0 z385 f379 f382 (rfl)) hZ (hw _ (List.mem_of_getElem? (i := 42) rfl)) (hw _ (List.mem_of_getElem? (i := 3) rfl)) (by decide) (by decide)) q389a q389c (g := (mkF m 176 #[.val (.int p0), .val (.int p1), .val (.int p2), .val (.int p3), .val (.int p4), .val (.int p5), .val (.int v224), .val (.int v226), .val (.int v228), .val (.int v230), .val (.int v232), .val (.int v233), .val (.ref b234)] [(.int (0 : Int32)), (.ref b234)])) rfl (by rw [hml]; rfl) (Steps.refl _) (argsL := [(.int (0 : Int32))]) (rest := []) (lenOf own_pd4 rfl) rfl (by show 2 * 0 + _ ≤ _; exact Nat.le_of_eq rfl) (hb hby at_176) (fun _ _ => ⟨rfl, e388, (by decide : 3 + 0 ≤ _), (by decide : 15 + 0 ≤ _)⟩)
      dsimp only [Pt.U, Pt.locs, Pt.cells, Pt.slots] at X389 l389 y389 z389 st389 hQ389
      subst l389 y389 z389
      obtain ⟨rfl, N389q, e391⟩ := hQ389
      have N390 := Fr.app N387 N389q
      obtain ⟨fs, hr, hrun, hended, hW, hsame⟩ := X389.leave (v := some (.int (1 : Int32))) (fun h => by rw [Bd.returns] at h; cases h)
      refine ⟨_, _, pre334 _ ?_, hrun, hended, _, _, rfl, ?_, ⟨_, rfl⟩, hW, hsame.mono (by decide) (by decide)⟩
      · show Steps p.tables e below (T316.setTop (mkF m 80 #[.val (.int p0), .val (.int p1), .val (.int p2), .val (.int p3), .val (.int p4), .val (.int p5), .val (.int v224), .val (.int v226), .val (.int v228), .val (.int v230), .val (.int v232), .val (.int v233), .val (.ref b234)] [(.int (2 : Int32)), (.int v233)])) _
        refine XS.icmpYes X316.here hx rfl (pc0 := 80) (pc' := 91) rfl (hb hby at_80) rfl (tlt hc335).1 (by decide) (by decide) ?_
        show Steps p.tables e below (T316.setTop (mkF m 91 #[.val (.int p0), .val (.int p1), .val (.int p2), .val (.int p3), .val (.int p4), .val (.int p5), .val (.int v224), .val (.int v226), .val (.int v228), .val (.int v230), .val (.int v232), .val (.int v233), .val (.ref b234)] [])) _
        refine XS.iload X316.here hx rfl (hb hby at_91) rfl ?_
        show Steps p.tables e below (T316.setTop (mkF m 93 #[.val (.int p0), .val (.int p1), .val (.int p2), .val (.int p3), .val (.int p4), .val (.int p5), .val (.int v224), .val (.int v226), .val (.int v228), .val (.int v230), .val (.int v232), .val (.int v233), .val (.ref b234)] [(.int v233)])) _
        refine XS.iconst X316.here hx rfl (hb hby at_93) ?_
        show Steps p.tables e below (T316.setTop (mkF m 94 #[.val (.int p0), .val (.int p1), .val (.int p2), .val (.int p3), .val (.int p4), .val (.int p5), .val (.int v224), .val (.int v226), .val (.int v228), .val (.int v230), .val (.int v232), .val (.int v233), .val (.ref b234)] [(.int (3 : Int32)), (.int v233)])) _
        refine XS.icmpYes X316.here hx rfl (pc0 := 94) (pc' := 105) rfl (hb hby at_94) rfl (tlt ((own_side336 p1 v233 hv233 hq248 hc258 hc335) : v233 < (3 : Int32))).1 (by decide) (by decide) ?_
        show Steps p.tables e below (T316.setTop (mkF m 105 #[.val (.int p0), .val (.int p1), .val (.int p2), .val (.int p3), .val (.int p4), .val (.int p5), .val (.int v224), .val (.int v226), .val (.int v228), .val (.int v230), .val (.int v232), .val (.int v233), .val (.ref b234)] [])) _
        refine XS.aload X316.here hx rfl (hb hby at_105) rfl rfl ?_
        show Steps p.tables e below (T316.setTop (mkF m 107 #[.val (.int p0), .val (.int p1), .val (.int p2), .val (.int p3), .val (.int p4), .val (.int p5), .val (.int v224), .val (.int v226), .val (.int v228), .val (.int v230), .val (.int v232), .val (.int v233), .val (.ref b234)] [(.ref b234)])) _
        refine st338.trans ?_
        show Steps p.tables e below (T338.setTop (mkF m 110 #[.val (.int p0), .val (.int p1), .val (.int p2), .val (.int p3), .val (.int p4), .val (.int p5), .val (.int v224), .val (.int v226), .val (.int v228), .val (.int v230), .val (.int v232), .val (.int v233), .val (.ref b234)] [])) _
        refine XS.aload X338.here hx rfl (hb hby at_110) rfl rfl ?_
        show Steps p.tables e below (T338.setTop (mkF m 112 #[.val (.int p0), .val (.int p1), .val (.int p2), .val (.int p3), .val (.int p4), .val (.int p5), .val (.int v224), .val (.int v226), .val (.int v228), .val (.int v230), .val (.int v232), .val (.int v233), .val (.ref b234)] [(.ref b234)])) _
        refine st350.trans ?_
        show Steps p.tables e below (T350.setTop (mkF m 115 #[.val (.int p0), .val (.int p1), .val (.int p2), .val (.int p3), .val (.int p4), .val (.int p5), .val (.int v224), .val (.int v226), .val (.int v228), .val (.int v230), .val (.int v232), .val (.int v233), .val (.ref b234)] [(.int (0 : Int32))])) _
        refine XS.ifYes X350.here hx rfl (pc0 := 115) (pc' := 120) rfl (hb hby at_115) rfl ((if0 _ _).trans (teq (by decide : (0 : Int32) = (0 : Int32))).1) (by decide) (by decide) ?_
        show Steps p.tables e below (T350.setTop (mkF m 120 #[.val (.int p0), .val (.int p1), .val (.int p2), .val (.int p3), .val (.int p4), .val (.int p5), .val (.int v224), .val (.int v226), .val (.int v228), .val (.int v230), .val (.int v232), .val (.int v233), .val (.ref b234)] [])) _
        refine XS.aload X350.here hx rfl (hb hby at_120) rfl rfl ?_
        show Steps p.tables e below (T350.setTop (mkF m 122 #[.val (.int p0), .val (.int p1), .val (.int p2), .val (.int p3), .val (.int p4), .val (.int p5), .val (.int v224), .val (.int v226), .val (.int v228), .val (.int v230), .val (.int v232), .val (.int v233), .val (.ref b234)] [(.ref b234)])) _
        refine XS.iload X350.here hx rfl (hb hby at_122) rfl ?_
        show Steps p.tables e below (T350.setTop (mkF m 124 #[.val (.int p0), .val (.int p1), .val (.int p2), .val (.int p3), .val (.int p4), .val (.int p5), .val (.int v224), .val (.int v226), .val (.int v228), .val (.int v230), .val (.int v232), .val (.int v233), .val (.ref b234)] [(.int v226), (.ref b234)])) _
        refine st353.trans ?_
        show Steps p.tables e below (T353.setTop (mkF m 127 #[.val (.int p0), .val (.int p1), .val (.int p2), .val (.int p3), .val (.int p4), .val (.int p5), .val (.int v224), .val (.int v226), .val (.int v228), .val (.int v230), .val (.int v232), .val (.int v233), .val (.ref b234)] [(.int (own_ct (fun _ => (0 : Int64)) v226))])) _
        refine XS.ifNo X353.here hx rfl (hb hby at_127) rfl ((if0 _ _).trans (teq (own_ct0 _ : (own_ct (fun _ => (0 : Int64)) v226) = (0 : Int32))).2) ?_
        show Steps p.tables e below (T353.setTop (mkF m 130 #[.val (.int p0), .val (.int p1), .val (.int p2), .val (.int p3), .val (.int p4), .val (.int p5), .val (.int v224), .val (.int v226), .val (.int v228), .val (.int v230), .val (.int v232), .val (.int v233), .val (.ref b234)] [])) _
        refine XS.aload X353.here hx rfl (hb hby at_130) rfl rfl ?_
        show Steps p.tables e below (T353.setTop (mkF m 132 #[.val (.int p0), .val (.int p1), .val (.int p2), .val (.int p3), .val (.int p4), .val (.int p5), .val (.int v224), .val (.int v226), .val (.int v228), .val (.int v230), .val (.int v232), .val (.int v233), .val (.ref b234)] [(.ref b234)])) _
        refine XS.iload X353.here hx rfl (hb hby at_132) rfl ?_
        show Steps p.tables e below (T353.setTop (mkF m 134 #[.val (.int p0), .val (.int p1), .val (.int p2), .val (.int p3), .val (.int p4), .val (.int p5), .val (.int v224), .val (.int v226), .val (.int v228), .val (.int v230), .val (.int v232), .val (.int v233), .val (.ref b234)] [(.int v228), (.ref b234)])) _
        refine st358.trans ?_
        show Steps p.tables e below (T358.setTop (mkF m 137 #[.val (.int p0), .val (.int p1), .val (.int p2), .val (.int p3), .val (.int p4), .val (.int p5), .val (.int v224), .val (.int v226), .val (.int v228), .val (.int v230), .val (.int v232), .val (.int v233), .val (.ref b234)] [(.int (own_ct (fun _ => (0 : Int64)) v228))])) _
        refine XS.ifNo X358.here hx rfl (hb hby at_137) rfl ((if0 _ _).trans (teq (own_ct0 _ : (own_ct (fun _ => (0 : Int64)) v228) = (0 : Int32))).2) ?_
        show Steps p.tables e below (T358.setTop (mkF m 140 #[.val (.int p0), .val (.int p1), .val (.int p2), .val (.int p3), .val (.int p4), .val (.int p5), .val (.int v224), .val (.int v226), .val (.int v228), .val (.int v230), .val (.int v232), .val (.int v233), .val (.ref b234)] [])) _
        refine XS.aload X358.here hx rfl (hb hby at_140) rfl rfl ?_
        show Steps p.tables e below (T358.setTop (mkF m 142 #[.val (.int p0), .val (.int p1), .val (.int p2), .val (.int p3), .val (.int p4), .val (.int p5), .val (.int v224), .val (.int v226), .val (.int v228), .val (.int v230), .val (.int v232), .val (.int v233), .val (.ref b234)] [(.ref b234)])) _
        refine XS.iload X358.here hx rfl (hb hby at_142) rfl ?_
        show Steps p.tables e below (T358.setTop (mkF m 144 #[.val (.int p0), .val (.int p1), .val (.int p2), .val (.int p3), .val (.int p4), .val (.int p5), .val (.int v224), .val (.int v226), .val (.int v228), .val (.int v230), .val (.int v232), .val (.int v233), .val (.ref b234)] [(.int v230), (.ref b234)])) _
        refine st363.trans ?_
        show Steps p.tables e below (T363.setTop (mkF m 147 #[.val (.int p0), .val (.int p1), .val (.int p2), .val (.int p3), .val (.int p4), .val (.int p5), .val (.int v224), .val (.int v226), .val (.int v228), .val (.int v230), .val (.int v232), .val (.int v233), .val (.ref b234)] [(.int (own_ct (fun _ => (0 : Int64)) v230))])) _
        refine XS.ifYes X363.here hx rfl (pc0 := 147) (pc' := 152) rfl (hb hby at_147) rfl ((if0 _ _).trans (teq (own_ct0 _ : (own_ct (fun _ => (0 : Int64)) v230) = (0 : Int32))).1) (by decide) (by decide) ?_
        show Steps p.tables e below (T363.setTop (mkF m 152 #[.val (.int p0), .val (.int p1), .val (.int p2), .val (.int p3), .val (.int p4), .val (.int p5), .val (.int v224), .val (.int v226), .val (.int v228), .val (.int v230), .val (.int v232), .val (.int v233), .val (.ref b234)] [])) _
        refine XS.aload X363.here hx rfl (hb hby at_152) rfl rfl ?_
        show Steps p.tables e below (T363.setTop (mkF m 154 #[.val (.int p0), .val (.int p1), .val (.int p2), .val (.int p3), .val (.int p4), .val (.int p5), .val (.int v224), .val (.int v226), .val (.int v228), .val (.int v230), .val (.int v232), .val (.int v233), .val (.ref b234)] [(.ref b234)])) _
        refine XS.iload X363.here hx rfl (hb hby at_154) rfl ?_
        show Steps p.tables e below (T363.setTop (mkF m 156 #[.val (.int p0), .val (.int p1), .val (.int p2), .val (.int p3), .val (.int p4), .val (.int p5), .val (.int v224), .val (.int v226), .val (.int v228), .val (.int v230), .val (.int v232), .val (.int v233), .val (.ref b234)] [(.int v232), (.ref b234)])) _
        refine st368.trans ?_
        show Steps p.tables e below (T368.setTop (mkF m 159 #[.val (.int p0), .val (.int p1), .val (.int p2), .val (.int p3), .val (.int p4), .val (.int p5), .val (.int v224), .val (.int v226), .val (.int v228), .val (.int v230), .val (.int v232), .val (.int v233), .val (.ref b234)] [(.int r374)])) _
        refine XS.ifYes X368.here hx rfl (pc0 := 159) (pc' := 164) rfl (hb hby at_159) rfl ((if0 _ _).trans (feq ((by rw [(own_fresh hq376).1]; decide) : ¬ (r374 = (0 : Int32)))).2) (by decide) (by decide) ?_
        show Steps p.tables e below (T368.setTop (mkF m 164 #[.val (.int p0), .val (.int p1), .val (.int p2), .val (.int p3), .val (.int p4), .val (.int p5), .val (.int v224), .val (.int v226), .val (.int v228), .val (.int v230), .val (.int v232), .val (.int v233), .val (.ref b234)] [])) _
        refine XS.aload X368.here hx rfl (hb hby at_164) rfl rfl ?_
        show Steps p.tables e below (T368.setTop (mkF m 166 #[.val (.int p0), .val (.int p1), .val (.int p2), .val (.int p3), .val (.int p4), .val (.int p5), .val (.int v224), .val (.int v226), .val (.int v228), .val (.int v230), .val (.int v232), .val (.int v233), .val (.ref b234)] [(.ref b234)])) _
        refine st386.trans ?_
        show Steps p.tables e below (T386.setTop (mkF m 169 #[.val (.int p0), .val (.int p1), .val (.int p2), .val (.int p3), .val (.int p4), .val (.int p5), .val (.int v224), .val (.int v226), .val (.int v228), .val (.int v230), .val (.int v232), .val (.int v233), .val (.ref b234)] [(.int ss373)])) _
        refine XS.iconst X386.here hx rfl (hb hby at_169) ?_
        show Steps p.tables e below (T386.setTop (mkF m 170 #[.val (.int p0), .val (.int p1), .val (.int p2), .val (.int p3), .val (.int p4), .val (.int p5), .val (.int v224), .val (.int v226), .val (.int v228), .val (.int v230), .val (.int v232), .val (.int v233), .val (.ref b234)] [(.int (1 : Int32)), (.int ss373)])) _
        refine XS.icmpNo X386.here hx rfl (hb hby at_170) rfl (teq ((own_fresh hq376).2.1 : ss373 = (1 : Int32))).2 ?_
        show Steps p.tables e below (T386.setTop (mkF m 173 #[.val (.int p0), .val (.int p1), .val (.int p2), .val (.int p3), .val (.int p4), .val (.int p5), .val (.int v224), .val (.int v226), .val (.int v228), .val (.int v230), .val (.int v232), .val (.int v233), .val (.ref b234)] [])) _
        refine XS.aload X386.here hx rfl (hb hby at_173) rfl rfl ?_
        show Steps p.tables e below (T386.setTop (mkF m 175 #[.val (.int p0), .val (.int p1), .val (.int p2), .val (.int p3), .val (.int p4), .val (.int p5), .val (.int v224), .val (.int v226), .val (.int v228), .val (.int v230), .val (.int v232), .val (.int v233), .val (.ref b234)] [(.ref b234)])) _
        refine XS.iconst X386.here hx rfl (hb hby at_175) ?_
        show Steps p.tables e below (T386.setTop (mkF m 176 #[.val (.int p0), .val (.int p1), .val (.int p2), .val (.int p3), .val (.int p4), .val (.int p5), .val (.int v224), .val (.int v226), .val (.int v228), .val (.int v230), .val (.int v232), .val (.int v233), .val (.ref b234)] [(.int (0 : Int32)), (.ref b234)])) _
        refine st389.trans ?_
        show Steps p.tables e below (T389.setTop (mkF m 179 #[.val (.int p0), .val (.int p1), .val (.int p2), .val (.int p3), .val (.int p4), .val (.int p5), .val (.int v224), .val (.int v226), .val (.int v228), .val (.int v230), .val (.int v232), .val (.int v233), .val (.ref b234)] [(.int (ff372 0))])) _
        refine XS.iload X389.here hx rfl (hb hby at_179) rfl ?_
        show Steps p.tables e below (T389.setTop (mkF m 181 #[.val (.int p0), .val (.int p1), .val (.int p2), .val (.int p3), .val (.int p4), .val (.int p5), .val (.int v224), .val (.int v226), .val (.int v228), .val (.int v230), .val (.int v232), .val (.int v233), .val (.ref b234)] [(.int v232), (.int (ff372 0))])) _
        refine XS.icmpNo X389.here hx rfl (hb hby at_181) rfl (teq ((own_fresh hq376).2.2 : (ff372 0) = v232)).2 ?_
        show Steps p.tables e below (T389.setTop (mkF m 184 #[.val (.int p0), .val (.int p1), .val (.int p2), .val (.int p3), .val (.int p4), .val (.int p5), .val (.int v224), .val (.int v226), .val (.int v228), .val (.int v230), .val (.int v232), .val (.int v233), .val (.ref b234)] [])) _
        refine XS.iconst X389.here hx rfl (hb hby at_184) ?_
        show Steps p.tables e below (T389.setTop (mkF m 185 #[.val (.int p0), .val (.int p1), .val (.int p2), .val (.int p3), .val (.int p4), .val (.int p5), .val (.int v224), .val (.int v226), .val (.int v228), .val (.int v230), .val (.int v232), .val (.int v233), .val (.ref b234)] [(.int (1 : Int32))])) _
        refine XS.goto X389.here hx rfl (pc0 := 185) (pc' := 189) rfl (hb hby at_185) (by decide) (by decide) ?_
        show Steps p.tables e below (T389.setTop (mkF m 189 #[.val (.int p0), .val (.int p1), .val (.int p2), .val (.int p3), .val (.int p4), .val (.int p5), .val (.int v224), .val (.int v226), .val (.int v228), .val (.int v230), .val (.int v232), .val (.int v233), .val (.ref b234)] [(.int (1 : Int32))])) _
        exact retN X389 hx (t := .boolean) Bd.returns (by simp) (hb hby at_189) hr
      · show own_Q0 Z p0 p1 p2 p3 p4 p5 h0 n0 _ T389.heap _
        rw [e391]
        exact ⟨rfl, N390⟩
    · obtain ⟨cq392, kq392, q392a, q392b, q392c⟩ := isOf hZ rfl f326
      obtain ⟨_, _, ⟨T392, L392, k392, n392⟩, -, X392, ⟨Lc392, hQ392, l392, y392, z392⟩, st392⟩ := X316.virtualBack hx (y := (⟨"archetest/util/StateSet", "add", "(I)Z"⟩ : MethodName)) (z := (⟨"archetest/util/StateSet", "add", "(I)Z"⟩ : MethodName)) hown (mvT hZ (hw _ (List.mem_of_getElem? (i := 16) rfl))) (mvT hZ (hw _ (List.mem_of_getElem? (i := 17) rfl))) (notFace_of_selects (args := #[]) (mvT hZ (hw _ (List.mem_of_getElem? (i := 19) rfl)))) (mvT hZ (hw _ (List.mem_of_getElem? (i := 19) rfl))) (mvT hZ (hw _ (List.mem_of_getElem? (i := 18) rfl))) (by decide) (backOf (W := 0) (own_rm3 l Z av hw [] b234 v228 (mm243) (bb244) (km245) (kb246) ((((v224 + (64 : Int32)) - (1 : Int32)) / (64 : Int32))) (gg319) (ff320) (ss321) ((0 + 1)) T316.heap n0 z333 f326 f327 f328 f329 f330 f331 g_b234 g_mm243 g_bb244 ne_b234_mm243 ne_b234_bb244 hq248 (hq325) ((by decide)) ((own_side393 p0 p3 v224 hv224 v228 hv228 hq248)) ((own_side394 p0 v224 hv224 hq248))) hZ (hw _ (List.mem_of_getElem? (i := 20) rfl)) (hw _ (List.mem_of_getElem? (i := 3) rfl)) (by decide) (by decide)) q392a q392c (g := (mkF m 87 #[.val (.int p0), .val (.int p1), .val (.int p2), .val (.int p3), .val (.int p4), .val (.int p5), .val (.int v224), .val (.int v226), .val (.int v228), .val (.int v230), .val (.int v232), .val (.int v233), .val (.ref b234)] [(.int v228), (.ref b234)])) rfl (by rw [hml]; rfl) (Steps.refl _) (argsL := [(.int v228)]) (rest := []) (lenOf own_pd3 rfl) rfl (by show 2 * 0 + _ ≤ _; exact Nat.le_of_eq rfl) (hb hby at_87) (fun _ _ => ⟨rfl, rfl, (by decide : 3 + 0 ≤ _), (by decide : 15 + 0 ≤ _)⟩)
      dsimp only [Pt.U, Pt.locs, Pt.cells, Pt.slots] at X392 l392 y392 z392 st392 hQ392
      subst l392 y392 z392
      obtain ⟨gg395, ff396, ss397, r398, rfl, N392q, K392, f402, f403, f404, f405, f406, f407, hq400, hq401⟩ := hQ392
      have K408 : Keep h0 T392.heap [] := K332.trans K392 (allS (Or.inr sz_b234) (allS (Or.inr sz_mm243) (allS (Or.inr sz_bb244) all0)))
      have z409 : n0 ≤ T392.heap.size := Nat.le_trans z333 K392.1
      have N399 := Fr.app N323 N392q
      have pre410 : ∀ t, Steps p.tables e below (T392.setTop (mkF m 94 #[.val (.int p0), .val (.int p1), .val (.int p2), .val (.int p3), .val (.int p4), .val (.int p5), .val (.int v224), .val (.int v226), .val (.int v228), .val (.int v230), .val (.int v232), .val (.int v233), .val (.ref b234)] [(.int (3 : Int32)), (.int v233)])) t → Steps p.tables e below (s₁.setTop (entryFrame m #[(.int p0), (.int p1), (.int p2), (.int p3), (.int p4), (.int p5)] maxLocals)) t := fun t kk => pre334 t (by
        show Steps p.tables e below (T316.setTop (mkF m 80 #[.val (.int p0), .val (.int p1), .val (.int p2), .val (.int p3), .val (.int p4), .val (.int p5), .val (.int v224), .val (.int v226), .val (.int v228), .val (.int v230), .val (.int v232), .val (.int v233), .val (.ref b234)] [(.int (2 : Int32)), (.int v233)])) _
        refine XS.icmpNo X316.here hx rfl (hb hby at_80) rfl (flt hc335).1 ?_
        show Steps p.tables e below (T316.setTop (mkF m 83 #[.val (.int p0), .val (.int p1), .val (.int p2), .val (.int p3), .val (.int p4), .val (.int p5), .val (.int v224), .val (.int v226), .val (.int v228), .val (.int v230), .val (.int v232), .val (.int v233), .val (.ref b234)] [])) _
        refine XS.aload X316.here hx rfl (hb hby at_83) rfl rfl ?_
        show Steps p.tables e below (T316.setTop (mkF m 85 #[.val (.int p0), .val (.int p1), .val (.int p2), .val (.int p3), .val (.int p4), .val (.int p5), .val (.int v224), .val (.int v226), .val (.int v228), .val (.int v230), .val (.int v232), .val (.int v233), .val (.ref b234)] [(.ref b234)])) _
        refine XS.iload X316.here hx rfl (hb hby at_85) rfl ?_
        show Steps p.tables e below (T316.setTop (mkF m 87 #[.val (.int p0), .val (.int p1), .val (.int p2), .val (.int p3), .val (.int p4), .val (.int p5), .val (.int v224), .val (.int v226), .val (.int v228), .val (.int v230), .val (.int v232), .val (.int v233), .val (.ref b234)] [(.int v228), (.ref b234)])) _
        refine st392.trans ?_
        show Steps p.tables e below (T392.setTop (mkF m 90 #[.val (.int p0), .val (.int p1), .val (.int p2), .val (.int p3), .val (.int p4), .val (.int p5), .val (.int v224), .val (.int v226), .val (.int v228), .val (.int v230), .val (.int v232), .val (.int v233), .val (.ref b234)] [(.int r398)])) _
        refine XS.pop X392.here hx rfl (hb hby at_90) rfl rfl ?_
        show Steps p.tables e below (T392.setTop (mkF m 91 #[.val (.int p0), .val (.int p1), .val (.int p2), .val (.int p3), .val (.int p4), .val (.int p5), .val (.int v224), .val (.int v226), .val (.int v228), .val (.int v230), .val (.int v232), .val (.int v233), .val (.ref b234)] [])) _
        refine XS.iload X392.here hx rfl (hb hby at_91) rfl ?_
        show Steps p.tables e below (T392.setTop (mkF m 93 #[.val (.int p0), .val (.int p1), .val (.int p2), .val (.int p3), .val (.int p4), .val (.int p5), .val (.int v224), .val (.int v226), .val (.int v228), .val (.int v230), .val (.int v232), .val (.int v233), .val (.ref b234)] [(.int v233)])) _
        refine XS.iconst X392.here hx rfl (hb hby at_93) ?_
        show Steps p.tables e below (T392.setTop (mkF m 94 #[.val (.int p0), .val (.int p1), .val (.int p2), .val (.int p3), .val (.int p4), .val (.int p5), .val (.int v224), .val (.int v226), .val (.int v228), .val (.int v230), .val (.int v232), .val (.int v233), .val (.ref b234)] [(.int (3 : Int32)), (.int v233)])) _
        exact kk)
      by_cases hc411 : v233 < (3 : Int32)
      · obtain ⟨k412, hk412, hin412, hz412⟩ := own_clr0 hq401
        obtain ⟨cq413, kq413, q413a, q413b, q413c⟩ := isOf hZ rfl f402
        obtain ⟨_, _, ⟨T413, L413, k413, n413⟩, -, X413, ⟨Lc413, hQ413, l413, y413, z413⟩, st413⟩ := X392.virtualBack hx (y := (⟨"archetest/util/StateSet", "clear", "()V"⟩ : MethodName)) (z := (⟨"archetest/util/StateSet", "clear", "()V"⟩ : MethodName)) hown (mvT hZ (hw _ (List.mem_of_getElem? (i := 23) rfl))) (mvT hZ (hw _ (List.mem_of_getElem? (i := 24) rfl))) (notFace_of_selects (args := #[]) (mvT hZ (hw _ (List.mem_of_getElem? (i := 26) rfl)))) (mvT hZ (hw _ (List.mem_of_getElem? (i := 26) rfl))) (mvT hZ (hw _ (List.mem_of_getElem? (i := 25) rfl))) (by decide) (backOf (W := 0) (own_rm4 l Z av hw [] b234 (mm243) (bb244) (km245) (kb246) ((((v224 + (64 : Int32)) - (1 : Int32)) / (64 : Int32))) (gg395) (ff396) (ss397) (k412) T392.heap n0 z409 f402 f403 f404 f405 f406 f407 g_b234 g_bb244 ne_b234_mm243 ne_b234_bb244 hq248 (hk412) (hin412) ((own_side414 p0 v224 hv224 hq248))) hZ (hw _ (List.mem_of_getElem? (i := 27) rfl)) (hw _ (List.mem_of_getElem? (i := 3) rfl)) (by decide) (by decide)) q413a q413c (g := (mkF m 107 #[.val (.int p0), .val (.int p1), .val (.int p2), .val (.int p3), .val (.int p4), .val (.int p5), .val (.int v224), .val (.int v226), .val (.int v228), .val (.int v230), .val (.int v232), .val (.int v233), .val (.ref b234)] [(.ref b234)])) rfl (by rw [hml]; rfl) (Steps.refl _) (argsL := []) (rest := []) (lenOf own_pd1 rfl) rfl (by show 2 * 0 + _ ≤ _; exact Nat.le_of_eq rfl) (hb hby at_107) (fun _ _ => ⟨rfl, rfl, (by decide : 3 + 0 ≤ _), (by decide : 15 + 0 ≤ _)⟩)
        dsimp only [Pt.U, Pt.locs, Pt.cells, Pt.slots] at X413 l413 y413 z413 st413 hQ413
        subst l413 y413 z413
        obtain ⟨rfl, N413q, K413, f416, f417, f418, f419, f420, f421⟩ := hQ413
        have K422 : Keep h0 T413.heap [] := K408.trans K413 (allS (Or.inr sz_b234) (allS (Or.inr sz_bb244) all0))
        have z423 : n0 ≤ T413.heap.size := Nat.le_trans z409 K413.1
        have N415 := Fr.app N399 N413q
        have f424 : Arv Z T413.heap bb244 kb246 .long (((v224 + (64 : Int32)) - (1 : Int32)) / (64 : Int32)) (own_L (fun _ => (0 : Int64))) (.long (0 : Int64)) := by have q := f421; rw [hz412] at q; exact q
        obtain ⟨cq425, kq425, q425a, q425b, q425c⟩ := isOf hZ rfl f416
        obtain ⟨_, _, ⟨T425, L425, k425, n425⟩, -, X425, ⟨Lc425, hQ425, l425, y425, z425⟩, st425⟩ := X413.virtualBack hx (y := (⟨"archetest/util/StateSet", "size", "()I"⟩ : MethodName)) (z := (⟨"archetest/util/StateSet", "size", "()I"⟩ : MethodName)) hown (mvT hZ (hw _ (List.mem_of_getElem? (i := 28) rfl))) (mvT hZ (hw _ (List.mem_of_getElem? (i := 29) rfl))) (notFace_of_selects (args := #[]) (mvT hZ (hw _ (List.mem_of_getElem? (i := 31) rfl)))) (mvT hZ (hw _ (List.mem_of_getElem? (i := 31) rfl))) (mvT hZ (hw _ (List.mem_of_getElem? (i := 30) rfl))) (by decide) (backOf (W := 0) (own_rm5 l Z av hw [] b234 ((0 : Int32)) T413.heap n0 z423 f419) hZ (hw _ (List.mem_of_getElem? (i := 32) rfl)) (hw _ (List.mem_of_getElem? (i := 3) rfl)) (by decide) (by decide)) q425a q425c (g := (mkF m 112 #[.val (.int p0), .val (.int p1), .val (.int p2), .val (.int p3), .val (.int p4), .val (.int p5), .val (.int v224), .val (.int v226), .val (.int v228), .val (.int v230), .val (.int v232), .val (.int v233), .val (.ref b234)] [(.ref b234)])) rfl (by rw [hml]; rfl) (Steps.refl _) (argsL := []) (rest := []) (lenOf own_pd2 rfl) rfl (by show 2 * 0 + _ ≤ _; exact Nat.le_of_eq rfl) (hb hby at_112) (fun _ _ => ⟨rfl, rfl, (by decide : 3 + 0 ≤ _), (by decide : 15 + 0 ≤ _)⟩)
        dsimp only [Pt.U, Pt.locs, Pt.cells, Pt.slots] at X425 l425 y425 z425 st425 hQ425
        subst l425 y425 z425
        obtain ⟨rfl, N425q, e427⟩ := hQ425
        have N426 := Fr.app N415 N425q
        obtain ⟨cq428, kq428, q428a, q428b, q428c⟩ := isOf hZ e427 f416
        obtain ⟨_, _, ⟨T428, L428, k428, n428⟩, -, X428, ⟨Lc428, hQ428, l428, y428, z428⟩, st428⟩ := X425.virtualBack hx (y := (⟨"archetest/util/StateSet", "contains", "(I)Z"⟩ : MethodName)) (z := (⟨"archetest/util/StateSet", "contains", "(I)Z"⟩ : MethodName)) hown (mvT hZ (hw _ (List.mem_of_getElem? (i := 33) rfl))) (mvT hZ (hw _ (List.mem_of_getElem? (i := 34) rfl))) (notFace_of_selects (args := #[]) (mvT hZ (hw _ (List.mem_of_getElem? (i := 36) rfl)))) (mvT hZ (hw _ (List.mem_of_getElem? (i := 36) rfl))) (mvT hZ (hw _ (List.mem_of_getElem? (i := 35) rfl))) (by decide) (backOf (W := 0) (own_rm6 l Z av hw [] b234 v226 (bb244) (kb246) ((((v224 + (64 : Int32)) - (1 : Int32)) / (64 : Int32))) ((fun _ => (0 : Int64))) T413.heap n0 z423 f418 f424 ((own_side429 p0 p2 v224 hv224 v226 hv226 hq248)) ((own_side430 p0 v224 hv224 hq248))) hZ (hw _ (List.mem_of_getElem? (i := 37) rfl)) (hw _ (List.mem_of_getElem? (i := 3) rfl)) (by decide) (by decide)) q428a q428c (g := (mkF m 124 #[.val (.int p0), .val (.int p1), .val (.int p2), .val (.int p3), .val (.int p4), .val (.int p5), .val (.int v224), .val (.int v226), .val (.int v228), .val (.int v230), .val (.int v232), .val (.int v233), .val (.ref b234)] [(.int v226), (.ref b234)])) rfl (by rw [hml]; rfl) (Steps.refl _) (argsL := [(.int v226)]) (rest := []) (lenOf own_pd3 rfl) rfl (by show 2 * 0 + _ ≤ _; exact Nat.le_of_eq rfl) (hb hby at_124) (fun _ _ => ⟨rfl, e427, (by decide : 3 + 0 ≤ _), (by decide : 15 + 0 ≤ _)⟩)
        dsimp only [Pt.U, Pt.locs, Pt.cells, Pt.slots] at X428 l428 y428 z428 st428 hQ428
        subst l428 y428 z428
        obtain ⟨rfl, N428q, e432⟩ := hQ428
        have N431 := Fr.app N426 N428q
        obtain ⟨cq433, kq433, q433a, q433b, q433c⟩ := isOf hZ e432 f416
        obtain ⟨_, _, ⟨T433, L433, k433, n433⟩, -, X433, ⟨Lc433, hQ433, l433, y433, z433⟩, st433⟩ := X428.virtualBack hx (y := (⟨"archetest/util/StateSet", "contains", "(I)Z"⟩ : MethodName)) (z := (⟨"archetest/util/StateSet", "contains", "(I)Z"⟩ : MethodName)) hown (mvT hZ (hw _ (List.mem_of_getElem? (i := 33) rfl))) (mvT hZ (hw _ (List.mem_of_getElem? (i := 34) rfl))) (notFace_of_selects (args := #[]) (mvT hZ (hw _ (List.mem_of_getElem? (i := 36) rfl)))) (mvT hZ (hw _ (List.mem_of_getElem? (i := 36) rfl))) (mvT hZ (hw _ (List.mem_of_getElem? (i := 35) rfl))) (by decide) (backOf (W := 0) (own_rm6 l Z av hw [] b234 v228 (bb244) (kb246) ((((v224 + (64 : Int32)) - (1 : Int32)) / (64 : Int32))) ((fun _ => (0 : Int64))) T413.heap n0 z423 f418 f424 ((own_side434 p0 p3 v224 hv224 v228 hv228 hq248)) ((own_side435 p0 v224 hv224 hq248))) hZ (hw _ (List.mem_of_getElem? (i := 37) rfl)) (hw _ (List.mem_of_getElem? (i := 3) rfl)) (by decide) (by decide)) q433a q433c (g := (mkF m 134 #[.val (.int p0), .val (.int p1), .val (.int p2), .val (.int p3), .val (.int p4), .val (.int p5), .val (.int v224), .val (.int v226), .val (.int v228), .val (.int v230), .val (.int v232), .val (.int v233), .val (.ref b234)] [(.int v228), (.ref b234)])) rfl (by rw [hml]; rfl) (Steps.refl _) (argsL := [(.int v228)]) (rest := []) (lenOf own_pd3 rfl) rfl (by show 2 * 0 + _ ≤ _; exact Nat.le_of_eq rfl) (hb hby at_134) (fun _ _ => ⟨rfl, e432, (by decide : 3 + 0 ≤ _), (by decide : 15 + 0 ≤ _)⟩)
        dsimp only [Pt.U, Pt.locs, Pt.cells, Pt.slots] at X433 l433 y433 z433 st433 hQ433
        subst l433 y433 z433
        obtain ⟨rfl, N433q, e437⟩ := hQ433
        have N436 := Fr.app N431 N433q
        obtain ⟨cq438, kq438, q438a, q438b, q438c⟩ := isOf hZ e437 f416
        obtain ⟨_, _, ⟨T438, L438, k438, n438⟩, -, X438, ⟨Lc438, hQ438, l438, y438, z438⟩, st438⟩ := X433.virtualBack hx (y := (⟨"archetest/util/StateSet", "contains", "(I)Z"⟩ : MethodName)) (z := (⟨"archetest/util/StateSet", "contains", "(I)Z"⟩ : MethodName)) hown (mvT hZ (hw _ (List.mem_of_getElem? (i := 33) rfl))) (mvT hZ (hw _ (List.mem_of_getElem? (i := 34) rfl))) (notFace_of_selects (args := #[]) (mvT hZ (hw _ (List.mem_of_getElem? (i := 36) rfl)))) (mvT hZ (hw _ (List.mem_of_getElem? (i := 36) rfl))) (mvT hZ (hw _ (List.mem_of_getElem? (i := 35) rfl))) (by decide) (backOf (W := 0) (own_rm6 l Z av hw [] b234 v230 (bb244) (kb246) ((((v224 + (64 : Int32)) - (1 : Int32)) / (64 : Int32))) ((fun _ => (0 : Int64))) T413.heap n0 z423 f418 f424 ((own_side439 p0 p4 v224 hv224 v230 hv230 hq248)) ((own_side440 p0 v224 hv224 hq248))) hZ (hw _ (List.mem_of_getElem? (i := 37) rfl)) (hw _ (List.mem_of_getElem? (i := 3) rfl)) (by decide) (by decide)) q438a q438c (g := (mkF m 144 #[.val (.int p0), .val (.int p1), .val (.int p2), .val (.int p3), .val (.int p4), .val (.int p5), .val (.int v224), .val (.int v226), .val (.int v228), .val (.int v230), .val (.int v232), .val (.int v233), .val (.ref b234)] [(.int v230), (.ref b234)])) rfl (by rw [hml]; rfl) (Steps.refl _) (argsL := [(.int v230)]) (rest := []) (lenOf own_pd3 rfl) rfl (by show 2 * 0 + _ ≤ _; exact Nat.le_of_eq rfl) (hb hby at_144) (fun _ _ => ⟨rfl, e437, (by decide : 3 + 0 ≤ _), (by decide : 15 + 0 ≤ _)⟩)
        dsimp only [Pt.U, Pt.locs, Pt.cells, Pt.slots] at X438 l438 y438 z438 st438 hQ438
        subst l438 y438 z438
        obtain ⟨rfl, N438q, e442⟩ := hQ438
        have N441 := Fr.app N436 N438q
        obtain ⟨cq443, kq443, q443a, q443b, q443c⟩ := isOf hZ e442 f416
        obtain ⟨_, _, ⟨T443, L443, k443, n443⟩, -, X443, ⟨Lc443, hQ443, l443, y443, z443⟩, st443⟩ := X438.virtualBack hx (y := (⟨"archetest/util/StateSet", "add", "(I)Z"⟩ : MethodName)) (z := (⟨"archetest/util/StateSet", "add", "(I)Z"⟩ : MethodName)) hown (mvT hZ (hw _ (List.mem_of_getElem? (i := 16) rfl))) (mvT hZ (hw _ (List.mem_of_getElem? (i := 17) rfl))) (notFace_of_selects (args := #[]) (mvT hZ (hw _ (List.mem_of_getElem? (i := 19) rfl)))) (mvT hZ (hw _ (List.mem_of_getElem? (i := 19) rfl))) (mvT hZ (hw _ (List.mem_of_getElem? (i := 18) rfl))) (by decide) (backOf (W := 0) (own_rm3 l Z av hw [] b234 v232 (mm243) (bb244) (km245) (kb246) ((((v224 + (64 : Int32)) - (1 : Int32)) / (64 : Int32))) ((fun _ => (0 : Int64))) (ff396) ((0 : Int32)) (0) T413.heap n0 z423 f416 f417 f418 f419 f420 f424 g_b234 g_mm243 g_bb244 ne_b234_mm243 ne_b234_bb244 hq248 ((own_St0 (((v224 + (64 : Int32)) - (1 : Int32)) / (64 : Int32)) ff396)) ((by decide)) ((own_side444 p0 p5 v224 hv224 v232 hv232 hq248)) ((own_side445 p0 v224 hv224 hq248))) hZ (hw _ (List.mem_of_getElem? (i := 20) rfl)) (hw _ (List.mem_of_getElem? (i := 3) rfl)) (by decide) (by decide)) q443a q443c (g := (mkF m 156 #[.val (.int p0), .val (.int p1), .val (.int p2), .val (.int p3), .val (.int p4), .val (.int p5), .val (.int v224), .val (.int v226), .val (.int v228), .val (.int v230), .val (.int v232), .val (.int v233), .val (.ref b234)] [(.int v232), (.ref b234)])) rfl (by rw [hml]; rfl) (Steps.refl _) (argsL := [(.int v232)]) (rest := []) (lenOf own_pd3 rfl) rfl (by show 2 * 0 + _ ≤ _; exact Nat.le_of_eq rfl) (hb hby at_156) (fun _ _ => ⟨rfl, e442, (by decide : 3 + 0 ≤ _), (by decide : 15 + 0 ≤ _)⟩)
        dsimp only [Pt.U, Pt.locs, Pt.cells, Pt.slots] at X443 l443 y443 z443 st443 hQ443
        subst l443 y443 z443
        obtain ⟨gg446, ff447, ss448, r449, rfl, N443q, K443, f453, f454, f455, f456, f457, f458, hq451, hq452⟩ := hQ443
        have K459 : Keep h0 T443.heap [] := K422.trans K443 (allS (Or.inr sz_b234) (allS (Or.inr sz_mm243) (allS (Or.inr sz_bb244) all0)))
        have z460 : n0 ≤ T443.heap.size := Nat.le_trans z423 K443.1
        have N450 := Fr.app N441 N443q
        obtain ⟨cq461, kq461, q461a, q461b, q461c⟩ := isOf hZ rfl f453
        obtain ⟨_, _, ⟨T461, L461, k461, n461⟩, -, X461, ⟨Lc461, hQ461, l461, y461, z461⟩, st461⟩ := X443.virtualBack hx (y := (⟨"archetest/util/StateSet", "size", "()I"⟩ : MethodName)) (z := (⟨"archetest/util/StateSet", "size", "()I"⟩ : MethodName)) hown (mvT hZ (hw _ (List.mem_of_getElem? (i := 28) rfl))) (mvT hZ (hw _ (List.mem_of_getElem? (i := 29) rfl))) (notFace_of_selects (args := #[]) (mvT hZ (hw _ (List.mem_of_getElem? (i := 31) rfl)))) (mvT hZ (hw _ (List.mem_of_getElem? (i := 31) rfl))) (mvT hZ (hw _ (List.mem_of_getElem? (i := 30) rfl))) (by decide) (backOf (W := 0) (own_rm5 l Z av hw [] b234 (ss448) T443.heap n0 z460 f456) hZ (hw _ (List.mem_of_getElem? (i := 32) rfl)) (hw _ (List.mem_of_getElem? (i := 3) rfl)) (by decide) (by decide)) q461a q461c (g := (mkF m 166 #[.val (.int p0), .val (.int p1), .val (.int p2), .val (.int p3), .val (.int p4), .val (.int p5), .val (.int v224), .val (.int v226), .val (.int v228), .val (.int v230), .val (.int v232), .val (.int v233), .val (.ref b234)] [(.ref b234)])) rfl (by rw [hml]; rfl) (Steps.refl _) (argsL := []) (rest := []) (lenOf own_pd2 rfl) rfl (by show 2 * 0 + _ ≤ _; exact Nat.le_of_eq rfl) (hb hby at_166) (fun _ _ => ⟨rfl, rfl, (by decide : 3 + 0 ≤ _), (by decide : 15 + 0 ≤ _)⟩)
        dsimp only [Pt.U, Pt.locs, Pt.cells, Pt.slots] at X461 l461 y461 z461 st461 hQ461
        subst l461 y461 z461
        obtain ⟨rfl, N461q, e463⟩ := hQ461
        have N462 := Fr.app N450 N461q
        obtain ⟨cq464, kq464, q464a, q464b, q464c⟩ := isOf hZ e463 f453
        obtain ⟨_, _, ⟨T464, L464, k464, n464⟩, -, X464, ⟨Lc464, hQ464, l464, y464, z464⟩, st464⟩ := X461.virtualBack hx (y := (⟨"archetest/util/StateSet", "get", "(I)I"⟩ : MethodName)) (z := (⟨"archetest/util/StateSet", "get", "(I)I"⟩ : MethodName)) hown (mvT hZ (hw _ (List.mem_of_getElem? (i := 38) rfl))) (mvT hZ (hw _ (List.mem_of_getElem? (i := 39) rfl))) (notFace_of_selects (args := #[]) (mvT hZ (hw _ (List.mem_of_getElem? (i := 41) rfl)))) (mvT hZ (hw _ (List.mem_of_getElem? (i := 41) rfl))) (mvT hZ (hw _ (List.mem_of_getElem? (i := 40) rfl))) (by decide) (backOf (W := 0) (own_rm7 l Z av hw [] b234 (0 : Int32) (mm243) (km245) (ff447) T443.heap n0 z460 f454 f457 (rfl)) hZ (hw _ (List.mem_of_getElem? (i := 42) rfl)) (hw _ (List.mem_of_getElem? (i := 3) rfl)) (by decide) (by decide)) q464a q464c (g := (mkF m 176 #[.val (.int p0), .val (.int p1), .val (.int p2), .val (.int p3), .val (.int p4), .val (.int p5), .val (.int v224), .val (.int v226), .val (.int v228), .val (.int v230), .val (.int v232), .val (.int v233), .val (.ref b234)] [(.int (0 : Int32)), (.ref b234)])) rfl (by rw [hml]; rfl) (Steps.refl _) (argsL := [(.int (0 : Int32))]) (rest := []) (lenOf own_pd4 rfl) rfl (by show 2 * 0 + _ ≤ _; exact Nat.le_of_eq rfl) (hb hby at_176) (fun _ _ => ⟨rfl, e463, (by decide : 3 + 0 ≤ _), (by decide : 15 + 0 ≤ _)⟩)
        dsimp only [Pt.U, Pt.locs, Pt.cells, Pt.slots] at X464 l464 y464 z464 st464 hQ464
        subst l464 y464 z464
        obtain ⟨rfl, N464q, e466⟩ := hQ464
        have N465 := Fr.app N462 N464q
        obtain ⟨fs, hr, hrun, hended, hW, hsame⟩ := X464.leave (v := some (.int (1 : Int32))) (fun h => by rw [Bd.returns] at h; cases h)
        refine ⟨_, _, pre410 _ ?_, hrun, hended, _, _, rfl, ?_, ⟨_, rfl⟩, hW, hsame.mono (by decide) (by decide)⟩
        · show Steps p.tables e below (T392.setTop (mkF m 94 #[.val (.int p0), .val (.int p1), .val (.int p2), .val (.int p3), .val (.int p4), .val (.int p5), .val (.int v224), .val (.int v226), .val (.int v228), .val (.int v230), .val (.int v232), .val (.int v233), .val (.ref b234)] [(.int (3 : Int32)), (.int v233)])) _
          refine XS.icmpYes X392.here hx rfl (pc0 := 94) (pc' := 105) rfl (hb hby at_94) rfl (tlt hc411).1 (by decide) (by decide) ?_
          show Steps p.tables e below (T392.setTop (mkF m 105 #[.val (.int p0), .val (.int p1), .val (.int p2), .val (.int p3), .val (.int p4), .val (.int p5), .val (.int v224), .val (.int v226), .val (.int v228), .val (.int v230), .val (.int v232), .val (.int v233), .val (.ref b234)] [])) _
          refine XS.aload X392.here hx rfl (hb hby at_105) rfl rfl ?_
          show Steps p.tables e below (T392.setTop (mkF m 107 #[.val (.int p0), .val (.int p1), .val (.int p2), .val (.int p3), .val (.int p4), .val (.int p5), .val (.int v224), .val (.int v226), .val (.int v228), .val (.int v230), .val (.int v232), .val (.int v233), .val (.ref b234)] [(.ref b234)])) _
          refine st413.trans ?_
          show Steps p.tables e below (T413.setTop (mkF m 110 #[.val (.int p0), .val (.int p1), .val (.int p2), .val (.int p3), .val (.int p4), .val (.int p5), .val (.int v224), .val (.int v226), .val (.int v228), .val (.int v230), .val (.int v232), .val (.int v233), .val (.ref b234)] [])) _
          refine XS.aload X413.here hx rfl (hb hby at_110) rfl rfl ?_
          show Steps p.tables e below (T413.setTop (mkF m 112 #[.val (.int p0), .val (.int p1), .val (.int p2), .val (.int p3), .val (.int p4), .val (.int p5), .val (.int v224), .val (.int v226), .val (.int v228), .val (.int v230), .val (.int v232), .val (.int v233), .val (.ref b234)] [(.ref b234)])) _
          refine st425.trans ?_
          show Steps p.tables e below (T425.setTop (mkF m 115 #[.val (.int p0), .val (.int p1), .val (.int p2), .val (.int p3), .val (.int p4), .val (.int p5), .val (.int v224), .val (.int v226), .val (.int v228), .val (.int v230), .val (.int v232), .val (.int v233), .val (.ref b234)] [(.int (0 : Int32))])) _
          refine XS.ifYes X425.here hx rfl (pc0 := 115) (pc' := 120) rfl (hb hby at_115) rfl ((if0 _ _).trans (teq (by decide : (0 : Int32) = (0 : Int32))).1) (by decide) (by decide) ?_
          show Steps p.tables e below (T425.setTop (mkF m 120 #[.val (.int p0), .val (.int p1), .val (.int p2), .val (.int p3), .val (.int p4), .val (.int p5), .val (.int v224), .val (.int v226), .val (.int v228), .val (.int v230), .val (.int v232), .val (.int v233), .val (.ref b234)] [])) _
          refine XS.aload X425.here hx rfl (hb hby at_120) rfl rfl ?_
          show Steps p.tables e below (T425.setTop (mkF m 122 #[.val (.int p0), .val (.int p1), .val (.int p2), .val (.int p3), .val (.int p4), .val (.int p5), .val (.int v224), .val (.int v226), .val (.int v228), .val (.int v230), .val (.int v232), .val (.int v233), .val (.ref b234)] [(.ref b234)])) _
          refine XS.iload X425.here hx rfl (hb hby at_122) rfl ?_
          show Steps p.tables e below (T425.setTop (mkF m 124 #[.val (.int p0), .val (.int p1), .val (.int p2), .val (.int p3), .val (.int p4), .val (.int p5), .val (.int v224), .val (.int v226), .val (.int v228), .val (.int v230), .val (.int v232), .val (.int v233), .val (.ref b234)] [(.int v226), (.ref b234)])) _
          refine st428.trans ?_
          show Steps p.tables e below (T428.setTop (mkF m 127 #[.val (.int p0), .val (.int p1), .val (.int p2), .val (.int p3), .val (.int p4), .val (.int p5), .val (.int v224), .val (.int v226), .val (.int v228), .val (.int v230), .val (.int v232), .val (.int v233), .val (.ref b234)] [(.int (own_ct (fun _ => (0 : Int64)) v226))])) _
          refine XS.ifNo X428.here hx rfl (hb hby at_127) rfl ((if0 _ _).trans (teq (own_ct0 _ : (own_ct (fun _ => (0 : Int64)) v226) = (0 : Int32))).2) ?_
          show Steps p.tables e below (T428.setTop (mkF m 130 #[.val (.int p0), .val (.int p1), .val (.int p2), .val (.int p3), .val (.int p4), .val (.int p5), .val (.int v224), .val (.int v226), .val (.int v228), .val (.int v230), .val (.int v232), .val (.int v233), .val (.ref b234)] [])) _
          refine XS.aload X428.here hx rfl (hb hby at_130) rfl rfl ?_
          show Steps p.tables e below (T428.setTop (mkF m 132 #[.val (.int p0), .val (.int p1), .val (.int p2), .val (.int p3), .val (.int p4), .val (.int p5), .val (.int v224), .val (.int v226), .val (.int v228), .val (.int v230), .val (.int v232), .val (.int v233), .val (.ref b234)] [(.ref b234)])) _
          refine XS.iload X428.here hx rfl (hb hby at_132) rfl ?_
          show Steps p.tables e below (T428.setTop (mkF m 134 #[.val (.int p0), .val (.int p1), .val (.int p2), .val (.int p3), .val (.int p4), .val (.int p5), .val (.int v224), .val (.int v226), .val (.int v228), .val (.int v230), .val (.int v232), .val (.int v233), .val (.ref b234)] [(.int v228), (.ref b234)])) _
          refine st433.trans ?_
          show Steps p.tables e below (T433.setTop (mkF m 137 #[.val (.int p0), .val (.int p1), .val (.int p2), .val (.int p3), .val (.int p4), .val (.int p5), .val (.int v224), .val (.int v226), .val (.int v228), .val (.int v230), .val (.int v232), .val (.int v233), .val (.ref b234)] [(.int (own_ct (fun _ => (0 : Int64)) v228))])) _
          refine XS.ifNo X433.here hx rfl (hb hby at_137) rfl ((if0 _ _).trans (teq (own_ct0 _ : (own_ct (fun _ => (0 : Int64)) v228) = (0 : Int32))).2) ?_
          show Steps p.tables e below (T433.setTop (mkF m 140 #[.val (.int p0), .val (.int p1), .val (.int p2), .val (.int p3), .val (.int p4), .val (.int p5), .val (.int v224), .val (.int v226), .val (.int v228), .val (.int v230), .val (.int v232), .val (.int v233), .val (.ref b234)] [])) _
          refine XS.aload X433.here hx rfl (hb hby at_140) rfl rfl ?_
          show Steps p.tables e below (T433.setTop (mkF m 142 #[.val (.int p0), .val (.int p1), .val (.int p2), .val (.int p3), .val (.int p4), .val (.int p5), .val (.int v224), .val (.int v226), .val (.int v228), .val (.int v230), .val (.int v232), .val (.int v233), .val (.ref b234)] [(.ref b234)])) _
          refine XS.iload X433.here hx rfl (hb hby at_142) rfl ?_
          show Steps p.tables e below (T433.setTop (mkF m 144 #[.val (.int p0), .val (.int p1), .val (.int p2), .val (.int p3), .val (.int p4), .val (.int p5), .val (.int v224), .val (.int v226), .val (.int v228), .val (.int v230), .val (.int v232), .val (.int v233), .val (.ref b234)] [(.int v230), (.ref b234)])) _
          refine st438.trans ?_
          show Steps p.tables e below (T438.setTop (mkF m 147 #[.val (.int p0), .val (.int p1), .val (.int p2), .val (.int p3), .val (.int p4), .val (.int p5), .val (.int v224), .val (.int v226), .val (.int v228), .val (.int v230), .val (.int v232), .val (.int v233), .val (.ref b234)] [(.int (own_ct (fun _ => (0 : Int64)) v230))])) _
          refine XS.ifYes X438.here hx rfl (pc0 := 147) (pc' := 152) rfl (hb hby at_147) rfl ((if0 _ _).trans (teq (own_ct0 _ : (own_ct (fun _ => (0 : Int64)) v230) = (0 : Int32))).1) (by decide) (by decide) ?_
          show Steps p.tables e below (T438.setTop (mkF m 152 #[.val (.int p0), .val (.int p1), .val (.int p2), .val (.int p3), .val (.int p4), .val (.int p5), .val (.int v224), .val (.int v226), .val (.int v228), .val (.int v230), .val (.int v232), .val (.int v233), .val (.ref b234)] [])) _
          refine XS.aload X438.here hx rfl (hb hby at_152) rfl rfl ?_
          show Steps p.tables e below (T438.setTop (mkF m 154 #[.val (.int p0), .val (.int p1), .val (.int p2), .val (.int p3), .val (.int p4), .val (.int p5), .val (.int v224), .val (.int v226), .val (.int v228), .val (.int v230), .val (.int v232), .val (.int v233), .val (.ref b234)] [(.ref b234)])) _
          refine XS.iload X438.here hx rfl (hb hby at_154) rfl ?_
          show Steps p.tables e below (T438.setTop (mkF m 156 #[.val (.int p0), .val (.int p1), .val (.int p2), .val (.int p3), .val (.int p4), .val (.int p5), .val (.int v224), .val (.int v226), .val (.int v228), .val (.int v230), .val (.int v232), .val (.int v233), .val (.ref b234)] [(.int v232), (.ref b234)])) _
          refine st443.trans ?_
          show Steps p.tables e below (T443.setTop (mkF m 159 #[.val (.int p0), .val (.int p1), .val (.int p2), .val (.int p3), .val (.int p4), .val (.int p5), .val (.int v224), .val (.int v226), .val (.int v228), .val (.int v230), .val (.int v232), .val (.int v233), .val (.ref b234)] [(.int r449)])) _
          refine XS.ifYes X443.here hx rfl (pc0 := 159) (pc' := 164) rfl (hb hby at_159) rfl ((if0 _ _).trans (feq ((by rw [(own_fresh hq451).1]; decide) : ¬ (r449 = (0 : Int32)))).2) (by decide) (by decide) ?_
          show Steps p.tables e below (T443.setTop (mkF m 164 #[.val (.int p0), .val (.int p1), .val (.int p2), .val (.int p3), .val (.int p4), .val (.int p5), .val (.int v224), .val (.int v226), .val (.int v228), .val (.int v230), .val (.int v232), .val (.int v233), .val (.ref b234)] [])) _
          refine XS.aload X443.here hx rfl (hb hby at_164) rfl rfl ?_
          show Steps p.tables e below (T443.setTop (mkF m 166 #[.val (.int p0), .val (.int p1), .val (.int p2), .val (.int p3), .val (.int p4), .val (.int p5), .val (.int v224), .val (.int v226), .val (.int v228), .val (.int v230), .val (.int v232), .val (.int v233), .val (.ref b234)] [(.ref b234)])) _
          refine st461.trans ?_
          show Steps p.tables e below (T461.setTop (mkF m 169 #[.val (.int p0), .val (.int p1), .val (.int p2), .val (.int p3), .val (.int p4), .val (.int p5), .val (.int v224), .val (.int v226), .val (.int v228), .val (.int v230), .val (.int v232), .val (.int v233), .val (.ref b234)] [(.int ss448)])) _
          refine XS.iconst X461.here hx rfl (hb hby at_169) ?_
          show Steps p.tables e below (T461.setTop (mkF m 170 #[.val (.int p0), .val (.int p1), .val (.int p2), .val (.int p3), .val (.int p4), .val (.int p5), .val (.int v224), .val (.int v226), .val (.int v228), .val (.int v230), .val (.int v232), .val (.int v233), .val (.ref b234)] [(.int (1 : Int32)), (.int ss448)])) _
          refine XS.icmpNo X461.here hx rfl (hb hby at_170) rfl (teq ((own_fresh hq451).2.1 : ss448 = (1 : Int32))).2 ?_
          show Steps p.tables e below (T461.setTop (mkF m 173 #[.val (.int p0), .val (.int p1), .val (.int p2), .val (.int p3), .val (.int p4), .val (.int p5), .val (.int v224), .val (.int v226), .val (.int v228), .val (.int v230), .val (.int v232), .val (.int v233), .val (.ref b234)] [])) _
          refine XS.aload X461.here hx rfl (hb hby at_173) rfl rfl ?_
          show Steps p.tables e below (T461.setTop (mkF m 175 #[.val (.int p0), .val (.int p1), .val (.int p2), .val (.int p3), .val (.int p4), .val (.int p5), .val (.int v224), .val (.int v226), .val (.int v228), .val (.int v230), .val (.int v232), .val (.int v233), .val (.ref b234)] [(.ref b234)])) _
          refine XS.iconst X461.here hx rfl (hb hby at_175) ?_
          show Steps p.tables e below (T461.setTop (mkF m 176 #[.val (.int p0), .val (.int p1), .val (.int p2), .val (.int p3), .val (.int p4), .val (.int p5), .val (.int v224), .val (.int v226), .val (.int v228), .val (.int v230), .val (.int v232), .val (.int v233), .val (.ref b234)] [(.int (0 : Int32)), (.ref b234)])) _
          refine st464.trans ?_
          show Steps p.tables e below (T464.setTop (mkF m 179 #[.val (.int p0), .val (.int p1), .val (.int p2), .val (.int p3), .val (.int p4), .val (.int p5), .val (.int v224), .val (.int v226), .val (.int v228), .val (.int v230), .val (.int v232), .val (.int v233), .val (.ref b234)] [(.int (ff447 0))])) _
          refine XS.iload X464.here hx rfl (hb hby at_179) rfl ?_
          show Steps p.tables e below (T464.setTop (mkF m 181 #[.val (.int p0), .val (.int p1), .val (.int p2), .val (.int p3), .val (.int p4), .val (.int p5), .val (.int v224), .val (.int v226), .val (.int v228), .val (.int v230), .val (.int v232), .val (.int v233), .val (.ref b234)] [(.int v232), (.int (ff447 0))])) _
          refine XS.icmpNo X464.here hx rfl (hb hby at_181) rfl (teq ((own_fresh hq451).2.2 : (ff447 0) = v232)).2 ?_
          show Steps p.tables e below (T464.setTop (mkF m 184 #[.val (.int p0), .val (.int p1), .val (.int p2), .val (.int p3), .val (.int p4), .val (.int p5), .val (.int v224), .val (.int v226), .val (.int v228), .val (.int v230), .val (.int v232), .val (.int v233), .val (.ref b234)] [])) _
          refine XS.iconst X464.here hx rfl (hb hby at_184) ?_
          show Steps p.tables e below (T464.setTop (mkF m 185 #[.val (.int p0), .val (.int p1), .val (.int p2), .val (.int p3), .val (.int p4), .val (.int p5), .val (.int v224), .val (.int v226), .val (.int v228), .val (.int v230), .val (.int v232), .val (.int v233), .val (.ref b234)] [(.int (1 : Int32))])) _
          refine XS.goto X464.here hx rfl (pc0 := 185) (pc' := 189) rfl (hb hby at_185) (by decide) (by decide) ?_
          show Steps p.tables e below (T464.setTop (mkF m 189 #[.val (.int p0), .val (.int p1), .val (.int p2), .val (.int p3), .val (.int p4), .val (.int p5), .val (.int v224), .val (.int v226), .val (.int v228), .val (.int v230), .val (.int v232), .val (.int v233), .val (.ref b234)] [(.int (1 : Int32))])) _
          exact retN X464 hx (t := .boolean) Bd.returns (by simp) (hb hby at_189) hr
        · show own_Q0 Z p0 p1 p2 p3 p4 p5 h0 n0 _ T464.heap _
          rw [e466]
          exact ⟨rfl, N465⟩
      · obtain ⟨cq467, kq467, q467a, q467b, q467c⟩ := isOf hZ rfl f402
        obtain ⟨_, _, ⟨T467, L467, k467, n467⟩, -, X467, ⟨Lc467, hQ467, l467, y467, z467⟩, st467⟩ := X392.virtualBack hx (y := (⟨"archetest/util/StateSet", "add", "(I)Z"⟩ : MethodName)) (z := (⟨"archetest/util/StateSet", "add", "(I)Z"⟩ : MethodName)) hown (mvT hZ (hw _ (List.mem_of_getElem? (i := 16) rfl))) (mvT hZ (hw _ (List.mem_of_getElem? (i := 17) rfl))) (notFace_of_selects (args := #[]) (mvT hZ (hw _ (List.mem_of_getElem? (i := 19) rfl)))) (mvT hZ (hw _ (List.mem_of_getElem? (i := 19) rfl))) (mvT hZ (hw _ (List.mem_of_getElem? (i := 18) rfl))) (by decide) (backOf (W := 0) (own_rm3 l Z av hw [] b234 v230 (mm243) (bb244) (km245) (kb246) ((((v224 + (64 : Int32)) - (1 : Int32)) / (64 : Int32))) (gg395) (ff396) (ss397) (((0 + 1) + 1)) T392.heap n0 z409 f402 f403 f404 f405 f406 f407 g_b234 g_mm243 g_bb244 ne_b234_mm243 ne_b234_bb244 hq248 (hq401) ((by decide)) ((own_side468 p0 p4 v224 hv224 v230 hv230 hq248)) ((own_side469 p0 v224 hv224 hq248))) hZ (hw _ (List.mem_of_getElem? (i := 20) rfl)) (hw _ (List.mem_of_getElem? (i := 3) rfl)) (by decide) (by decide)) q467a q467c (g := (mkF m 101 #[.val (.int p0), .val (.int p1), .val (.int p2), .val (.int p3), .val (.int p4), .val (.int p5), .val (.int v224), .val (.int v226), .val (.int v228), .val (.int v230), .val (.int v232), .val (.int v233), .val (.ref b234)] [(.int v230), (.ref b234)])) rfl (by rw [hml]; rfl) (Steps.refl _) (argsL := [(.int v230)]) (rest := []) (lenOf own_pd3 rfl) rfl (by show 2 * 0 + _ ≤ _; exact Nat.le_of_eq rfl) (hb hby at_101) (fun _ _ => ⟨rfl, rfl, (by decide : 3 + 0 ≤ _), (by decide : 15 + 0 ≤ _)⟩)
        dsimp only [Pt.U, Pt.locs, Pt.cells, Pt.slots] at X467 l467 y467 z467 st467 hQ467
        subst l467 y467 z467
        obtain ⟨gg470, ff471, ss472, r473, rfl, N467q, K467, f477, f478, f479, f480, f481, f482, hq475, hq476⟩ := hQ467
        have K483 : Keep h0 T467.heap [] := K408.trans K467 (allS (Or.inr sz_b234) (allS (Or.inr sz_mm243) (allS (Or.inr sz_bb244) all0)))
        have z484 : n0 ≤ T467.heap.size := Nat.le_trans z409 K467.1
        have N474 := Fr.app N399 N467q
        obtain ⟨k485, hk485, hin485, hz485⟩ := own_clr0 hq476
        obtain ⟨cq486, kq486, q486a, q486b, q486c⟩ := isOf hZ rfl f477
        obtain ⟨_, _, ⟨T486, L486, k486, n486⟩, -, X486, ⟨Lc486, hQ486, l486, y486, z486⟩, st486⟩ := X467.virtualBack hx (y := (⟨"archetest/util/StateSet", "clear", "()V"⟩ : MethodName)) (z := (⟨"archetest/util/StateSet", "clear", "()V"⟩ : MethodName)) hown (mvT hZ (hw _ (List.mem_of_getElem? (i := 23) rfl))) (mvT hZ (hw _ (List.mem_of_getElem? (i := 24) rfl))) (notFace_of_selects (args := #[]) (mvT hZ (hw _ (List.mem_of_getElem? (i := 26) rfl)))) (mvT hZ (hw _ (List.mem_of_getElem? (i := 26) rfl))) (mvT hZ (hw _ (List.mem_of_getElem? (i := 25) rfl))) (by decide) (backOf (W := 0) (own_rm4 l Z av hw [] b234 (mm243) (bb244) (km245) (kb246) ((((v224 + (64 : Int32)) - (1 : Int32)) / (64 : Int32))) (gg470) (ff471) (ss472) (k485) T467.heap n0 z484 f477 f478 f479 f480 f481 f482 g_b234 g_bb244 ne_b234_mm243 ne_b234_bb244 hq248 (hk485) (hin485) ((own_side487 p0 v224 hv224 hq248))) hZ (hw _ (List.mem_of_getElem? (i := 27) rfl)) (hw _ (List.mem_of_getElem? (i := 3) rfl)) (by decide) (by decide)) q486a q486c (g := (mkF m 107 #[.val (.int p0), .val (.int p1), .val (.int p2), .val (.int p3), .val (.int p4), .val (.int p5), .val (.int v224), .val (.int v226), .val (.int v228), .val (.int v230), .val (.int v232), .val (.int v233), .val (.ref b234)] [(.ref b234)])) rfl (by rw [hml]; rfl) (Steps.refl _) (argsL := []) (rest := []) (lenOf own_pd1 rfl) rfl (by show 2 * 0 + _ ≤ _; exact Nat.le_of_eq rfl) (hb hby at_107) (fun _ _ => ⟨rfl, rfl, (by decide : 3 + 0 ≤ _), (by decide : 15 + 0 ≤ _)⟩)
        dsimp only [Pt.U, Pt.locs, Pt.cells, Pt.slots] at X486 l486 y486 z486 st486 hQ486
        subst l486 y486 z486
        obtain ⟨rfl, N486q, K486, f489, f490, f491, f492, f493, f494⟩ := hQ486
        have K495 : Keep h0 T486.heap [] := K483.trans K486 (allS (Or.inr sz_b234) (allS (Or.inr sz_bb244) all0))
        have z496 : n0 ≤ T486.heap.size := Nat.le_trans z484 K486.1
        have N488 := Fr.app N474 N486q
        have f497 : Arv Z T486.heap bb244 kb246 .long (((v224 + (64 : Int32)) - (1 : Int32)) / (64 : Int32)) (own_L (fun _ => (0 : Int64))) (.long (0 : Int64)) := by have q := f494; rw [hz485] at q; exact q
        obtain ⟨cq498, kq498, q498a, q498b, q498c⟩ := isOf hZ rfl f489
        obtain ⟨_, _, ⟨T498, L498, k498, n498⟩, -, X498, ⟨Lc498, hQ498, l498, y498, z498⟩, st498⟩ := X486.virtualBack hx (y := (⟨"archetest/util/StateSet", "size", "()I"⟩ : MethodName)) (z := (⟨"archetest/util/StateSet", "size", "()I"⟩ : MethodName)) hown (mvT hZ (hw _ (List.mem_of_getElem? (i := 28) rfl))) (mvT hZ (hw _ (List.mem_of_getElem? (i := 29) rfl))) (notFace_of_selects (args := #[]) (mvT hZ (hw _ (List.mem_of_getElem? (i := 31) rfl)))) (mvT hZ (hw _ (List.mem_of_getElem? (i := 31) rfl))) (mvT hZ (hw _ (List.mem_of_getElem? (i := 30) rfl))) (by decide) (backOf (W := 0) (own_rm5 l Z av hw [] b234 ((0 : Int32)) T486.heap n0 z496 f492) hZ (hw _ (List.mem_of_getElem? (i := 32) rfl)) (hw _ (List.mem_of_getElem? (i := 3) rfl)) (by decide) (by decide)) q498a q498c (g := (mkF m 112 #[.val (.int p0), .val (.int p1), .val (.int p2), .val (.int p3), .val (.int p4), .val (.int p5), .val (.int v224), .val (.int v226), .val (.int v228), .val (.int v230), .val (.int v232), .val (.int v233), .val (.ref b234)] [(.ref b234)])) rfl (by rw [hml]; rfl) (Steps.refl _) (argsL := []) (rest := []) (lenOf own_pd2 rfl) rfl (by show 2 * 0 + _ ≤ _; exact Nat.le_of_eq rfl) (hb hby at_112) (fun _ _ => ⟨rfl, rfl, (by decide : 3 + 0 ≤ _), (by decide : 15 + 0 ≤ _)⟩)
        dsimp only [Pt.U, Pt.locs, Pt.cells, Pt.slots] at X498 l498 y498 z498 st498 hQ498
        subst l498 y498 z498
        obtain ⟨rfl, N498q, e500⟩ := hQ498
        have N499 := Fr.app N488 N498q
        obtain ⟨cq501, kq501, q501a, q501b, q501c⟩ := isOf hZ e500 f489
        obtain ⟨_, _, ⟨T501, L501, k501, n501⟩, -, X501, ⟨Lc501, hQ501, l501, y501, z501⟩, st501⟩ := X498.virtualBack hx (y := (⟨"archetest/util/StateSet", "contains", "(I)Z"⟩ : MethodName)) (z := (⟨"archetest/util/StateSet", "contains", "(I)Z"⟩ : MethodName)) hown (mvT hZ (hw _ (List.mem_of_getElem? (i := 33) rfl))) (mvT hZ (hw _ (List.mem_of_getElem? (i := 34) rfl))) (notFace_of_selects (args := #[]) (mvT hZ (hw _ (List.mem_of_getElem? (i := 36) rfl)))) (mvT hZ (hw _ (List.mem_of_getElem? (i := 36) rfl))) (mvT hZ (hw _ (List.mem_of_getElem? (i := 35) rfl))) (by decide) (backOf (W := 0) (own_rm6 l Z av hw [] b234 v226 (bb244) (kb246) ((((v224 + (64 : Int32)) - (1 : Int32)) / (64 : Int32))) ((fun _ => (0 : Int64))) T486.heap n0 z496 f491 f497 ((own_side502 p0 p2 v224 hv224 v226 hv226 hq248)) ((own_side503 p0 v224 hv224 hq248))) hZ (hw _ (List.mem_of_getElem? (i := 37) rfl)) (hw _ (List.mem_of_getElem? (i := 3) rfl)) (by decide) (by decide)) q501a q501c (g := (mkF m 124 #[.val (.int p0), .val (.int p1), .val (.int p2), .val (.int p3), .val (.int p4), .val (.int p5), .val (.int v224), .val (.int v226), .val (.int v228), .val (.int v230), .val (.int v232), .val (.int v233), .val (.ref b234)] [(.int v226), (.ref b234)])) rfl (by rw [hml]; rfl) (Steps.refl _) (argsL := [(.int v226)]) (rest := []) (lenOf own_pd3 rfl) rfl (by show 2 * 0 + _ ≤ _; exact Nat.le_of_eq rfl) (hb hby at_124) (fun _ _ => ⟨rfl, e500, (by decide : 3 + 0 ≤ _), (by decide : 15 + 0 ≤ _)⟩)
        dsimp only [Pt.U, Pt.locs, Pt.cells, Pt.slots] at X501 l501 y501 z501 st501 hQ501
        subst l501 y501 z501
        obtain ⟨rfl, N501q, e505⟩ := hQ501
        have N504 := Fr.app N499 N501q
        obtain ⟨cq506, kq506, q506a, q506b, q506c⟩ := isOf hZ e505 f489
        obtain ⟨_, _, ⟨T506, L506, k506, n506⟩, -, X506, ⟨Lc506, hQ506, l506, y506, z506⟩, st506⟩ := X501.virtualBack hx (y := (⟨"archetest/util/StateSet", "contains", "(I)Z"⟩ : MethodName)) (z := (⟨"archetest/util/StateSet", "contains", "(I)Z"⟩ : MethodName)) hown (mvT hZ (hw _ (List.mem_of_getElem? (i := 33) rfl))) (mvT hZ (hw _ (List.mem_of_getElem? (i := 34) rfl))) (notFace_of_selects (args := #[]) (mvT hZ (hw _ (List.mem_of_getElem? (i := 36) rfl)))) (mvT hZ (hw _ (List.mem_of_getElem? (i := 36) rfl))) (mvT hZ (hw _ (List.mem_of_getElem? (i := 35) rfl))) (by decide) (backOf (W := 0) (own_rm6 l Z av hw [] b234 v228 (bb244) (kb246) ((((v224 + (64 : Int32)) - (1 : Int32)) / (64 : Int32))) ((fun _ => (0 : Int64))) T486.heap n0 z496 f491 f497 ((own_side507 p0 p3 v224 hv224 v228 hv228 hq248)) ((own_side508 p0 v224 hv224 hq248))) hZ (hw _ (List.mem_of_getElem? (i := 37) rfl)) (hw _ (List.mem_of_getElem? (i := 3) rfl)) (by decide) (by decide)) q506a q506c (g := (mkF m 134 #[.val (.int p0), .val (.int p1), .val (.int p2), .val (.int p3), .val (.int p4), .val (.int p5), .val (.int v224), .val (.int v226), .val (.int v228), .val (.int v230), .val (.int v232), .val (.int v233), .val (.ref b234)] [(.int v228), (.ref b234)])) rfl (by rw [hml]; rfl) (Steps.refl _) (argsL := [(.int v228)]) (rest := []) (lenOf own_pd3 rfl) rfl (by show 2 * 0 + _ ≤ _; exact Nat.le_of_eq rfl) (hb hby at_134) (fun _ _ => ⟨rfl, e505, (by decide : 3 + 0 ≤ _), (by decide : 15 + 0 ≤ _)⟩)
        dsimp only [Pt.U, Pt.locs, Pt.cells, Pt.slots] at X506 l506 y506 z506 st506 hQ506
        subst l506 y506 z506
        obtain ⟨rfl, N506q, e510⟩ := hQ506
        have N509 := Fr.app N504 N506q
        obtain ⟨cq511, kq511, q511a, q511b, q511c⟩ := isOf hZ e510 f489
        obtain ⟨_, _, ⟨T511, L511, k511, n511⟩, -, X511, ⟨Lc511, hQ511, l511, y511, z511⟩, st511⟩ := X506.virtualBack hx (y := (⟨"archetest/util/StateSet", "contains", "(I)Z"⟩ : MethodName)) (z := (⟨"archetest/util/StateSet", "contains", "(I)Z"⟩ : MethodName)) hown (mvT hZ (hw _ (List.mem_of_getElem? (i := 33) rfl))) (mvT hZ (hw _ (List.mem_of_getElem? (i := 34) rfl))) (notFace_of_selects (args := #[]) (mvT hZ (hw _ (List.mem_of_getElem? (i := 36) rfl)))) (mvT hZ (hw _ (List.mem_of_getElem? (i := 36) rfl))) (mvT hZ (hw _ (List.mem_of_getElem? (i := 35) rfl))) (by decide) (backOf (W := 0) (own_rm6 l Z av hw [] b234 v230 (bb244) (kb246) ((((v224 + (64 : Int32)) - (1 : Int32)) / (64 : Int32))) ((fun _ => (0 : Int64))) T486.heap n0 z496 f491 f497 ((own_side512 p0 p4 v224 hv224 v230 hv230 hq248)) ((own_side513 p0 v224 hv224 hq248))) hZ (hw _ (List.mem_of_getElem? (i := 37) rfl)) (hw _ (List.mem_of_getElem? (i := 3) rfl)) (by decide) (by decide)) q511a q511c (g := (mkF m 144 #[.val (.int p0), .val (.int p1), .val (.int p2), .val (.int p3), .val (.int p4), .val (.int p5), .val (.int v224), .val (.int v226), .val (.int v228), .val (.int v230), .val (.int v232), .val (.int v233), .val (.ref b234)] [(.int v230), (.ref b234)])) rfl (by rw [hml]; rfl) (Steps.refl _) (argsL := [(.int v230)]) (rest := []) (lenOf own_pd3 rfl) rfl (by show 2 * 0 + _ ≤ _; exact Nat.le_of_eq rfl) (hb hby at_144) (fun _ _ => ⟨rfl, e510, (by decide : 3 + 0 ≤ _), (by decide : 15 + 0 ≤ _)⟩)
        dsimp only [Pt.U, Pt.locs, Pt.cells, Pt.slots] at X511 l511 y511 z511 st511 hQ511
        subst l511 y511 z511
        obtain ⟨rfl, N511q, e515⟩ := hQ511
        have N514 := Fr.app N509 N511q
        obtain ⟨cq516, kq516, q516a, q516b, q516c⟩ := isOf hZ e515 f489
        obtain ⟨_, _, ⟨T516, L516, k516, n516⟩, -, X516, ⟨Lc516, hQ516, l516, y516, z516⟩, st516⟩ := X511.virtualBack hx (y := (⟨"archetest/util/StateSet", "add", "(I)Z"⟩ : MethodName)) (z := (⟨"archetest/util/StateSet", "add", "(I)Z"⟩ : MethodName)) hown (mvT hZ (hw _ (List.mem_of_getElem? (i := 16) rfl))) (mvT hZ (hw _ (List.mem_of_getElem? (i := 17) rfl))) (notFace_of_selects (args := #[]) (mvT hZ (hw _ (List.mem_of_getElem? (i := 19) rfl)))) (mvT hZ (hw _ (List.mem_of_getElem? (i := 19) rfl))) (mvT hZ (hw _ (List.mem_of_getElem? (i := 18) rfl))) (by decide) (backOf (W := 0) (own_rm3 l Z av hw [] b234 v232 (mm243) (bb244) (km245) (kb246) ((((v224 + (64 : Int32)) - (1 : Int32)) / (64 : Int32))) ((fun _ => (0 : Int64))) (ff471) ((0 : Int32)) (0) T486.heap n0 z496 f489 f490 f491 f492 f493 f497 g_b234 g_mm243 g_bb244 ne_b234_mm243 ne_b234_bb244 hq248 ((own_St0 (((v224 + (64 : Int32)) - (1 : Int32)) / (64 : Int32)) ff471)) ((by decide)) ((own_side517 p0 p5 v224 hv224 v232 hv232 hq248)) ((own_side518 p0 v224 hv224 hq248))) hZ (hw _ (List.mem_of_getElem? (i := 20) rfl)) (hw _ (List.mem_of_getElem? (i := 3) rfl)) (by decide) (by decide)) q516a q516c (g := (mkF m 156 #[.val (.int p0), .val (.int p1), .val (.int p2), .val (.int p3), .val (.int p4), .val (.int p5), .val (.int v224), .val (.int v226), .val (.int v228), .val (.int v230), .val (.int v232), .val (.int v233), .val (.ref b234)] [(.int v232), (.ref b234)])) rfl (by rw [hml]; rfl) (Steps.refl _) (argsL := [(.int v232)]) (rest := []) (lenOf own_pd3 rfl) rfl (by show 2 * 0 + _ ≤ _; exact Nat.le_of_eq rfl) (hb hby at_156) (fun _ _ => ⟨rfl, e515, (by decide : 3 + 0 ≤ _), (by decide : 15 + 0 ≤ _)⟩)
        dsimp only [Pt.U, Pt.locs, Pt.cells, Pt.slots] at X516 l516 y516 z516 st516 hQ516
        subst l516 y516 z516
        obtain ⟨gg519, ff520, ss521, r522, rfl, N516q, K516, f526, f527, f528, f529, f530, f531, hq524, hq525⟩ := hQ516
        have K532 : Keep h0 T516.heap [] := K495.trans K516 (allS (Or.inr sz_b234) (allS (Or.inr sz_mm243) (allS (Or.inr sz_bb244) all0)))
        have z533 : n0 ≤ T516.heap.size := Nat.le_trans z496 K516.1
        have N523 := Fr.app N514 N516q
        obtain ⟨cq534, kq534, q534a, q534b, q534c⟩ := isOf hZ rfl f526
        obtain ⟨_, _, ⟨T534, L534, k534, n534⟩, -, X534, ⟨Lc534, hQ534, l534, y534, z534⟩, st534⟩ := X516.virtualBack hx (y := (⟨"archetest/util/StateSet", "size", "()I"⟩ : MethodName)) (z := (⟨"archetest/util/StateSet", "size", "()I"⟩ : MethodName)) hown (mvT hZ (hw _ (List.mem_of_getElem? (i := 28) rfl))) (mvT hZ (hw _ (List.mem_of_getElem? (i := 29) rfl))) (notFace_of_selects (args := #[]) (mvT hZ (hw _ (List.mem_of_getElem? (i := 31) rfl)))) (mvT hZ (hw _ (List.mem_of_getElem? (i := 31) rfl))) (mvT hZ (hw _ (List.mem_of_getElem? (i := 30) rfl))) (by decide) (backOf (W := 0) (own_rm5 l Z av hw [] b234 (ss521) T516.heap n0 z533 f529) hZ (hw _ (List.mem_of_getElem? (i := 32) rfl)) (hw _ (List.mem_of_getElem? (i := 3) rfl)) (by decide) (by decide)) q534a q534c (g := (mkF m 166 #[.val (.int p0), .val (.int p1), .val (.int p2), .val (.int p3), .val (.int p4), .val (.int p5), .val (.int v224), .val (.int v226), .val (.int v228), .val (.int v230), .val (.int v232), .val (.int v233), .val (.ref b234)] [(.ref b234)])) rfl (by rw [hml]; rfl) (Steps.refl _) (argsL := []) (rest := []) (lenOf own_pd2 rfl) rfl (by show 2 * 0 + _ ≤ _; exact Nat.le_of_eq rfl) (hb hby at_166) (fun _ _ => ⟨rfl, rfl, (by decide : 3 + 0 ≤ _), (by decide : 15 + 0 ≤ _)⟩)
        dsimp only [Pt.U, Pt.locs, Pt.cells, Pt.slots] at X534 l534 y534 z534 st534 hQ534
        subst l534 y534 z534
        obtain ⟨rfl, N534q, e536⟩ := hQ534
        have N535 := Fr.app N523 N534q
        obtain ⟨cq537, kq537, q537a, q537b, q537c⟩ := isOf hZ e536 f526
        obtain ⟨_, _, ⟨T537, L537, k537, n537⟩, -, X537, ⟨Lc537, hQ537, l537, y537, z537⟩, st537⟩ := X534.virtualBack hx (y := (⟨"archetest/util/StateSet", "get", "(I)I"⟩ : MethodName)) (z := (⟨"archetest/util/StateSet", "get", "(I)I"⟩ : MethodName)) hown (mvT hZ (hw _ (List.mem_of_getElem? (i := 38) rfl))) (mvT hZ (hw _ (List.mem_of_getElem? (i := 39) rfl))) (notFace_of_selects (args := #[]) (mvT hZ (hw _ (List.mem_of_getElem? (i := 41) rfl)))) (mvT hZ (hw _ (List.mem_of_getElem? (i := 41) rfl))) (mvT hZ (hw _ (List.mem_of_getElem? (i := 40) rfl))) (by decide) (backOf (W := 0) (own_rm7 l Z av hw [] b234 (0 : Int32) (mm243) (km245) (ff520) T516.heap n0 z533 f527 f530 (rfl)) hZ (hw _ (List.mem_of_getElem? (i := 42) rfl)) (hw _ (List.mem_of_getElem? (i := 3) rfl)) (by decide) (by decide)) q537a q537c (g := (mkF m 176 #[.val (.int p0), .val (.int p1), .val (.int p2), .val (.int p3), .val (.int p4), .val (.int p5), .val (.int v224), .val (.int v226), .val (.int v228), .val (.int v230), .val (.int v232), .val (.int v233), .val (.ref b234)] [(.int (0 : Int32)), (.ref b234)])) rfl (by rw [hml]; rfl) (Steps.refl _) (argsL := [(.int (0 : Int32))]) (rest := []) (lenOf own_pd4 rfl) rfl (by show 2 * 0 + _ ≤ _; exact Nat.le_of_eq rfl) (hb hby at_176) (fun _ _ => ⟨rfl, e536, (by decide : 3 + 0 ≤ _), (by decide : 15 + 0 ≤ _)⟩)
        dsimp only [Pt.U, Pt.locs, Pt.cells, Pt.slots] at X537 l537 y537 z537 st537 hQ537
        subst l537 y537 z537
        obtain ⟨rfl, N537q, e539⟩ := hQ537
        have N538 := Fr.app N535 N537q
        obtain ⟨fs, hr, hrun, hended, hW, hsame⟩ := X537.leave (v := some (.int (1 : Int32))) (fun h => by rw [Bd.returns] at h; cases h)
        refine ⟨_, _, pre410 _ ?_, hrun, hended, _, _, rfl, ?_, ⟨_, rfl⟩, hW, hsame.mono (by decide) (by decide)⟩
        · show Steps p.tables e below (T392.setTop (mkF m 94 #[.val (.int p0), .val (.int p1), .val (.int p2), .val (.int p3), .val (.int p4), .val (.int p5), .val (.int v224), .val (.int v226), .val (.int v228), .val (.int v230), .val (.int v232), .val (.int v233), .val (.ref b234)] [(.int (3 : Int32)), (.int v233)])) _
          refine XS.icmpNo X392.here hx rfl (hb hby at_94) rfl (flt hc411).1 ?_
          show Steps p.tables e below (T392.setTop (mkF m 97 #[.val (.int p0), .val (.int p1), .val (.int p2), .val (.int p3), .val (.int p4), .val (.int p5), .val (.int v224), .val (.int v226), .val (.int v228), .val (.int v230), .val (.int v232), .val (.int v233), .val (.ref b234)] [])) _
          refine XS.aload X392.here hx rfl (hb hby at_97) rfl rfl ?_
          show Steps p.tables e below (T392.setTop (mkF m 99 #[.val (.int p0), .val (.int p1), .val (.int p2), .val (.int p3), .val (.int p4), .val (.int p5), .val (.int v224), .val (.int v226), .val (.int v228), .val (.int v230), .val (.int v232), .val (.int v233), .val (.ref b234)] [(.ref b234)])) _
          refine XS.iload X392.here hx rfl (hb hby at_99) rfl ?_
          show Steps p.tables e below (T392.setTop (mkF m 101 #[.val (.int p0), .val (.int p1), .val (.int p2), .val (.int p3), .val (.int p4), .val (.int p5), .val (.int v224), .val (.int v226), .val (.int v228), .val (.int v230), .val (.int v232), .val (.int v233), .val (.ref b234)] [(.int v230), (.ref b234)])) _
          refine st467.trans ?_
          show Steps p.tables e below (T467.setTop (mkF m 104 #[.val (.int p0), .val (.int p1), .val (.int p2), .val (.int p3), .val (.int p4), .val (.int p5), .val (.int v224), .val (.int v226), .val (.int v228), .val (.int v230), .val (.int v232), .val (.int v233), .val (.ref b234)] [(.int r473)])) _
          refine XS.pop X467.here hx rfl (hb hby at_104) rfl rfl ?_
          show Steps p.tables e below (T467.setTop (mkF m 105 #[.val (.int p0), .val (.int p1), .val (.int p2), .val (.int p3), .val (.int p4), .val (.int p5), .val (.int v224), .val (.int v226), .val (.int v228), .val (.int v230), .val (.int v232), .val (.int v233), .val (.ref b234)] [])) _
          refine XS.aload X467.here hx rfl (hb hby at_105) rfl rfl ?_
          show Steps p.tables e below (T467.setTop (mkF m 107 #[.val (.int p0), .val (.int p1), .val (.int p2), .val (.int p3), .val (.int p4), .val (.int p5), .val (.int v224), .val (.int v226), .val (.int v228), .val (.int v230), .val (.int v232), .val (.int v233), .val (.ref b234)] [(.ref b234)])) _
          refine st486.trans ?_
          show Steps p.tables e below (T486.setTop (mkF m 110 #[.val (.int p0), .val (.int p1), .val (.int p2), .val (.int p3), .val (.int p4), .val (.int p5), .val (.int v224), .val (.int v226), .val (.int v228), .val (.int v230), .val (.int v232), .val (.int v233), .val (.ref b234)] [])) _
          refine XS.aload X486.here hx rfl (hb hby at_110) rfl rfl ?_
          show Steps p.tables e below (T486.setTop (mkF m 112 #[.val (.int p0), .val (.int p1), .val (.int p2), .val (.int p3), .val (.int p4), .val (.int p5), .val (.int v224), .val (.int v226), .val (.int v228), .val (.int v230), .val (.int v232), .val (.int v233), .val (.ref b234)] [(.ref b234)])) _
          refine st498.trans ?_
          show Steps p.tables e below (T498.setTop (mkF m 115 #[.val (.int p0), .val (.int p1), .val (.int p2), .val (.int p3), .val (.int p4), .val (.int p5), .val (.int v224), .val (.int v226), .val (.int v228), .val (.int v230), .val (.int v232), .val (.int v233), .val (.ref b234)] [(.int (0 : Int32))])) _
          refine XS.ifYes X498.here hx rfl (pc0 := 115) (pc' := 120) rfl (hb hby at_115) rfl ((if0 _ _).trans (teq (by decide : (0 : Int32) = (0 : Int32))).1) (by decide) (by decide) ?_
          show Steps p.tables e below (T498.setTop (mkF m 120 #[.val (.int p0), .val (.int p1), .val (.int p2), .val (.int p3), .val (.int p4), .val (.int p5), .val (.int v224), .val (.int v226), .val (.int v228), .val (.int v230), .val (.int v232), .val (.int v233), .val (.ref b234)] [])) _
          refine XS.aload X498.here hx rfl (hb hby at_120) rfl rfl ?_
          show Steps p.tables e below (T498.setTop (mkF m 122 #[.val (.int p0), .val (.int p1), .val (.int p2), .val (.int p3), .val (.int p4), .val (.int p5), .val (.int v224), .val (.int v226), .val (.int v228), .val (.int v230), .val (.int v232), .val (.int v233), .val (.ref b234)] [(.ref b234)])) _
          refine XS.iload X498.here hx rfl (hb hby at_122) rfl ?_
          show Steps p.tables e below (T498.setTop (mkF m 124 #[.val (.int p0), .val (.int p1), .val (.int p2), .val (.int p3), .val (.int p4), .val (.int p5), .val (.int v224), .val (.int v226), .val (.int v228), .val (.int v230), .val (.int v232), .val (.int v233), .val (.ref b234)] [(.int v226), (.ref b234)])) _
          refine st501.trans ?_
          show Steps p.tables e below (T501.setTop (mkF m 127 #[.val (.int p0), .val (.int p1), .val (.int p2), .val (.int p3), .val (.int p4), .val (.int p5), .val (.int v224), .val (.int v226), .val (.int v228), .val (.int v230), .val (.int v232), .val (.int v233), .val (.ref b234)] [(.int (own_ct (fun _ => (0 : Int64)) v226))])) _
          refine XS.ifNo X501.here hx rfl (hb hby at_127) rfl ((if0 _ _).trans (teq (own_ct0 _ : (own_ct (fun _ => (0 : Int64)) v226) = (0 : Int32))).2) ?_
          show Steps p.tables e below (T501.setTop (mkF m 130 #[.val (.int p0), .val (.int p1), .val (.int p2), .val (.int p3), .val (.int p4), .val (.int p5), .val (.int v224), .val (.int v226), .val (.int v228), .val (.int v230), .val (.int v232), .val (.int v233), .val (.ref b234)] [])) _
          refine XS.aload X501.here hx rfl (hb hby at_130) rfl rfl ?_
          show Steps p.tables e below (T501.setTop (mkF m 132 #[.val (.int p0), .val (.int p1), .val (.int p2), .val (.int p3), .val (.int p4), .val (.int p5), .val (.int v224), .val (.int v226), .val (.int v228), .val (.int v230), .val (.int v232), .val (.int v233), .val (.ref b234)] [(.ref b234)])) _
          refine XS.iload X501.here hx rfl (hb hby at_132) rfl ?_
          show Steps p.tables e below (T501.setTop (mkF m 134 #[.val (.int p0), .val (.int p1), .val (.int p2), .val (.int p3), .val (.int p4), .val (.int p5), .val (.int v224), .val (.int v226), .val (.int v228), .val (.int v230), .val (.int v232), .val (.int v233), .val (.ref b234)] [(.int v228), (.ref b234)])) _
          refine st506.trans ?_
          show Steps p.tables e below (T506.setTop (mkF m 137 #[.val (.int p0), .val (.int p1), .val (.int p2), .val (.int p3), .val (.int p4), .val (.int p5), .val (.int v224), .val (.int v226), .val (.int v228), .val (.int v230), .val (.int v232), .val (.int v233), .val (.ref b234)] [(.int (own_ct (fun _ => (0 : Int64)) v228))])) _
          refine XS.ifNo X506.here hx rfl (hb hby at_137) rfl ((if0 _ _).trans (teq (own_ct0 _ : (own_ct (fun _ => (0 : Int64)) v228) = (0 : Int32))).2) ?_
          show Steps p.tables e below (T506.setTop (mkF m 140 #[.val (.int p0), .val (.int p1), .val (.int p2), .val (.int p3), .val (.int p4), .val (.int p5), .val (.int v224), .val (.int v226), .val (.int v228), .val (.int v230), .val (.int v232), .val (.int v233), .val (.ref b234)] [])) _
          refine XS.aload X506.here hx rfl (hb hby at_140) rfl rfl ?_
          show Steps p.tables e below (T506.setTop (mkF m 142 #[.val (.int p0), .val (.int p1), .val (.int p2), .val (.int p3), .val (.int p4), .val (.int p5), .val (.int v224), .val (.int v226), .val (.int v228), .val (.int v230), .val (.int v232), .val (.int v233), .val (.ref b234)] [(.ref b234)])) _
          refine XS.iload X506.here hx rfl (hb hby at_142) rfl ?_
          show Steps p.tables e below (T506.setTop (mkF m 144 #[.val (.int p0), .val (.int p1), .val (.int p2), .val (.int p3), .val (.int p4), .val (.int p5), .val (.int v224), .val (.int v226), .val (.int v228), .val (.int v230), .val (.int v232), .val (.int v233), .val (.ref b234)] [(.int v230), (.ref b234)])) _
          refine st511.trans ?_
          show Steps p.tables e below (T511.setTop (mkF m 147 #[.val (.int p0), .val (.int p1), .val (.int p2), .val (.int p3), .val (.int p4), .val (.int p5), .val (.int v224), .val (.int v226), .val (.int v228), .val (.int v230), .val (.int v232), .val (.int v233), .val (.ref b234)] [(.int (own_ct (fun _ => (0 : Int64)) v230))])) _
          refine XS.ifYes X511.here hx rfl (pc0 := 147) (pc' := 152) rfl (hb hby at_147) rfl ((if0 _ _).trans (teq (own_ct0 _ : (own_ct (fun _ => (0 : Int64)) v230) = (0 : Int32))).1) (by decide) (by decide) ?_
          show Steps p.tables e below (T511.setTop (mkF m 152 #[.val (.int p0), .val (.int p1), .val (.int p2), .val (.int p3), .val (.int p4), .val (.int p5), .val (.int v224), .val (.int v226), .val (.int v228), .val (.int v230), .val (.int v232), .val (.int v233), .val (.ref b234)] [])) _
          refine XS.aload X511.here hx rfl (hb hby at_152) rfl rfl ?_
          show Steps p.tables e below (T511.setTop (mkF m 154 #[.val (.int p0), .val (.int p1), .val (.int p2), .val (.int p3), .val (.int p4), .val (.int p5), .val (.int v224), .val (.int v226), .val (.int v228), .val (.int v230), .val (.int v232), .val (.int v233), .val (.ref b234)] [(.ref b234)])) _
          refine XS.iload X511.here hx rfl (hb hby at_154) rfl ?_
          show Steps p.tables e below (T511.setTop (mkF m 156 #[.val (.int p0), .val (.int p1), .val (.int p2), .val (.int p3), .val (.int p4), .val (.int p5), .val (.int v224), .val (.int v226), .val (.int v228), .val (.int v230), .val (.int v232), .val (.int v233), .val (.ref b234)] [(.int v232), (.ref b234)])) _
          refine st516.trans ?_
          show Steps p.tables e below (T516.setTop (mkF m 159 #[.val (.int p0), .val (.int p1), .val (.int p2), .val (.int p3), .val (.int p4), .val (.int p5), .val (.int v224), .val (.int v226), .val (.int v228), .val (.int v230), .val (.int v232), .val (.int v233), .val (.ref b234)] [(.int r522)])) _
          refine XS.ifYes X516.here hx rfl (pc0 := 159) (pc' := 164) rfl (hb hby at_159) rfl ((if0 _ _).trans (feq ((by rw [(own_fresh hq524).1]; decide) : ¬ (r522 = (0 : Int32)))).2) (by decide) (by decide) ?_
          show Steps p.tables e below (T516.setTop (mkF m 164 #[.val (.int p0), .val (.int p1), .val (.int p2), .val (.int p3), .val (.int p4), .val (.int p5), .val (.int v224), .val (.int v226), .val (.int v228), .val (.int v230), .val (.int v232), .val (.int v233), .val (.ref b234)] [])) _
          refine XS.aload X516.here hx rfl (hb hby at_164) rfl rfl ?_
          show Steps p.tables e below (T516.setTop (mkF m 166 #[.val (.int p0), .val (.int p1), .val (.int p2), .val (.int p3), .val (.int p4), .val (.int p5), .val (.int v224), .val (.int v226), .val (.int v228), .val (.int v230), .val (.int v232), .val (.int v233), .val (.ref b234)] [(.ref b234)])) _
          refine st534.trans ?_
          show Steps p.tables e below (T534.setTop (mkF m 169 #[.val (.int p0), .val (.int p1), .val (.int p2), .val (.int p3), .val (.int p4), .val (.int p5), .val (.int v224), .val (.int v226), .val (.int v228), .val (.int v230), .val (.int v232), .val (.int v233), .val (.ref b234)] [(.int ss521)])) _
          refine XS.iconst X534.here hx rfl (hb hby at_169) ?_
          show Steps p.tables e below (T534.setTop (mkF m 170 #[.val (.int p0), .val (.int p1), .val (.int p2), .val (.int p3), .val (.int p4), .val (.int p5), .val (.int v224), .val (.int v226), .val (.int v228), .val (.int v230), .val (.int v232), .val (.int v233), .val (.ref b234)] [(.int (1 : Int32)), (.int ss521)])) _
          refine XS.icmpNo X534.here hx rfl (hb hby at_170) rfl (teq ((own_fresh hq524).2.1 : ss521 = (1 : Int32))).2 ?_
          show Steps p.tables e below (T534.setTop (mkF m 173 #[.val (.int p0), .val (.int p1), .val (.int p2), .val (.int p3), .val (.int p4), .val (.int p5), .val (.int v224), .val (.int v226), .val (.int v228), .val (.int v230), .val (.int v232), .val (.int v233), .val (.ref b234)] [])) _
          refine XS.aload X534.here hx rfl (hb hby at_173) rfl rfl ?_
          show Steps p.tables e below (T534.setTop (mkF m 175 #[.val (.int p0), .val (.int p1), .val (.int p2), .val (.int p3), .val (.int p4), .val (.int p5), .val (.int v224), .val (.int v226), .val (.int v228), .val (.int v230), .val (.int v232), .val (.int v233), .val (.ref b234)] [(.ref b234)])) _
          refine XS.iconst X534.here hx rfl (hb hby at_175) ?_
          show Steps p.tables e below (T534.setTop (mkF m 176 #[.val (.int p0), .val (.int p1), .val (.int p2), .val (.int p3), .val (.int p4), .val (.int p5), .val (.int v224), .val (.int v226), .val (.int v228), .val (.int v230), .val (.int v232), .val (.int v233), .val (.ref b234)] [(.int (0 : Int32)), (.ref b234)])) _
          refine st537.trans ?_
          show Steps p.tables e below (T537.setTop (mkF m 179 #[.val (.int p0), .val (.int p1), .val (.int p2), .val (.int p3), .val (.int p4), .val (.int p5), .val (.int v224), .val (.int v226), .val (.int v228), .val (.int v230), .val (.int v232), .val (.int v233), .val (.ref b234)] [(.int (ff520 0))])) _
          refine XS.iload X537.here hx rfl (hb hby at_179) rfl ?_
          show Steps p.tables e below (T537.setTop (mkF m 181 #[.val (.int p0), .val (.int p1), .val (.int p2), .val (.int p3), .val (.int p4), .val (.int p5), .val (.int v224), .val (.int v226), .val (.int v228), .val (.int v230), .val (.int v232), .val (.int v233), .val (.ref b234)] [(.int v232), (.int (ff520 0))])) _
          refine XS.icmpNo X537.here hx rfl (hb hby at_181) rfl (teq ((own_fresh hq524).2.2 : (ff520 0) = v232)).2 ?_
          show Steps p.tables e below (T537.setTop (mkF m 184 #[.val (.int p0), .val (.int p1), .val (.int p2), .val (.int p3), .val (.int p4), .val (.int p5), .val (.int v224), .val (.int v226), .val (.int v228), .val (.int v230), .val (.int v232), .val (.int v233), .val (.ref b234)] [])) _
          refine XS.iconst X537.here hx rfl (hb hby at_184) ?_
          show Steps p.tables e below (T537.setTop (mkF m 185 #[.val (.int p0), .val (.int p1), .val (.int p2), .val (.int p3), .val (.int p4), .val (.int p5), .val (.int v224), .val (.int v226), .val (.int v228), .val (.int v230), .val (.int v232), .val (.int v233), .val (.ref b234)] [(.int (1 : Int32))])) _
          refine XS.goto X537.here hx rfl (pc0 := 185) (pc' := 189) rfl (hb hby at_185) (by decide) (by decide) ?_
          show Steps p.tables e below (T537.setTop (mkF m 189 #[.val (.int p0), .val (.int p1), .val (.int p2), .val (.int p3), .val (.int p4), .val (.int p5), .val (.int v224), .val (.int v226), .val (.int v228), .val (.int v230), .val (.int v232), .val (.int v233), .val (.ref b234)] [(.int (1 : Int32))])) _
          exact retN X537 hx (t := .boolean) Bd.returns (by simp) (hb hby at_189) hr
        · show own_Q0 Z p0 p1 p2 p3 p4 p5 h0 n0 _ T537.heap _
          rw [e539]
          exact ⟨rfl, N538⟩
set_option maxRecDepth 65536 in
set_option maxHeartbeats 40000000 in
theorem comes_1 {Post : Tables → Env → Array Value → State → Outcome → State → Prop} (hpost : ∀ tb e args s v u, (limb_1_1.after args s (.returned v) u = true ∧ limb_1_2.after args s (.returned v) u = true ∧ True) → FrameEnd s (.returned v) u (Jvm.fieldLocs frame_1_writes args s ++ Jvm.arrayLocs frame_1_arrays args s ++ Jvm.staticLocs frame_1_statics s) 16 128 → Post tb e args s (.returned v) u) :
    ArmFor flags0 classFile x code maxLocals ret World_1 tables_1 room_1 Calls_1 rest_1 Pre_1 Post := by
  intro l hfl _ _ p e ha hc hk s m args below hf hA hF happ hP
  obtain ⟨hcalls, hrest, hpre⟩ := hP
  obtain ⟨-, -, -, hnamed, -, -, -, hat⟩ := (Spec.applies_iff hf).mp happ
  obtain ⟨hg, hn⟩ := and_e (Cond.before_iff.mp (show (Jvm.Cond.and given_1 narrow_1).before args s = true from hpre))
  obtain ⟨gg1, gg2⟩ := and_e hg
  obtain ⟨gg3, gg4⟩ := and_e gg2
  obtain ⟨gg5, gg6⟩ := and_e gg4
  obtain ⟨gg7, gg8⟩ := and_e gg6
  obtain ⟨gg9, gg10⟩ := and_e gg8
  obtain ⟨gg11, gg12⟩ := and_e gg10
  obtain ⟨w0, w1, w2, w3, w4, w5, rfl⟩ : ∃ w0 w1 w2 w3 w4 w5 : Value, args = #[w0, w1, w2, w3, w4, w5] := by
    have hs : args.size = 6 := by simpa [Cond.value, given_1] using gg1
    obtain ⟨L⟩ := args
    match L, hs with
    | [w0, w1, w2, w3, w4, w5], _ => exact ⟨w0, w1, w2, w3, w4, w5, rfl⟩
  have hw := fun d (hd : d ∈ tables_1) => atoms_spec (ws := Jvm.Cond.code x code maxLocals ret :: tables_1) hat d (List.mem_cons_of_mem _ hd)
  have hfit : Fit s := fun {y c} hc i hi => by
    obtain ⟨ha, rfl⟩ := Array.getElem?_eq_some_iff.mp hc
    have q := List.all_eq_true.mp ((Array.all_eq_true_iff_forall_mem.mp hF) _ (Array.getElem_mem ha)) i (List.mem_range.mpr hi)
    simpa [Array.getElem?_eq_getElem hi] using q
  obtain ⟨i0, ei0⟩ := is_v gg3
  obtain rfl : w0 = (.int i0) := Option.some.inj ei0
  obtain ⟨i1, ei1⟩ := is_v gg5
  obtain rfl : w1 = (.int i1) := Option.some.inj ei1
  obtain ⟨i2, ei2⟩ := is_v gg7
  obtain rfl : w2 = (.int i2) := Option.some.inj ei2
  obtain ⟨i3, ei3⟩ := is_v gg9
  obtain rfl : w3 = (.int i3) := Option.some.inj ei3
  obtain ⟨i4, ei4⟩ := is_v gg11
  obtain rfl : w4 = (.int i4) := Option.some.inj ei4
  obtain ⟨i5, ei5⟩ := is_v gg12
  obtain rfl : w5 = (.int i5) := Option.some.inj ei5
  obtain ⟨n, o, h1, h2, h3, _, L, rfl, ⟨rfl, N⟩, hq⟩ := own_rm0 l s _ hw tables_1 i0 i1 i2 i3 i4 i5 s.heap s.heap.size (Nat.le_refl _)  p e ha hc hk s m _ below hf ((Spec.applies_iff_loose hf).mp happ).1 ⟨rfl, State.Warmed39.refl s, rfl⟩ trivial
  refine ⟨n, _, h1, h2, h3, hpost _ _ _ _ _ _ ⟨Cond.after_iff.mpr rfl, Cond.after_iff.mpr (eq_i res_at (Term.int_eval (1)) rfl), trivial⟩ ⟨hq.1, hq.2.1, (hq.2.2.sift fun y hy => Or.inr (N y hy)).mono (by decide) (by decide)⟩⟩
theorem main_1_1 : Claimed_1_1 := comes_1 fun _ _ _ _ _ _ h hF => ⟨h.1, hF⟩
theorem main_1_2 : Claimed_1_2 := comes_1 fun _ _ _ _ _ _ h hF => ⟨h.2.1, hF⟩
end Jvm.Pilot.@@N@@
namespace Jvm.Pilot.@@N@@
open Jvm Jvm.ClassFile Sem Op Lib Jvm.Free Jvm.Stand Jvm.Pilot.@@N@@.Jvm.D
/-! MADE BY PROGRAM (witnessworld.py) out of the Statement's table words and the real class files: 11 classes; the members and pool entries that the words name. The judged class is class 1, her method 1. -/
namespace start1
open Jvm.ClassFile
def u (s : String) : CpInfo := .utf8 (stringToUtf16 s)
/-- a pool by its gaps: so many unusable entries, then the entry; so many at the end -/
def gap : Nat → List CpInfo → List CpInfo
  | 0, r => r
  | n + 1, r => .unusable :: gap n r
def poolList (es : List (Nat × CpInfo)) (last : Nat) : List CpInfo := es.foldr (fun e r => gap e.1 (e.2 :: r)) (gap last [])
def pool (es : List (Nat × CpInfo)) (last : Nat) : Array CpInfo := ⟨poolList es last⟩
def fileOf (pool : Array CpInfo) (this : Nat) (attrs : Array Attribute := #[]) (ms : Array MethodInfo := #[]) (fl : Nat := 33) (sup : Nat := 0) (ifs : Array Nat := #[]) (fds : Array FieldInfo := #[]) : ClassFile where
  minorVersion := 0
  majorVersion := 65
  constantPool := pool
  accessFlags := fl
  thisClass := this
  superClass := sup
  interfaces := ifs
  fields := fds
  methods := ms
  attributes := attrs
def plain (name : String) (sup : Option ClassId) : Class where
  name := name
  kind := .ordinary
  loader := none
  accessFlags := 33
  super := sup
  interfaces := #[]
  cf := none
  fields := #[]
  methods := #[]
  instanceTypes := #[]
  staticTypes := #[]
  resolved := #[]
  callSites := []
  init := .initialized
  statics := none
  mirror := none

def pool0 : Array CpInfo := pool [(5, u "<init>"), (0, u "()V"), (1, .class_ 10), (1, u "java/lang/Object")] 113

def k0c0 : Code := { maxStack := 0, maxLocals := 1, code := object_method_1_code, exceptionTable := #[], attributes := #[] }
def k0m0 : Method := { name := "<init>", desc := "()V", sig := { parameters := [], returnType := none }, accessFlags := 1, code := some k0c0 }
/-- java/lang/Object -/
def k0 : Class := { plain "java/lang/Object" none with
  accessFlags := 33
  interfaces := #[]
  cf := some (fileOf pool0 8 #[] #[{ accessFlags := 1, nameIndex := 5, descriptorIndex := 6, attributes := #[] }] 33 0 #[] #[])
  fields := #[]
  methods := #[k0m0]
  instanceTypes := #[]
  staticTypes := #[]
  resolved := Array.replicate 124 none
  statics := none }

def pool1 : Array CpInfo := pool [(2, .class_ 4), (1, u "java/lang/Object"), (0, u "<init>"), (0, u "()V"), (0, .integer 2147483647), (0, .class_ 9), (0, u "archetest/util/StateSet"), (0, .methodref 8 11), (0, .nameAndType 5 12), (0, u "(I)V"), (0, .methodref 8 14), (0, .nameAndType 15 16), (0, u "add"), (0, u "(I)Z"), (0, .methodref 8 18), (0, .nameAndType 19 6), (0, u "clear"), (0, .methodref 8 21), (0, .nameAndType 22 23), (0, u "size"), (0, u "()I"), (0, .methodref 8 25), (0, .nameAndType 26 16), (0, u "contains"), (0, .methodref 8 28), (0, .nameAndType 29 30), (0, u "get"), (0, u "(I)I"), (0, .class_ 32), (0, u "archetest/util/StateSetClearPinLaw"), (2, u "law"), (0, u "(IIIIII)Z")] 3

def k1m0 : Method := { name := "<init>", desc := "()V", sig := { parameters := [], returnType := none }, accessFlags := 2, code := none }
def k1c1 : Code := { maxStack := 3, maxLocals := 13, code := code, exceptionTable := #[], attributes := #[] }
def k1m1 : Method := { name := "law", desc := "(IIIIII)Z", sig := { parameters := [.int, .int, .int, .int, .int, .int], returnType := some .boolean }, accessFlags := 9, code := some k1c1 }
/-- archetest/util/StateSetClearPinLaw -/
def k1 : Class := { plain "archetest/util/StateSetClearPinLaw" (some 0) with
  accessFlags := 49
  interfaces := #[]
  cf := some (fileOf pool1 31 #[] #[{ accessFlags := 2, nameIndex := 5, descriptorIndex := 6, attributes := #[] }, { accessFlags := 9, nameIndex := 35, descriptorIndex := 36, attributes := #[] }] 49 2 #[] #[])
  fields := #[]
  methods := #[k1m0, k1m1]
  instanceTypes := #[]
  staticTypes := #[]
  resolved := Array.replicate 40 none
  statics := none }

def pool2 : Array CpInfo := pool [(1, .methodref 2 3), (0, .class_ 4), (0, .nameAndType 5 6), (0, u "java/lang/Object"), (0, u "<init>"), (0, u "()V"), (0, .fieldref 8 9), (0, .class_ 10), (0, .nameAndType 11 12), (0, u "archetest/util/StateSet"), (0, u "members"), (0, u "[I"), (2, .fieldref 8 16), (0, .nameAndType 17 18), (0, u "bits"), (0, u "[J"), (0, .fieldref 8 20), (0, .nameAndType 21 22), (0, u "size"), (0, u "I"), (6, u "(I)V"), (2, u "add"), (0, u "(I)Z"), (1, u "contains"), (0, u "()I"), (0, u "get"), (0, u "(I)I"), (2, u "clear")] 2

def k2c0 : Code := { maxStack := 3, maxLocals := 2, code := prog_120_method_1_code, exceptionTable := #[], attributes := #[] }
def k2m0 : Method := { name := "<init>", desc := "(I)V", sig := { parameters := [.int], returnType := none }, accessFlags := 0, code := some k2c0 }
def k2c1 : Code := { maxStack := 6, maxLocals := 5, code := prog_120_method_2_code, exceptionTable := #[], attributes := #[] }
def k2m1 : Method := { name := "add", desc := "(I)Z", sig := { parameters := [.int], returnType := some .boolean }, accessFlags := 0, code := some k2c1 }
def k2c2 : Code := { maxStack := 5, maxLocals := 2, code := prog_120_method_3_code, exceptionTable := #[], attributes := #[] }
def k2m2 : Method := { name := "contains", desc := "(I)Z", sig := { parameters := [.int], returnType := some .boolean }, accessFlags := 0, code := some k2c2 }
def k2c3 : Code := { maxStack := 1, maxLocals := 1, code := prog_120_method_4_code, exceptionTable := #[], attributes := #[] }
def k2m3 : Method := { name := "size", desc := "()I", sig := { parameters := [], returnType := some .int }, accessFlags := 0, code := some k2c3 }
def k2c4 : Code := { maxStack := 2, maxLocals := 2, code := prog_120_method_5_code, exceptionTable := #[], attributes := #[] }
def k2m4 : Method := { name := "get", desc := "(I)I", sig := { parameters := [.int], returnType := some .int }, accessFlags := 0, code := some k2c4 }
def k2c5 : Code := { maxStack := 4, maxLocals := 2, code := prog_120_method_7_code, exceptionTable := #[], attributes := #[] }
def k2m5 : Method := { name := "clear", desc := "()V", sig := { parameters := [], returnType := none }, accessFlags := 0, code := some k2c5 }
/-- archetest/util/StateSet -/
def k2 : Class := { plain "archetest/util/StateSet" (some 0) with
  accessFlags := 48
  interfaces := #[]
  cf := some (fileOf pool2 8 #[] #[{ accessFlags := 0, nameIndex := 5, descriptorIndex := 29, attributes := #[] }, { accessFlags := 0, nameIndex := 32, descriptorIndex := 33, attributes := #[] }, { accessFlags := 0, nameIndex := 35, descriptorIndex := 33, attributes := #[] }, { accessFlags := 0, nameIndex := 21, descriptorIndex := 36, attributes := #[] }, { accessFlags := 0, nameIndex := 37, descriptorIndex := 38, attributes := #[] }, { accessFlags := 0, nameIndex := 41, descriptorIndex := 6, attributes := #[] }] 48 2 #[] #[{ accessFlags := 18, nameIndex := 17, descriptorIndex := 18, attributes := #[] }, { accessFlags := 2, nameIndex := 11, descriptorIndex := 12, attributes := #[] }, { accessFlags := 2, nameIndex := 21, descriptorIndex := 22, attributes := #[] }])
  fields := #[{ name := "bits", type := (.array .long), accessFlags := 18, slot := 0, constantValue := 0 }, { name := "members", type := (.array .int), accessFlags := 2, slot := 1, constantValue := 0 }, { name := "size", type := .int, accessFlags := 2, slot := 2, constantValue := 0 }]
  methods := #[k2m0, k2m1, k2m2, k2m3, k2m4, k2m5]
  instanceTypes := #[(.array .long), (.array .int), .int]
  staticTypes := #[]
  resolved := Array.replicate 44 none
  statics := none }

def pool3 : Array CpInfo := pool [(1, u "java/lang/Cloneable"), (0, .class_ 1), (0, u "java/lang/Object"), (0, .class_ 3)] 3

/-- java/lang/Cloneable -/
def k3 : Class := { plain "java/lang/Cloneable" (some 0) with
  accessFlags := 1537
  interfaces := #[]
  cf := some (fileOf pool3 2 #[] #[] 1537 4 #[] #[])
  fields := #[]
  methods := #[]
  instanceTypes := #[]
  staticTypes := #[]
  resolved := Array.replicate 8 none
  statics := none }

def pool4 : Array CpInfo := pool [(1, u "java/io/Serializable"), (0, .class_ 1), (0, u "java/lang/Object"), (0, .class_ 3)] 3

/-- java/io/Serializable -/
def k4 : Class := { plain "java/io/Serializable" (some 0) with
  accessFlags := 1537
  interfaces := #[]
  cf := some (fileOf pool4 2 #[] #[] 1537 4 #[] #[])
  fields := #[]
  methods := #[]
  instanceTypes := #[]
  staticTypes := #[]
  resolved := Array.replicate 8 none
  statics := none }

/-- the primitive byte -/
def k5 : Class := { plain "byte" none with kind := .primitive 'B', accessFlags := 0x411 }
/-- [B -/
def k6 : Class := { plain "[B" (some 0) with kind := .array 5 .byte, interfaces := #[3, 4], accessFlags := 1041 }

/-- the primitive int -/
def k7 : Class := { plain "int" none with kind := .primitive 'I', accessFlags := 0x411 }
/-- [I -/
def k8 : Class := { plain "[I" (some 0) with kind := .array 7 .int, interfaces := #[3, 4], accessFlags := 1041 }

/-- the primitive long -/
def k9 : Class := { plain "long" none with kind := .primitive 'J', accessFlags := 0x411 }
/-- [J -/
def k10 : Class := { plain "[J" (some 0) with kind := .array 9 .long, interfaces := #[3, 4], accessFlags := 1041 }

def heap : Heap := #[]
def classes : Array Class := #[k0, k1, k2, k3, k4, k5, k6, k7, k8, k9, k10]
def interned : List (Array UInt16 × Addr) := []
def slotsUsed : Nat := 0
def theMethod : MethodId := ⟨1, 1⟩
def args0 : Array Value := #[.int 5, .int 6, .int 7, .int 8, .int 9, .int 10]
def aboutOver (below : List Frame) : State where
  vm := { classes := classes, interned := interned.toArray }
  heap := heap
  slotsUsed := slotsUsed
  threads := #[{ frames := .invoking theMethod args0 :: below }]
def below0 : List Frame := [.native { method := ⟨0, 0⟩, args := #[] }]
def about1 : State := aboutOver below0
def p0 : Program := .bare "" "" ""
def e0 : Env := launch0.env 0 0 0
theorem w_frames : about1.frames = Frame.invoking theMethod args0 :: below0 := rfl
set_option maxRecDepth 65536 in
theorem w_args : argsFit about1.vm theMethod args0 = true := by decide +kernel
set_option maxRecDepth 65536 in
theorem w_heap : heapFits about1 = true := by decide +kernel
set_option maxRecDepth 65536 in
theorem w_runnable : about1.curStatus? = some .runnable := by decide +kernel
set_option maxRecDepth 65536 in
theorem w_alone : about1.alone = true := by decide +kernel
set_option maxRecDepth 65536 in
theorem w_named : about1.methodNamed? x = some theMethod := by decide +kernel
set_option maxRecDepth 65536 in
theorem w_hears : about1.hears theMethod below0 = true := by decide +kernel
set_option maxRecDepth 65536 in
theorem w_ripe : about1.ripe theMethod args0 below0 = true := by decide +kernel
theorem w_running : about1.status = .running := rfl
set_option maxRecDepth 65536 in
theorem w_room : about1.hasRoom e0.platform room_1 = true :=
  launch0.hasRoom_least _ room_1 (by decide +kernel) (by decide +kernel) (by decide +kernel) (by decide +kernel) (by decide +kernel) (by decide +kernel)
theorem allAtoms_all (ts : List Jvm.Cond) (a : Array Jvm.Value) (st : Jvm.State) : (allAtoms ts).before a st = ts.all (fun c => c.before a st) := by
  induction ts with
  | nil => rfl
  | cons c t ih =>
    show (Jvm.Cond.and c (allAtoms t)).before a st = _
    rw [Jvm.Cond.before_and, ih, List.all_cons]
def words1 : List Jvm.Cond := Jvm.Cond.code x code maxLocals ret :: tables_1
/-- a 'code' word, met by the world's own term for the bytes: nothing is compared byte by byte -/
theorem code_word {y : MethodName} {bytes : ByteArray} {mx : Nat} {rt : Option FieldType} {a : Array Value} {s : State} {m : MethodId} {meth : Method} {c : Code} (h1 : s.methodNamed? y = some m) (h2 : s.vm.method? m = some meth) (h3 : meth.code = some c) (h4 : c.code = bytes)
    (h5 : (c.maxLocals == mx && c.exceptionTable.isEmpty && decide (c.maxStack ≤ mostOperands) && decide (meth.sig.returnType = rt) && !meth.locks && decide (parseMethodDescriptor y.desc = some meth.sig)) = true) : (Jvm.Cond.code y bytes mx rt).before a s = true := by
  simp only [Bool.and_eq_true, beq_iff_eq, Bool.not_eq_true', decide_eq_true_eq] at h5
  obtain ⟨⟨⟨⟨⟨g1, g2⟩, g3⟩, g4⟩, g5⟩, g6⟩ := h5
  simp [Cond.before, Cond.holds, Cond.value, h1, h2, h3, h4, g1, g2, g3, g4, g5, g6]
def isCode : Jvm.Cond → Bool
  | .code _ _ _ _ => true
  | _ => false
theorem all_split {L : List Jvm.Cond} {P : Jvm.Cond → Bool} (h1 : L.all (fun c => isCode c || P c) = true) (h2 : ∀ c ∈ L.filter isCode, P c = true) : L.all P = true := by
  refine List.all_eq_true.mpr fun c hc => ?_
  have h := List.all_eq_true.mp h1 c hc
  rcases Bool.eq_false_or_eq_true (isCode c) with hi | hi
  · exact h2 c (List.mem_filter.mpr ⟨hc, hi⟩)
  · simpa [hi] using h
set_option maxRecDepth 65536 in
theorem w_c0 : (Jvm.Cond.code x code maxLocals ret).before args0 about1 = true := code_word (m := ⟨1, 1⟩) (meth := k1m1) (c := k1c1) (by decide +kernel) rfl rfl rfl (by decide +kernel)
set_option maxRecDepth 65536 in
theorem w_c1 : (Jvm.Cond.code ({ cls := "archetest/util/StateSet", name := "<init>", desc := "(I)V" } : Jvm.MethodName) prog_120_method_1_code (2 : Nat) (Option.none : Option Jvm.ClassFile.FieldType)).before args0 about1 = true := code_word (m := ⟨2, 0⟩) (meth := k2m0) (c := k2c0) (by decide +kernel) rfl rfl rfl (by decide +kernel)
set_option maxRecDepth 65536 in
theorem w_c2 : (Jvm.Cond.code ({ cls := "java/lang/Object", name := "<init>", desc := "()V" } : Jvm.MethodName) object_method_1_code (1 : Nat) (Option.none : Option Jvm.ClassFile.FieldType)).before args0 about1 = true := code_word (m := ⟨0, 0⟩) (meth := k0m0) (c := k0c0) (by decide +kernel) rfl rfl rfl (by decide +kernel)
set_option maxRecDepth 65536 in
theorem w_c3 : (Jvm.Cond.code ({ cls := "archetest/util/StateSet", name := "add", desc := "(I)Z" } : Jvm.MethodName) prog_120_method_2_code (5 : Nat) (Option.some Jvm.ClassFile.FieldType.boolean)).before args0 about1 = true := code_word (m := ⟨2, 1⟩) (meth := k2m1) (c := k2c1) (by decide +kernel) rfl rfl rfl (by decide +kernel)
set_option maxRecDepth 65536 in
theorem w_c4 : (Jvm.Cond.code ({ cls := "archetest/util/StateSet", name := "clear", desc := "()V" } : Jvm.MethodName) prog_120_method_7_code (2 : Nat) (Option.none : Option Jvm.ClassFile.FieldType)).before args0 about1 = true := code_word (m := ⟨2, 5⟩) (meth := k2m5) (c := k2c5) (by decide +kernel) rfl rfl rfl (by decide +kernel)
set_option maxRecDepth 65536 in
theorem w_c5 : (Jvm.Cond.code ({ cls := "archetest/util/StateSet", name := "size", desc := "()I" } : Jvm.MethodName) prog_120_method_4_code (1 : Nat) (Option.some Jvm.ClassFile.FieldType.int)).before args0 about1 = true := code_word (m := ⟨2, 3⟩) (meth := k2m3) (c := k2c3) (by decide +kernel) rfl rfl rfl (by decide +kernel)
set_option maxRecDepth 65536 in
theorem w_c6 : (Jvm.Cond.code ({ cls := "archetest/util/StateSet", name := "contains", desc := "(I)Z" } : Jvm.MethodName) prog_120_method_3_code (2 : Nat) (Option.some Jvm.ClassFile.FieldType.boolean)).before args0 about1 = true := code_word (m := ⟨2, 2⟩) (meth := k2m2) (c := k2c2) (by decide +kernel) rfl rfl rfl (by decide +kernel)
set_option maxRecDepth 65536 in
theorem w_c7 : (Jvm.Cond.code ({ cls := "archetest/util/StateSet", name := "get", desc := "(I)I" } : Jvm.MethodName) prog_120_method_5_code (2 : Nat) (Option.some Jvm.ClassFile.FieldType.int)).before args0 about1 = true := code_word (m := ⟨2, 4⟩) (meth := k2m4) (c := k2c4) (by decide +kernel) rfl rfl rfl (by decide +kernel)
def codes1 : List Jvm.Cond := [Jvm.Cond.code x code maxLocals ret, Jvm.Cond.code ({ cls := "archetest/util/StateSet", name := "<init>", desc := "(I)V" } : Jvm.MethodName) prog_120_method_1_code (2 : Nat) (Option.none : Option Jvm.ClassFile.FieldType), Jvm.Cond.code ({ cls := "java/lang/Object", name := "<init>", desc := "()V" } : Jvm.MethodName) object_method_1_code (1 : Nat) (Option.none : Option Jvm.ClassFile.FieldType), Jvm.Cond.code ({ cls := "archetest/util/StateSet", name := "add", desc := "(I)Z" } : Jvm.MethodName) prog_120_method_2_code (5 : Nat) (Option.some Jvm.ClassFile.FieldType.boolean), Jvm.Cond.code ({ cls := "archetest/util/StateSet", name := "clear", desc := "()V" } : Jvm.MethodName) prog_120_method_7_code (2 : Nat) (Option.none : Option Jvm.ClassFile.FieldType), Jvm.Cond.code ({ cls := "archetest/util/StateSet", name := "size", desc := "()I" } : Jvm.MethodName) prog_120_method_4_code (1 : Nat) (Option.some Jvm.ClassFile.FieldType.int), Jvm.Cond.code ({ cls := "archetest/util/StateSet", name := "contains", desc := "(I)Z" } : Jvm.MethodName) prog_120_method_3_code (2 : Nat) (Option.some Jvm.ClassFile.FieldType.boolean), Jvm.Cond.code ({ cls := "archetest/util/StateSet", name := "get", desc := "(I)I" } : Jvm.MethodName) prog_120_method_5_code (2 : Nat) (Option.some Jvm.ClassFile.FieldType.int)]
set_option maxRecDepth 65536 in
theorem codes_eq : words1.filter isCode = codes1 := rfl
theorem w_codes : ∀ c ∈ words1.filter isCode, c.before args0 about1 = true := by
  rw [codes_eq]
  intro c hc
  simp only [codes1, List.mem_cons, List.not_mem_nil, or_false] at hc
  rcases hc with rfl | rfl | rfl | rfl | rfl | rfl | rfl | rfl
  · exact w_c0
  · exact w_c1
  · exact w_c2
  · exact w_c3
  · exact w_c4
  · exact w_c5
  · exact w_c6
  · exact w_c7
set_option maxRecDepth 65536 in
theorem w_t1 : (words1.take 24).all (fun c => isCode c || c.before args0 about1) = true := by decide +kernel
set_option maxRecDepth 65536 in
theorem w_t2 : (words1.drop 24).all (fun c => isCode c || c.before args0 about1) = true := by decide +kernel
theorem w_tables : (allAtoms (Jvm.Cond.code x code maxLocals ret :: tables_1)).before args0 about1 = true := by
  rw [allAtoms_all]
  show words1.all (fun c => c.before args0 about1) = true
  refine all_split ?_ w_codes
  rw [← List.take_append_drop 24 words1, List.all_append, w_t1, w_t2]
  rfl
set_option maxRecDepth 65536 in
theorem w_case : (Jvm.Cond.and given_1 narrow_1).before args0 about1 = true := by decide +kernel
theorem w_applies : (headSpec (Jvm.Cond.code x code maxLocals ret :: tables_1) room_1).applies x e0.platform about1 = true :=
  (Spec.applies_iff w_frames).mpr ⟨w_running, w_runnable, w_alone, w_named, w_hears, w_ripe, w_room, w_tables⟩
theorem atStart : AtStart classFile x code maxLocals ret World_1 tables_1 room_1 Calls_1 rest_1 Pre_1 launch0 p0 e0 about1 theMethod args0 below0 :=
  ⟨lists_1, trivial, launch0.admits_env _ _ _, launch0.least_env, fairChoices_fair.cas, fairChoices_fair.clock, w_frames, w_args, w_heap, w_applies, trivial, trivial, w_case⟩
end start1
theorem witness_1 : WitnessClaimed_1 := ⟨start1.p0, start1.e0, start1.about1, start1.theMethod, start1.args0, start1.below0, start1.atStart⟩
end Jvm.Pilot.@@N@@
