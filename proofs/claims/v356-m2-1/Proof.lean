import JvmDerived
import JvmDerived.Pilot.@@N@@Statement
import JvmDerived.Pilot.@@N@@Code
set_option linter.unusedVariables false
set_option linter.unusedSimpArgs false
namespace Jvm.RoadKit
open Sem ClassFile Op Lib Jvm.Stand Jvm.Free Jvm.LawKit
section New
variable {p : Program} {l : Launch} {e : Env} {R : Room} {s : State} {m : MethodId} {args : Array Value} {below : List Frame} {meth : Method} {c : Code} {T : State} {locs : List Loc} {cells slots : Nat}
theorem retI (X : Stand p l e R s m args below meth c T locs cells slots) (hx : p.tables.exec = Jvm.exec) {pc : Nat} {Ls : Array Slot} {z : Int32} {rest : List Value} (hret : meth.sig.returnType = some .int) (hd : decode c.code pc = .ok (.ireturn, 1)) {fs : List Frame}
    (hl : ∀ (f : JFrame) (acts : List Action), f.method = m → f.locked = none → f.entered = [] → (doReturn e (T.setTop f) acts (some (.int z))).1 = T.setFrames fs) : Steps p.tables e below (T.setTop (mkF m pc Ls (.int z :: rest))) (T.setFrames fs) := by
  have hm' : T.vm.method? m = some meth := X.method'
  have hn : narrow .int (.int z) = .int z := rfl
  show Steps p.tables e below (T.setTop { method := m, pc := pc, locals := Ls, stack := _ :: rest, locked := none }) _
  jvm_step X.here [X.here.top, hx, hd, hm', hret, hn]
  first | (intro acts; rw [hl _ acts rfl rfl rfl]) | rw [hl _ _ rfl rfl rfl]
  exact Steps.refl _
end New
end Jvm.RoadKit
namespace Jvm.Pilot.@@N@@
open Jvm Jvm.ClassFile Sem Op Lib Jvm.Free Jvm.Stand Jvm.LawKit Jvm.RoadKit Bundle Jvm.Pilot.@@N@@.Jvm.D
theorem own_d1_0 : decode prog_21_method_3_code 0 = .ok (.iload_n 2, 1) := by decide +kernel
theorem own_d1_1 : decode prog_21_method_3_code 1 = .ok (.ifCond .ne 7, 3) := by decide +kernel
theorem own_d1_4 : decode prog_21_method_3_code 4 = .ok (.iconst 0, 1) := by decide +kernel
theorem own_d1_5 : decode prog_21_method_3_code 5 = .ok (.goto 10, 3) := by decide +kernel
theorem own_d1_15 : decode prog_21_method_3_code 15 = .ok (.ireturn, 1) := by decide +kernel
theorem own_d1_8 : decode prog_21_method_3_code 8 = .ok (.lload_n 0, 1) := by decide +kernel
theorem own_d1_9 : decode prog_21_method_3_code 9 = .ok (.bipush 64, 2) := by decide +kernel
theorem own_d1_11 : decode prog_21_method_3_code 11 = .ok (.iload_n 2, 1) := by decide +kernel
theorem own_d1_12 : decode prog_21_method_3_code 12 = .ok (.isub, 1) := by decide +kernel
theorem own_d1_13 : decode prog_21_method_3_code 13 = .ok (.lushr, 1) := by decide +kernel
theorem own_d1_14 : decode prog_21_method_3_code 14 = .ok (.l2i, 1) := by decide +kernel
def own_f1 (q0 : Int64) (p1 : Int32) : Int32 := if p1 = (0 : Int32) then (0 : Int32) else (((q0.toUInt64 >>> (((64 : Int32) - p1) &&& 0x3f).toInt64.toUInt64).toInt64).toInt32)
theorem own_pn11 : plainName "com/example/syncline/syncline/store/RecordTree" = true := by first | (simp [plainName, overriddenIn]; done) | decide +kernel
theorem own_ef1 (m : MethodId) (q0 : Int64) (p1 : Int32) : entryFrame m #[(.long q0), (.int p1)] 3 = mkF m 0 #[.val (.long q0), .second, .val (.int p1)] [] := by first | (simp [entryFrame, mkF, argsToLocals, Value.category]; done) | rfl
def own_Q1 (Z : State) (q0 : Int64) (p1 : Int32) (h0 : Heap) (n0 : Nat) (v : Option Value) (h : Heap) (L : List Loc) : Prop := v = some (.int (own_f1 q0 p1)) ∧ Fr n0 L ∧ h = h0
set_option maxRecDepth 65536 in
set_option maxHeartbeats 40000000 in
theorem own_rm1 (l : Launch) (Z : State) (av : Array Value) (hw : ∀ d ∈ tables_1, d.before av Z = true) (ws : List Jvm.Cond) (q0 : Int64) (p1 : Int32) (h0 : Heap) (n0 : Nat) (Z0 : n0 ≤ h0.size) :
    MetFree l (⟨"com/example/syncline/syncline/store/RecordTree", "indexOf", "(JI)I"⟩ : MethodName) (head1 (Jvm.Cond.code (⟨"com/example/syncline/syncline/store/RecordTree", "indexOf", "(JI)I"⟩ : MethodName) prog_21_method_3_code 3 (some .int) :: ws) ({ frames := 0, cells := 0, slots := 0, locals := 0 } : Room)) (fun a U => a = #[(.long q0), (.int p1)] ∧ Z.Warmed39 U.vm ∧ U.heap = h0) (fun _ _ _ _ _ => True) (fun _ U o U' => ∃ v L, o = .returned v ∧ own_Q1 Z q0 p1 h0 n0 v U'.heap L ∧ FrameEnd U o U' L ({ frames := 0, cells := 0, slots := 0, locals := 0 } : Room).cells ({ frames := 0, cells := 0, slots := 0, locals := 0 } : Room).slots) := by
  refine MetFree.of_bodySF (plainFor_of_name own_pn11) hisR ?_
  intro p e s m args below meth c s₁ Bd hml0 hP hK
  obtain ⟨rfl, hZ, hh⟩ := hP
  have hx := Bd.exec
  have hby := Bd.bytes
  have hml : c.maxLocals = 3 := hml0
  have hown : s.vm.findClass "com/example/syncline/syncline/store/RecordTree" = some m.cls := findClass_of_methodNamed Bd.named
  have hnm := (name_of_methodNamed Bd.named Bd.method).1
  have X0 : Stand p l e ({ frames := 0, cells := 0, slots := 0, locals := 0 } : Room) s m #[(.long q0), (.int p1)] below meth c s₁ [] 0 0 := Stand.of_body Bd
  have e0 : s₁.heap = h0 := by rw [← hh, Bd.state]; rfl
  have N0 := Fr.nil n0
  have pre0 : ∀ t, Steps p.tables e below (s₁.setTop (mkF m 0 #[.val (.long q0), .second, .val (.int p1)] [])) t → Steps p.tables e below (s₁.setTop (entryFrame m #[(.long q0), (.int p1)] 3)) t := fun t k => castTop (own_ef1 m q0 p1) k
  have pre1 : ∀ t, Steps p.tables e below (s₁.setTop (mkF m 1 #[.val (.long q0), .second, .val (.int p1)] [(.int p1)])) t → Steps p.tables e below (s₁.setTop (entryFrame m #[(.long q0), (.int p1)] 3)) t := fun t kk => pre0 t (by
    show Steps p.tables e below (s₁.setTop (mkF m 0 #[.val (.long q0), .second, .val (.int p1)] [])) _
    refine XS.iloadN X0.here hx rfl (hb hby own_d1_0) rfl ?_
    show Steps p.tables e below (s₁.setTop (mkF m 1 #[.val (.long q0), .second, .val (.int p1)] [(.int p1)])) _
    exact kk)
  by_cases hc2 : p1 = (0 : Int32)
  · obtain ⟨fs, hr, hrun, hended, hW, hsame⟩ := X0.leave (v := some (.int (0 : Int32))) (fun h => by rw [Bd.returns] at h; cases h)
    refine ⟨_, _, pre1 _ ?_, hrun, hended, _, _, rfl, ?_, ⟨_, rfl⟩, hW, hsame.mono (by decide) (by decide)⟩
    · show Steps p.tables e below (s₁.setTop (mkF m 1 #[.val (.long q0), .second, .val (.int p1)] [(.int p1)])) _
      refine XS.ifNo X0.here hx rfl (hb hby own_d1_1) rfl ((if0 _ _).trans (teq hc2).2) ?_
      show Steps p.tables e below (s₁.setTop (mkF m 4 #[.val (.long q0), .second, .val (.int p1)] [])) _
      refine XS.iconst X0.here hx rfl (hb hby own_d1_4) ?_
      show Steps p.tables e below (s₁.setTop (mkF m 5 #[.val (.long q0), .second, .val (.int p1)] [(.int (0 : Int32))])) _
      refine XS.goto X0.here hx rfl (pc0 := 5) (pc' := 15) rfl (hb hby own_d1_5) (by decide) (by decide) ?_
      show Steps p.tables e below (s₁.setTop (mkF m 15 #[.val (.long q0), .second, .val (.int p1)] [(.int (0 : Int32))])) _
      exact retI X0 hx Bd.returns (hb hby own_d1_15) hr
    · show own_Q1 Z q0 p1 h0 n0 _ s₁.heap _
      rw [e0]
      have hv : own_f1 q0 p1 = (0 : Int32) := by unfold own_f1; rw [if_pos hc2]
      exact ⟨by rw [hv], N0, rfl⟩
  · obtain ⟨fs, hr, hrun, hended, hW, hsame⟩ := X0.leave (v := some (.int (((q0.toUInt64 >>> (((64 : Int32) - p1) &&& 0x3f).toInt64.toUInt64).toInt64).toInt32))) (fun h => by rw [Bd.returns] at h; cases h)
    refine ⟨_, _, pre1 _ ?_, hrun, hended, _, _, rfl, ?_, ⟨_, rfl⟩, hW, hsame.mono (by decide) (by decide)⟩
    · show Steps p.tables e below (s₁.setTop (mkF m 1 #[.val (.long q0), .second, .val (.int p1)] [(.int p1)])) _
      refine XS.ifYes X0.here hx rfl (pc0 := 1) (pc' := 8) rfl (hb hby own_d1_1) rfl ((if0 _ _).trans (feq hc2).2) (by decide) (by decide) ?_
      show Steps p.tables e below (s₁.setTop (mkF m 8 #[.val (.long q0), .second, .val (.int p1)] [])) _
      refine XS.lloadN X0.here hx rfl (hb hby own_d1_8) rfl ?_
      show Steps p.tables e below (s₁.setTop (mkF m 9 #[.val (.long q0), .second, .val (.int p1)] [(.long q0)])) _
      refine XS.bipush X0.here hx rfl (hb hby own_d1_9) ?_
      show Steps p.tables e below (s₁.setTop (mkF m 11 #[.val (.long q0), .second, .val (.int p1)] [(.int (64 : Int32)), (.long q0)])) _
      refine XS.iloadN X0.here hx rfl (hb hby own_d1_11) rfl ?_
      show Steps p.tables e below (s₁.setTop (mkF m 12 #[.val (.long q0), .second, .val (.int p1)] [(.int p1), (.int (64 : Int32)), (.long q0)])) _
      refine XS.isub X0.here hx rfl (hb hby own_d1_12) rfl ?_
      show Steps p.tables e below (s₁.setTop (mkF m 13 #[.val (.long q0), .second, .val (.int p1)] [(.int ((64 : Int32) - p1)), (.long q0)])) _
      refine XS.lushr X0.here hx rfl (hb hby own_d1_13) rfl ?_
      show Steps p.tables e below (s₁.setTop (mkF m 14 #[.val (.long q0), .second, .val (.int p1)] [(.long ((q0.toUInt64 >>> (((64 : Int32) - p1) &&& 0x3f).toInt64.toUInt64).toInt64))])) _
      refine XS.l2i X0.here hx rfl (hb hby own_d1_14) rfl ?_
      show Steps p.tables e below (s₁.setTop (mkF m 15 #[.val (.long q0), .second, .val (.int p1)] [(.int (((q0.toUInt64 >>> (((64 : Int32) - p1) &&& 0x3f).toInt64.toUInt64).toInt64).toInt32))])) _
      exact retI X0 hx Bd.returns (hb hby own_d1_15) hr
    · show own_Q1 Z q0 p1 h0 n0 _ s₁.heap _
      rw [e0]
      have hv : own_f1 q0 p1 = (((q0.toUInt64 >>> (((64 : Int32) - p1) &&& 0x3f).toInt64.toUInt64).toInt64).toInt32) := by unfold own_f1; rw [if_neg hc2]
      exact ⟨by rw [hv], N0, rfl⟩
theorem own_f1_cases (q0 : Int64) (p1 : Int32) : (p1 = (0 : Int32) ∧ (own_f1 q0 p1 = (0 : Int32))) ∨ (¬ (p1 = (0 : Int32)) ∧ (own_f1 q0 p1 = (((q0.toUInt64 >>> (((64 : Int32) - p1) &&& 0x3f).toInt64.toUInt64).toInt64).toInt32))) := by
  by_cases cs0 : p1 = (0 : Int32)
  · refine Or.inl ⟨cs0, ?_⟩
    unfold own_f1; rw [if_pos cs0]
  · refine Or.inr ⟨cs0, ?_⟩
    unfold own_f1; rw [if_neg cs0]
theorem own_split (q m : Int64) : q = (q &&& (m ^^^ (-1 : Int64))) + (q &&& m) := by
  apply Int64.toBitVec_inj.mp
  show q.toBitVec = (q &&& (m ^^^ (-1 : Int64))).toBitVec + (q &&& m).toBitVec
  simp only [Int64.toBitVec_and, Int64.toBitVec_xor]
  have e : (-1 : Int64).toBitVec = BitVec.allOnes 64 := by decide
  rw [e, BitVec.xor_allOnes, BitVec.add_eq_or_of_and_eq_zero]
  · apply BitVec.eq_of_getLsbD_eq
    intro i hi
    simp only [BitVec.getLsbD_or, BitVec.getLsbD_and, BitVec.getLsbD_not]
    cases q.toBitVec.getLsbD i <;> cases m.toBitVec.getLsbD i <;> simp [hi]
  · apply BitVec.eq_of_getLsbD_eq
    intro i hi
    simp only [BitVec.getLsbD_and, BitVec.getLsbD_not, BitVec.getLsbD_zero]
    cases q.toBitVec.getLsbD i <;> cases m.toBitVec.getLsbD i <;> simp [hi]
def own_y (q : Int64) (k : Int32) : Int64 := ((q.toUInt64 >>> (k &&& 0x3f).toInt64.toUInt64).toInt64)
def own_ok (q : Int64) (d k : Int32) : Prop := ¬ ((own_y q k).toInt32 < (0 : Int32)) ∧ ((own_y q k).toInt32).toInt64 < ((1 : Int64) <<< (d &&& 0x3f).toInt64) ∧ (((own_y q k).toInt32).toInt64 <<< (k &&& 0x3f).toInt64) = (q &&& ((((1 : Int64) <<< (k &&& 0x3f).toInt64) - (1 : Int64)) ^^^ (-1 : Int64)))
theorem own_d1 (q : Int64) : own_ok q (1 : Int32) (63 : Int32) := by
  have e1 := c_lushr q (63 : Int32) 63 (by decide) (by decide)
  change (own_y q (63 : Int32)).toInt = _ at e1
  unfold own_ok
  generalize own_y q (63 : Int32) = y at *
  have e2 := c_l2i y
  have e3 := c_i2l y.toInt32
  have e4 := c_lshl (y.toInt32).toInt64 (63 : Int32) 63 (by decide)
  have e5 := own_split q (9223372036854775807 : Int64)
  have e6 := c_maskL q (9223372036854775807 : Int64) 63 (by decide) (by decide)
  have e7 := c_ladd (q &&& ((9223372036854775807 : Int64) ^^^ (-1 : Int64))) (q &&& (9223372036854775807 : Int64))
  rw [← e5] at e7
  have l1 : ((1 : Int64) <<< ((1 : Int32) &&& 0x3f).toInt64) = (2 : Int64) := by decide
  have l2 : (((1 : Int64) <<< ((63 : Int32) &&& 0x3f).toInt64) - (1 : Int64)) = (9223372036854775807 : Int64) := by decide
  rw [l1, l2]
  have b1 := Int64.le_toInt q; have b2 := Int64.toInt_lt q
  have b3 := Int64.le_toInt y; have b4 := Int64.toInt_lt y
  have b5 := Int32.le_toInt y.toInt32; have b6 := Int32.toInt_lt y.toInt32
  generalize (y.toInt32).toInt64 <<< ((63 : Int32) &&& 0x3f).toInt64 = z at *
  generalize (q &&& ((9223372036854775807 : Int64) ^^^ (-1 : Int64))) = w at *
  have b7 := Int64.le_toInt z; have b8 := Int64.toInt_lt z
  have b9 := Int64.le_toInt w; have b10 := Int64.toInt_lt w
  simp only [Int32.lt_iff_toInt_lt, Int64.lt_iff_toInt_lt, ← Int64.toInt_inj, Int32.reduceToInt, Int64.reduceToInt] at *
  refine ⟨by omega, by omega, by omega⟩
theorem own_d2 (q : Int64) : own_ok q (2 : Int32) (62 : Int32) := by
  have e1 := c_lushr q (62 : Int32) 62 (by decide) (by decide)
  change (own_y q (62 : Int32)).toInt = _ at e1
  unfold own_ok
  generalize own_y q (62 : Int32) = y at *
  have e2 := c_l2i y
  have e3 := c_i2l y.toInt32
  have e4 := c_lshl (y.toInt32).toInt64 (62 : Int32) 62 (by decide)
  have e5 := own_split q (4611686018427387903 : Int64)
  have e6 := c_maskL q (4611686018427387903 : Int64) 62 (by decide) (by decide)
  have e7 := c_ladd (q &&& ((4611686018427387903 : Int64) ^^^ (-1 : Int64))) (q &&& (4611686018427387903 : Int64))
  rw [← e5] at e7
  have l1 : ((1 : Int64) <<< ((2 : Int32) &&& 0x3f).toInt64) = (4 : Int64) := by decide
  have l2 : (((1 : Int64) <<< ((62 : Int32) &&& 0x3f).toInt64) - (1 : Int64)) = (4611686018427387903 : Int64) := by decide
  rw [l1, l2]
  have b1 := Int64.le_toInt q; have b2 := Int64.toInt_lt q
  have b3 := Int64.le_toInt y; have b4 := Int64.toInt_lt y
  have b5 := Int32.le_toInt y.toInt32; have b6 := Int32.toInt_lt y.toInt32
  generalize (y.toInt32).toInt64 <<< ((62 : Int32) &&& 0x3f).toInt64 = z at *
  generalize (q &&& ((4611686018427387903 : Int64) ^^^ (-1 : Int64))) = w at *
  have b7 := Int64.le_toInt z; have b8 := Int64.toInt_lt z
  have b9 := Int64.le_toInt w; have b10 := Int64.toInt_lt w
  simp only [Int32.lt_iff_toInt_lt, Int64.lt_iff_toInt_lt, ← Int64.toInt_inj, Int32.reduceToInt, Int64.reduceToInt] at *
  refine ⟨by omega, by omega, by omega⟩
theorem own_d3 (q : Int64) : own_ok q (3 : Int32) (61 : Int32) := by
  have e1 := c_lushr q (61 : Int32) 61 (by decide) (by decide)
  change (own_y q (61 : Int32)).toInt = _ at e1
  unfold own_ok
  generalize own_y q (61 : Int32) = y at *
  have e2 := c_l2i y
  have e3 := c_i2l y.toInt32
  have e4 := c_lshl (y.toInt32).toInt64 (61 : Int32) 61 (by decide)
  have e5 := own_split q (2305843009213693951 : Int64)
  have e6 := c_maskL q (2305843009213693951 : Int64) 61 (by decide) (by decide)
  have e7 := c_ladd (q &&& ((2305843009213693951 : Int64) ^^^ (-1 : Int64))) (q &&& (2305843009213693951 : Int64))
  rw [← e5] at e7
  have l1 : ((1 : Int64) <<< ((3 : Int32) &&& 0x3f).toInt64) = (8 : Int64) := by decide
  have l2 : (((1 : Int64) <<< ((61 : Int32) &&& 0x3f).toInt64) - (1 : Int64)) = (2305843009213693951 : Int64) := by decide
  rw [l1, l2]
  have b1 := Int64.le_toInt q; have b2 := Int64.toInt_lt q
  have b3 := Int64.le_toInt y; have b4 := Int64.toInt_lt y
  have b5 := Int32.le_toInt y.toInt32; have b6 := Int32.toInt_lt y.toInt32
  generalize (y.toInt32).toInt64 <<< ((61 : Int32) &&& 0x3f).toInt64 = z at *
  generalize (q &&& ((2305843009213693951 : Int64) ^^^ (-1 : Int64))) = w at *
  have b7 := Int64.le_toInt z; have b8 := Int64.toInt_lt z
  have b9 := Int64.le_toInt w; have b10 := Int64.toInt_lt w
  simp only [Int32.lt_iff_toInt_lt, Int64.lt_iff_toInt_lt, ← Int64.toInt_inj, Int32.reduceToInt, Int64.reduceToInt] at *
  refine ⟨by omega, by omega, by omega⟩
theorem own_d4 (q : Int64) : own_ok q (4 : Int32) (60 : Int32) := by
  have e1 := c_lushr q (60 : Int32) 60 (by decide) (by decide)
  change (own_y q (60 : Int32)).toInt = _ at e1
  unfold own_ok
  generalize own_y q (60 : Int32) = y at *
  have e2 := c_l2i y
  have e3 := c_i2l y.toInt32
  have e4 := c_lshl (y.toInt32).toInt64 (60 : Int32) 60 (by decide)
  have e5 := own_split q (1152921504606846975 : Int64)
  have e6 := c_maskL q (1152921504606846975 : Int64) 60 (by decide) (by decide)
  have e7 := c_ladd (q &&& ((1152921504606846975 : Int64) ^^^ (-1 : Int64))) (q &&& (1152921504606846975 : Int64))
  rw [← e5] at e7
  have l1 : ((1 : Int64) <<< ((4 : Int32) &&& 0x3f).toInt64) = (16 : Int64) := by decide
  have l2 : (((1 : Int64) <<< ((60 : Int32) &&& 0x3f).toInt64) - (1 : Int64)) = (1152921504606846975 : Int64) := by decide
  rw [l1, l2]
  have b1 := Int64.le_toInt q; have b2 := Int64.toInt_lt q
  have b3 := Int64.le_toInt y; have b4 := Int64.toInt_lt y
  have b5 := Int32.le_toInt y.toInt32; have b6 := Int32.toInt_lt y.toInt32
  generalize (y.toInt32).toInt64 <<< ((60 : Int32) &&& 0x3f).toInt64 = z at *
  generalize (q &&& ((1152921504606846975 : Int64) ^^^ (-1 : Int64))) = w at *
  have b7 := Int64.le_toInt z; have b8 := Int64.toInt_lt z
  have b9 := Int64.le_toInt w; have b10 := Int64.toInt_lt w
  simp only [Int32.lt_iff_toInt_lt, Int64.lt_iff_toInt_lt, ← Int64.toInt_inj, Int32.reduceToInt, Int64.reduceToInt] at *
  refine ⟨by omega, by omega, by omega⟩
theorem own_d5 (q : Int64) : own_ok q (5 : Int32) (59 : Int32) := by
  have e1 := c_lushr q (59 : Int32) 59 (by decide) (by decide)
  change (own_y q (59 : Int32)).toInt = _ at e1
  unfold own_ok
  generalize own_y q (59 : Int32) = y at *
  have e2 := c_l2i y
  have e3 := c_i2l y.toInt32
  have e4 := c_lshl (y.toInt32).toInt64 (59 : Int32) 59 (by decide)
  have e5 := own_split q (576460752303423487 : Int64)
  have e6 := c_maskL q (576460752303423487 : Int64) 59 (by decide) (by decide)
  have e7 := c_ladd (q &&& ((576460752303423487 : Int64) ^^^ (-1 : Int64))) (q &&& (576460752303423487 : Int64))
  rw [← e5] at e7
  have l1 : ((1 : Int64) <<< ((5 : Int32) &&& 0x3f).toInt64) = (32 : Int64) := by decide
  have l2 : (((1 : Int64) <<< ((59 : Int32) &&& 0x3f).toInt64) - (1 : Int64)) = (576460752303423487 : Int64) := by decide
  rw [l1, l2]
  have b1 := Int64.le_toInt q; have b2 := Int64.toInt_lt q
  have b3 := Int64.le_toInt y; have b4 := Int64.toInt_lt y
  have b5 := Int32.le_toInt y.toInt32; have b6 := Int32.toInt_lt y.toInt32
  generalize (y.toInt32).toInt64 <<< ((59 : Int32) &&& 0x3f).toInt64 = z at *
  generalize (q &&& ((576460752303423487 : Int64) ^^^ (-1 : Int64))) = w at *
  have b7 := Int64.le_toInt z; have b8 := Int64.toInt_lt z
  have b9 := Int64.le_toInt w; have b10 := Int64.toInt_lt w
  simp only [Int32.lt_iff_toInt_lt, Int64.lt_iff_toInt_lt, ← Int64.toInt_inj, Int32.reduceToInt, Int64.reduceToInt] at *
  refine ⟨by omega, by omega, by omega⟩
theorem own_d6 (q : Int64) : own_ok q (6 : Int32) (58 : Int32) := by
  have e1 := c_lushr q (58 : Int32) 58 (by decide) (by decide)
  change (own_y q (58 : Int32)).toInt = _ at e1
  unfold own_ok
  generalize own_y q (58 : Int32) = y at *
  have e2 := c_l2i y
  have e3 := c_i2l y.toInt32
  have e4 := c_lshl (y.toInt32).toInt64 (58 : Int32) 58 (by decide)
  have e5 := own_split q (288230376151711743 : Int64)
  have e6 := c_maskL q (288230376151711743 : Int64) 58 (by decide) (by decide)
  have e7 := c_ladd (q &&& ((288230376151711743 : Int64) ^^^ (-1 : Int64))) (q &&& (288230376151711743 : Int64))
  rw [← e5] at e7
  have l1 : ((1 : Int64) <<< ((6 : Int32) &&& 0x3f).toInt64) = (64 : Int64) := by decide
  have l2 : (((1 : Int64) <<< ((58 : Int32) &&& 0x3f).toInt64) - (1 : Int64)) = (288230376151711743 : Int64) := by decide
  rw [l1, l2]
  have b1 := Int64.le_toInt q; have b2 := Int64.toInt_lt q
  have b3 := Int64.le_toInt y; have b4 := Int64.toInt_lt y
  have b5 := Int32.le_toInt y.toInt32; have b6 := Int32.toInt_lt y.toInt32
  generalize (y.toInt32).toInt64 <<< ((58 : Int32) &&& 0x3f).toInt64 = z at *
  generalize (q &&& ((288230376151711743 : Int64) ^^^ (-1 : Int64))) = w at *
  have b7 := Int64.le_toInt z; have b8 := Int64.toInt_lt z
  have b9 := Int64.le_toInt w; have b10 := Int64.toInt_lt w
  simp only [Int32.lt_iff_toInt_lt, Int64.lt_iff_toInt_lt, ← Int64.toInt_inj, Int32.reduceToInt, Int64.reduceToInt] at *
  refine ⟨by omega, by omega, by omega⟩
theorem own_d7 (q : Int64) : own_ok q (7 : Int32) (57 : Int32) := by
  have e1 := c_lushr q (57 : Int32) 57 (by decide) (by decide)
  change (own_y q (57 : Int32)).toInt = _ at e1
  unfold own_ok
  generalize own_y q (57 : Int32) = y at *
  have e2 := c_l2i y
  have e3 := c_i2l y.toInt32
  have e4 := c_lshl (y.toInt32).toInt64 (57 : Int32) 57 (by decide)
  have e5 := own_split q (144115188075855871 : Int64)
  have e6 := c_maskL q (144115188075855871 : Int64) 57 (by decide) (by decide)
  have e7 := c_ladd (q &&& ((144115188075855871 : Int64) ^^^ (-1 : Int64))) (q &&& (144115188075855871 : Int64))
  rw [← e5] at e7
  have l1 : ((1 : Int64) <<< ((7 : Int32) &&& 0x3f).toInt64) = (128 : Int64) := by decide
  have l2 : (((1 : Int64) <<< ((57 : Int32) &&& 0x3f).toInt64) - (1 : Int64)) = (144115188075855871 : Int64) := by decide
  rw [l1, l2]
  have b1 := Int64.le_toInt q; have b2 := Int64.toInt_lt q
  have b3 := Int64.le_toInt y; have b4 := Int64.toInt_lt y
  have b5 := Int32.le_toInt y.toInt32; have b6 := Int32.toInt_lt y.toInt32
  generalize (y.toInt32).toInt64 <<< ((57 : Int32) &&& 0x3f).toInt64 = z at *
  generalize (q &&& ((144115188075855871 : Int64) ^^^ (-1 : Int64))) = w at *
  have b7 := Int64.le_toInt z; have b8 := Int64.toInt_lt z
  have b9 := Int64.le_toInt w; have b10 := Int64.toInt_lt w
  simp only [Int32.lt_iff_toInt_lt, Int64.lt_iff_toInt_lt, ← Int64.toInt_inj, Int32.reduceToInt, Int64.reduceToInt] at *
  refine ⟨by omega, by omega, by omega⟩
theorem own_d8 (q : Int64) : own_ok q (8 : Int32) (56 : Int32) := by
  have e1 := c_lushr q (56 : Int32) 56 (by decide) (by decide)
  change (own_y q (56 : Int32)).toInt = _ at e1
  unfold own_ok
  generalize own_y q (56 : Int32) = y at *
  have e2 := c_l2i y
  have e3 := c_i2l y.toInt32
  have e4 := c_lshl (y.toInt32).toInt64 (56 : Int32) 56 (by decide)
  have e5 := own_split q (72057594037927935 : Int64)
  have e6 := c_maskL q (72057594037927935 : Int64) 56 (by decide) (by decide)
  have e7 := c_ladd (q &&& ((72057594037927935 : Int64) ^^^ (-1 : Int64))) (q &&& (72057594037927935 : Int64))
  rw [← e5] at e7
  have l1 : ((1 : Int64) <<< ((8 : Int32) &&& 0x3f).toInt64) = (256 : Int64) := by decide
  have l2 : (((1 : Int64) <<< ((56 : Int32) &&& 0x3f).toInt64) - (1 : Int64)) = (72057594037927935 : Int64) := by decide
  rw [l1, l2]
  have b1 := Int64.le_toInt q; have b2 := Int64.toInt_lt q
  have b3 := Int64.le_toInt y; have b4 := Int64.toInt_lt y
  have b5 := Int32.le_toInt y.toInt32; have b6 := Int32.toInt_lt y.toInt32
  generalize (y.toInt32).toInt64 <<< ((56 : Int32) &&& 0x3f).toInt64 = z at *
  generalize (q &&& ((72057594037927935 : Int64) ^^^ (-1 : Int64))) = w at *
  have b7 := Int64.le_toInt z; have b8 := Int64.toInt_lt z
  have b9 := Int64.le_toInt w; have b10 := Int64.toInt_lt w
  simp only [Int32.lt_iff_toInt_lt, Int64.lt_iff_toInt_lt, ← Int64.toInt_inj, Int32.reduceToInt, Int64.reduceToInt] at *
  refine ⟨by omega, by omega, by omega⟩
theorem own_d9 (q : Int64) : own_ok q (9 : Int32) (55 : Int32) := by
  have e1 := c_lushr q (55 : Int32) 55 (by decide) (by decide)
  change (own_y q (55 : Int32)).toInt = _ at e1
  unfold own_ok
  generalize own_y q (55 : Int32) = y at *
  have e2 := c_l2i y
  have e3 := c_i2l y.toInt32
  have e4 := c_lshl (y.toInt32).toInt64 (55 : Int32) 55 (by decide)
  have e5 := own_split q (36028797018963967 : Int64)
  have e6 := c_maskL q (36028797018963967 : Int64) 55 (by decide) (by decide)
  have e7 := c_ladd (q &&& ((36028797018963967 : Int64) ^^^ (-1 : Int64))) (q &&& (36028797018963967 : Int64))
  rw [← e5] at e7
  have l1 : ((1 : Int64) <<< ((9 : Int32) &&& 0x3f).toInt64) = (512 : Int64) := by decide
  have l2 : (((1 : Int64) <<< ((55 : Int32) &&& 0x3f).toInt64) - (1 : Int64)) = (36028797018963967 : Int64) := by decide
  rw [l1, l2]
  have b1 := Int64.le_toInt q; have b2 := Int64.toInt_lt q
  have b3 := Int64.le_toInt y; have b4 := Int64.toInt_lt y
  have b5 := Int32.le_toInt y.toInt32; have b6 := Int32.toInt_lt y.toInt32
  generalize (y.toInt32).toInt64 <<< ((55 : Int32) &&& 0x3f).toInt64 = z at *
  generalize (q &&& ((36028797018963967 : Int64) ^^^ (-1 : Int64))) = w at *
  have b7 := Int64.le_toInt z; have b8 := Int64.toInt_lt z
  have b9 := Int64.le_toInt w; have b10 := Int64.toInt_lt w
  simp only [Int32.lt_iff_toInt_lt, Int64.lt_iff_toInt_lt, ← Int64.toInt_inj, Int32.reduceToInt, Int64.reduceToInt] at *
  refine ⟨by omega, by omega, by omega⟩
theorem own_d10 (q : Int64) : own_ok q (10 : Int32) (54 : Int32) := by
  have e1 := c_lushr q (54 : Int32) 54 (by decide) (by decide)
  change (own_y q (54 : Int32)).toInt = _ at e1
  unfold own_ok
  generalize own_y q (54 : Int32) = y at *
  have e2 := c_l2i y
  have e3 := c_i2l y.toInt32
  have e4 := c_lshl (y.toInt32).toInt64 (54 : Int32) 54 (by decide)
  have e5 := own_split q (18014398509481983 : Int64)
  have e6 := c_maskL q (18014398509481983 : Int64) 54 (by decide) (by decide)
  have e7 := c_ladd (q &&& ((18014398509481983 : Int64) ^^^ (-1 : Int64))) (q &&& (18014398509481983 : Int64))
  rw [← e5] at e7
  have l1 : ((1 : Int64) <<< ((10 : Int32) &&& 0x3f).toInt64) = (1024 : Int64) := by decide
  have l2 : (((1 : Int64) <<< ((54 : Int32) &&& 0x3f).toInt64) - (1 : Int64)) = (18014398509481983 : Int64) := by decide
  rw [l1, l2]
  have b1 := Int64.le_toInt q; have b2 := Int64.toInt_lt q
  have b3 := Int64.le_toInt y; have b4 := Int64.toInt_lt y
  have b5 := Int32.le_toInt y.toInt32; have b6 := Int32.toInt_lt y.toInt32
  generalize (y.toInt32).toInt64 <<< ((54 : Int32) &&& 0x3f).toInt64 = z at *
  generalize (q &&& ((18014398509481983 : Int64) ^^^ (-1 : Int64))) = w at *
  have b7 := Int64.le_toInt z; have b8 := Int64.toInt_lt z
  have b9 := Int64.le_toInt w; have b10 := Int64.toInt_lt w
  simp only [Int32.lt_iff_toInt_lt, Int64.lt_iff_toInt_lt, ← Int64.toInt_inj, Int32.reduceToInt, Int64.reduceToInt] at *
  refine ⟨by omega, by omega, by omega⟩
theorem own_d11 (q : Int64) : own_ok q (11 : Int32) (53 : Int32) := by
  have e1 := c_lushr q (53 : Int32) 53 (by decide) (by decide)
  change (own_y q (53 : Int32)).toInt = _ at e1
  unfold own_ok
  generalize own_y q (53 : Int32) = y at *
  have e2 := c_l2i y
  have e3 := c_i2l y.toInt32
  have e4 := c_lshl (y.toInt32).toInt64 (53 : Int32) 53 (by decide)
  have e5 := own_split q (9007199254740991 : Int64)
  have e6 := c_maskL q (9007199254740991 : Int64) 53 (by decide) (by decide)
  have e7 := c_ladd (q &&& ((9007199254740991 : Int64) ^^^ (-1 : Int64))) (q &&& (9007199254740991 : Int64))
  rw [← e5] at e7
  have l1 : ((1 : Int64) <<< ((11 : Int32) &&& 0x3f).toInt64) = (2048 : Int64) := by decide
  have l2 : (((1 : Int64) <<< ((53 : Int32) &&& 0x3f).toInt64) - (1 : Int64)) = (9007199254740991 : Int64) := by decide
  rw [l1, l2]
  have b1 := Int64.le_toInt q; have b2 := Int64.toInt_lt q
  have b3 := Int64.le_toInt y; have b4 := Int64.toInt_lt y
  have b5 := Int32.le_toInt y.toInt32; have b6 := Int32.toInt_lt y.toInt32
  generalize (y.toInt32).toInt64 <<< ((53 : Int32) &&& 0x3f).toInt64 = z at *
  generalize (q &&& ((9007199254740991 : Int64) ^^^ (-1 : Int64))) = w at *
  have b7 := Int64.le_toInt z; have b8 := Int64.toInt_lt z
  have b9 := Int64.le_toInt w; have b10 := Int64.toInt_lt w
  simp only [Int32.lt_iff_toInt_lt, Int64.lt_iff_toInt_lt, ← Int64.toInt_inj, Int32.reduceToInt, Int64.reduceToInt] at *
  refine ⟨by omega, by omega, by omega⟩
theorem own_d12 (q : Int64) : own_ok q (12 : Int32) (52 : Int32) := by
  have e1 := c_lushr q (52 : Int32) 52 (by decide) (by decide)
  change (own_y q (52 : Int32)).toInt = _ at e1
  unfold own_ok
  generalize own_y q (52 : Int32) = y at *
  have e2 := c_l2i y
  have e3 := c_i2l y.toInt32
  have e4 := c_lshl (y.toInt32).toInt64 (52 : Int32) 52 (by decide)
  have e5 := own_split q (4503599627370495 : Int64)
  have e6 := c_maskL q (4503599627370495 : Int64) 52 (by decide) (by decide)
  have e7 := c_ladd (q &&& ((4503599627370495 : Int64) ^^^ (-1 : Int64))) (q &&& (4503599627370495 : Int64))
  rw [← e5] at e7
  have l1 : ((1 : Int64) <<< ((12 : Int32) &&& 0x3f).toInt64) = (4096 : Int64) := by decide
  have l2 : (((1 : Int64) <<< ((52 : Int32) &&& 0x3f).toInt64) - (1 : Int64)) = (4503599627370495 : Int64) := by decide
  rw [l1, l2]
  have b1 := Int64.le_toInt q; have b2 := Int64.toInt_lt q
  have b3 := Int64.le_toInt y; have b4 := Int64.toInt_lt y
  have b5 := Int32.le_toInt y.toInt32; have b6 := Int32.toInt_lt y.toInt32
  generalize (y.toInt32).toInt64 <<< ((52 : Int32) &&& 0x3f).toInt64 = z at *
  generalize (q &&& ((4503599627370495 : Int64) ^^^ (-1 : Int64))) = w at *
  have b7 := Int64.le_toInt z; have b8 := Int64.toInt_lt z
  have b9 := Int64.le_toInt w; have b10 := Int64.toInt_lt w
  simp only [Int32.lt_iff_toInt_lt, Int64.lt_iff_toInt_lt, ← Int64.toInt_inj, Int32.reduceToInt, Int64.reduceToInt] at *
  refine ⟨by omega, by omega, by omega⟩
theorem own_d13 (q : Int64) : own_ok q (13 : Int32) (51 : Int32) := by
  have e1 := c_lushr q (51 : Int32) 51 (by decide) (by decide)
  change (own_y q (51 : Int32)).toInt = _ at e1
  unfold own_ok
  generalize own_y q (51 : Int32) = y at *
  have e2 := c_l2i y
  have e3 := c_i2l y.toInt32
  have e4 := c_lshl (y.toInt32).toInt64 (51 : Int32) 51 (by decide)
  have e5 := own_split q (2251799813685247 : Int64)
  have e6 := c_maskL q (2251799813685247 : Int64) 51 (by decide) (by decide)
  have e7 := c_ladd (q &&& ((2251799813685247 : Int64) ^^^ (-1 : Int64))) (q &&& (2251799813685247 : Int64))
  rw [← e5] at e7
  have l1 : ((1 : Int64) <<< ((13 : Int32) &&& 0x3f).toInt64) = (8192 : Int64) := by decide
  have l2 : (((1 : Int64) <<< ((51 : Int32) &&& 0x3f).toInt64) - (1 : Int64)) = (2251799813685247 : Int64) := by decide
  rw [l1, l2]
  have b1 := Int64.le_toInt q; have b2 := Int64.toInt_lt q
  have b3 := Int64.le_toInt y; have b4 := Int64.toInt_lt y
  have b5 := Int32.le_toInt y.toInt32; have b6 := Int32.toInt_lt y.toInt32
  generalize (y.toInt32).toInt64 <<< ((51 : Int32) &&& 0x3f).toInt64 = z at *
  generalize (q &&& ((2251799813685247 : Int64) ^^^ (-1 : Int64))) = w at *
  have b7 := Int64.le_toInt z; have b8 := Int64.toInt_lt z
  have b9 := Int64.le_toInt w; have b10 := Int64.toInt_lt w
  simp only [Int32.lt_iff_toInt_lt, Int64.lt_iff_toInt_lt, ← Int64.toInt_inj, Int32.reduceToInt, Int64.reduceToInt] at *
  refine ⟨by omega, by omega, by omega⟩
theorem own_d14 (q : Int64) : own_ok q (14 : Int32) (50 : Int32) := by
  have e1 := c_lushr q (50 : Int32) 50 (by decide) (by decide)
  change (own_y q (50 : Int32)).toInt = _ at e1
  unfold own_ok
  generalize own_y q (50 : Int32) = y at *
  have e2 := c_l2i y
  have e3 := c_i2l y.toInt32
  have e4 := c_lshl (y.toInt32).toInt64 (50 : Int32) 50 (by decide)
  have e5 := own_split q (1125899906842623 : Int64)
  have e6 := c_maskL q (1125899906842623 : Int64) 50 (by decide) (by decide)
  have e7 := c_ladd (q &&& ((1125899906842623 : Int64) ^^^ (-1 : Int64))) (q &&& (1125899906842623 : Int64))
  rw [← e5] at e7
  have l1 : ((1 : Int64) <<< ((14 : Int32) &&& 0x3f).toInt64) = (16384 : Int64) := by decide
  have l2 : (((1 : Int64) <<< ((50 : Int32) &&& 0x3f).toInt64) - (1 : Int64)) = (1125899906842623 : Int64) := by decide
  rw [l1, l2]
  have b1 := Int64.le_toInt q; have b2 := Int64.toInt_lt q
  have b3 := Int64.le_toInt y; have b4 := Int64.toInt_lt y
  have b5 := Int32.le_toInt y.toInt32; have b6 := Int32.toInt_lt y.toInt32
  generalize (y.toInt32).toInt64 <<< ((50 : Int32) &&& 0x3f).toInt64 = z at *
  generalize (q &&& ((1125899906842623 : Int64) ^^^ (-1 : Int64))) = w at *
  have b7 := Int64.le_toInt z; have b8 := Int64.toInt_lt z
  have b9 := Int64.le_toInt w; have b10 := Int64.toInt_lt w
  simp only [Int32.lt_iff_toInt_lt, Int64.lt_iff_toInt_lt, ← Int64.toInt_inj, Int32.reduceToInt, Int64.reduceToInt] at *
  refine ⟨by omega, by omega, by omega⟩
theorem own_d15 (q : Int64) : own_ok q (15 : Int32) (49 : Int32) := by
  have e1 := c_lushr q (49 : Int32) 49 (by decide) (by decide)
  change (own_y q (49 : Int32)).toInt = _ at e1
  unfold own_ok
  generalize own_y q (49 : Int32) = y at *
  have e2 := c_l2i y
  have e3 := c_i2l y.toInt32
  have e4 := c_lshl (y.toInt32).toInt64 (49 : Int32) 49 (by decide)
  have e5 := own_split q (562949953421311 : Int64)
  have e6 := c_maskL q (562949953421311 : Int64) 49 (by decide) (by decide)
  have e7 := c_ladd (q &&& ((562949953421311 : Int64) ^^^ (-1 : Int64))) (q &&& (562949953421311 : Int64))
  rw [← e5] at e7
  have l1 : ((1 : Int64) <<< ((15 : Int32) &&& 0x3f).toInt64) = (32768 : Int64) := by decide
  have l2 : (((1 : Int64) <<< ((49 : Int32) &&& 0x3f).toInt64) - (1 : Int64)) = (562949953421311 : Int64) := by decide
  rw [l1, l2]
  have b1 := Int64.le_toInt q; have b2 := Int64.toInt_lt q
  have b3 := Int64.le_toInt y; have b4 := Int64.toInt_lt y
  have b5 := Int32.le_toInt y.toInt32; have b6 := Int32.toInt_lt y.toInt32
  generalize (y.toInt32).toInt64 <<< ((49 : Int32) &&& 0x3f).toInt64 = z at *
  generalize (q &&& ((562949953421311 : Int64) ^^^ (-1 : Int64))) = w at *
  have b7 := Int64.le_toInt z; have b8 := Int64.toInt_lt z
  have b9 := Int64.le_toInt w; have b10 := Int64.toInt_lt w
  simp only [Int32.lt_iff_toInt_lt, Int64.lt_iff_toInt_lt, ← Int64.toInt_inj, Int32.reduceToInt, Int64.reduceToInt] at *
  refine ⟨by omega, by omega, by omega⟩
theorem own_d16 (q : Int64) : own_ok q (16 : Int32) (48 : Int32) := by
  have e1 := c_lushr q (48 : Int32) 48 (by decide) (by decide)
  change (own_y q (48 : Int32)).toInt = _ at e1
  unfold own_ok
  generalize own_y q (48 : Int32) = y at *
  have e2 := c_l2i y
  have e3 := c_i2l y.toInt32
  have e4 := c_lshl (y.toInt32).toInt64 (48 : Int32) 48 (by decide)
  have e5 := own_split q (281474976710655 : Int64)
  have e6 := c_maskL q (281474976710655 : Int64) 48 (by decide) (by decide)
  have e7 := c_ladd (q &&& ((281474976710655 : Int64) ^^^ (-1 : Int64))) (q &&& (281474976710655 : Int64))
  rw [← e5] at e7
  have l1 : ((1 : Int64) <<< ((16 : Int32) &&& 0x3f).toInt64) = (65536 : Int64) := by decide
  have l2 : (((1 : Int64) <<< ((48 : Int32) &&& 0x3f).toInt64) - (1 : Int64)) = (281474976710655 : Int64) := by decide
  rw [l1, l2]
  have b1 := Int64.le_toInt q; have b2 := Int64.toInt_lt q
  have b3 := Int64.le_toInt y; have b4 := Int64.toInt_lt y
  have b5 := Int32.le_toInt y.toInt32; have b6 := Int32.toInt_lt y.toInt32
  generalize (y.toInt32).toInt64 <<< ((48 : Int32) &&& 0x3f).toInt64 = z at *
  generalize (q &&& ((281474976710655 : Int64) ^^^ (-1 : Int64))) = w at *
  have b7 := Int64.le_toInt z; have b8 := Int64.toInt_lt z
  have b9 := Int64.le_toInt w; have b10 := Int64.toInt_lt w
  simp only [Int32.lt_iff_toInt_lt, Int64.lt_iff_toInt_lt, ← Int64.toInt_inj, Int32.reduceToInt, Int64.reduceToInt] at *
  refine ⟨by omega, by omega, by omega⟩
theorem own_d17 (q : Int64) : own_ok q (17 : Int32) (47 : Int32) := by
  have e1 := c_lushr q (47 : Int32) 47 (by decide) (by decide)
  change (own_y q (47 : Int32)).toInt = _ at e1
  unfold own_ok
  generalize own_y q (47 : Int32) = y at *
  have e2 := c_l2i y
  have e3 := c_i2l y.toInt32
  have e4 := c_lshl (y.toInt32).toInt64 (47 : Int32) 47 (by decide)
  have e5 := own_split q (140737488355327 : Int64)
  have e6 := c_maskL q (140737488355327 : Int64) 47 (by decide) (by decide)
  have e7 := c_ladd (q &&& ((140737488355327 : Int64) ^^^ (-1 : Int64))) (q &&& (140737488355327 : Int64))
  rw [← e5] at e7
  have l1 : ((1 : Int64) <<< ((17 : Int32) &&& 0x3f).toInt64) = (131072 : Int64) := by decide
  have l2 : (((1 : Int64) <<< ((47 : Int32) &&& 0x3f).toInt64) - (1 : Int64)) = (140737488355327 : Int64) := by decide
  rw [l1, l2]
  have b1 := Int64.le_toInt q; have b2 := Int64.toInt_lt q
  have b3 := Int64.le_toInt y; have b4 := Int64.toInt_lt y
  have b5 := Int32.le_toInt y.toInt32; have b6 := Int32.toInt_lt y.toInt32
  generalize (y.toInt32).toInt64 <<< ((47 : Int32) &&& 0x3f).toInt64 = z at *
  generalize (q &&& ((140737488355327 : Int64) ^^^ (-1 : Int64))) = w at *
  have b7 := Int64.le_toInt z; have b8 := Int64.toInt_lt z
  have b9 := Int64.le_toInt w; have b10 := Int64.toInt_lt w
  simp only [Int32.lt_iff_toInt_lt, Int64.lt_iff_toInt_lt, ← Int64.toInt_inj, Int32.reduceToInt, Int64.reduceToInt] at *
  refine ⟨by omega, by omega, by omega⟩
theorem own_d18 (q : Int64) : own_ok q (18 : Int32) (46 : Int32) := by
  have e1 := c_lushr q (46 : Int32) 46 (by decide) (by decide)
  change (own_y q (46 : Int32)).toInt = _ at e1
  unfold own_ok
  generalize own_y q (46 : Int32) = y at *
  have e2 := c_l2i y
  have e3 := c_i2l y.toInt32
  have e4 := c_lshl (y.toInt32).toInt64 (46 : Int32) 46 (by decide)
  have e5 := own_split q (70368744177663 : Int64)
  have e6 := c_maskL q (70368744177663 : Int64) 46 (by decide) (by decide)
  have e7 := c_ladd (q &&& ((70368744177663 : Int64) ^^^ (-1 : Int64))) (q &&& (70368744177663 : Int64))
  rw [← e5] at e7
  have l1 : ((1 : Int64) <<< ((18 : Int32) &&& 0x3f).toInt64) = (262144 : Int64) := by decide
  have l2 : (((1 : Int64) <<< ((46 : Int32) &&& 0x3f).toInt64) - (1 : Int64)) = (70368744177663 : Int64) := by decide
  rw [l1, l2]
  have b1 := Int64.le_toInt q; have b2 := Int64.toInt_lt q
  have b3 := Int64.le_toInt y; have b4 := Int64.toInt_lt y
  have b5 := Int32.le_toInt y.toInt32; have b6 := Int32.toInt_lt y.toInt32
  generalize (y.toInt32).toInt64 <<< ((46 : Int32) &&& 0x3f).toInt64 = z at *
  generalize (q &&& ((70368744177663 : Int64) ^^^ (-1 : Int64))) = w at *
  have b7 := Int64.le_toInt z; have b8 := Int64.toInt_lt z
  have b9 := Int64.le_toInt w; have b10 := Int64.toInt_lt w
  simp only [Int32.lt_iff_toInt_lt, Int64.lt_iff_toInt_lt, ← Int64.toInt_inj, Int32.reduceToInt, Int64.reduceToInt] at *
  refine ⟨by omega, by omega, by omega⟩
theorem own_d19 (q : Int64) : own_ok q (19 : Int32) (45 : Int32) := by
  have e1 := c_lushr q (45 : Int32) 45 (by decide) (by decide)
  change (own_y q (45 : Int32)).toInt = _ at e1
  unfold own_ok
  generalize own_y q (45 : Int32) = y at *
  have e2 := c_l2i y
  have e3 := c_i2l y.toInt32
  have e4 := c_lshl (y.toInt32).toInt64 (45 : Int32) 45 (by decide)
  have e5 := own_split q (35184372088831 : Int64)
  have e6 := c_maskL q (35184372088831 : Int64) 45 (by decide) (by decide)
  have e7 := c_ladd (q &&& ((35184372088831 : Int64) ^^^ (-1 : Int64))) (q &&& (35184372088831 : Int64))
  rw [← e5] at e7
  have l1 : ((1 : Int64) <<< ((19 : Int32) &&& 0x3f).toInt64) = (524288 : Int64) := by decide
  have l2 : (((1 : Int64) <<< ((45 : Int32) &&& 0x3f).toInt64) - (1 : Int64)) = (35184372088831 : Int64) := by decide
  rw [l1, l2]
  have b1 := Int64.le_toInt q; have b2 := Int64.toInt_lt q
  have b3 := Int64.le_toInt y; have b4 := Int64.toInt_lt y
  have b5 := Int32.le_toInt y.toInt32; have b6 := Int32.toInt_lt y.toInt32
  generalize (y.toInt32).toInt64 <<< ((45 : Int32) &&& 0x3f).toInt64 = z at *
  generalize (q &&& ((35184372088831 : Int64) ^^^ (-1 : Int64))) = w at *
  have b7 := Int64.le_toInt z; have b8 := Int64.toInt_lt z
  have b9 := Int64.le_toInt w; have b10 := Int64.toInt_lt w
  simp only [Int32.lt_iff_toInt_lt, Int64.lt_iff_toInt_lt, ← Int64.toInt_inj, Int32.reduceToInt, Int64.reduceToInt] at *
  refine ⟨by omega, by omega, by omega⟩
theorem own_d20 (q : Int64) : own_ok q (20 : Int32) (44 : Int32) := by
  have e1 := c_lushr q (44 : Int32) 44 (by decide) (by decide)
  change (own_y q (44 : Int32)).toInt = _ at e1
  unfold own_ok
  generalize own_y q (44 : Int32) = y at *
  have e2 := c_l2i y
  have e3 := c_i2l y.toInt32
  have e4 := c_lshl (y.toInt32).toInt64 (44 : Int32) 44 (by decide)
  have e5 := own_split q (17592186044415 : Int64)
  have e6 := c_maskL q (17592186044415 : Int64) 44 (by decide) (by decide)
  have e7 := c_ladd (q &&& ((17592186044415 : Int64) ^^^ (-1 : Int64))) (q &&& (17592186044415 : Int64))
  rw [← e5] at e7
  have l1 : ((1 : Int64) <<< ((20 : Int32) &&& 0x3f).toInt64) = (1048576 : Int64) := by decide
  have l2 : (((1 : Int64) <<< ((44 : Int32) &&& 0x3f).toInt64) - (1 : Int64)) = (17592186044415 : Int64) := by decide
  rw [l1, l2]
  have b1 := Int64.le_toInt q; have b2 := Int64.toInt_lt q
  have b3 := Int64.le_toInt y; have b4 := Int64.toInt_lt y
  have b5 := Int32.le_toInt y.toInt32; have b6 := Int32.toInt_lt y.toInt32
  generalize (y.toInt32).toInt64 <<< ((44 : Int32) &&& 0x3f).toInt64 = z at *
  generalize (q &&& ((17592186044415 : Int64) ^^^ (-1 : Int64))) = w at *
  have b7 := Int64.le_toInt z; have b8 := Int64.toInt_lt z
  have b9 := Int64.le_toInt w; have b10 := Int64.toInt_lt w
  simp only [Int32.lt_iff_toInt_lt, Int64.lt_iff_toInt_lt, ← Int64.toInt_inj, Int32.reduceToInt, Int64.reduceToInt] at *
  refine ⟨by omega, by omega, by omega⟩
theorem own_d21 (q : Int64) : own_ok q (21 : Int32) (43 : Int32) := by
  have e1 := c_lushr q (43 : Int32) 43 (by decide) (by decide)
  change (own_y q (43 : Int32)).toInt = _ at e1
  unfold own_ok
  generalize own_y q (43 : Int32) = y at *
  have e2 := c_l2i y
  have e3 := c_i2l y.toInt32
  have e4 := c_lshl (y.toInt32).toInt64 (43 : Int32) 43 (by decide)
  have e5 := own_split q (8796093022207 : Int64)
  have e6 := c_maskL q (8796093022207 : Int64) 43 (by decide) (by decide)
  have e7 := c_ladd (q &&& ((8796093022207 : Int64) ^^^ (-1 : Int64))) (q &&& (8796093022207 : Int64))
  rw [← e5] at e7
  have l1 : ((1 : Int64) <<< ((21 : Int32) &&& 0x3f).toInt64) = (2097152 : Int64) := by decide
  have l2 : (((1 : Int64) <<< ((43 : Int32) &&& 0x3f).toInt64) - (1 : Int64)) = (8796093022207 : Int64) := by decide
  rw [l1, l2]
  have b1 := Int64.le_toInt q; have b2 := Int64.toInt_lt q
  have b3 := Int64.le_toInt y; have b4 := Int64.toInt_lt y
  have b5 := Int32.le_toInt y.toInt32; have b6 := Int32.toInt_lt y.toInt32
  generalize (y.toInt32).toInt64 <<< ((43 : Int32) &&& 0x3f).toInt64 = z at *
  generalize (q &&& ((8796093022207 : Int64) ^^^ (-1 : Int64))) = w at *
  have b7 := Int64.le_toInt z; have b8 := Int64.toInt_lt z
  have b9 := Int64.le_toInt w; have b10 := Int64.toInt_lt w
  simp only [Int32.lt_iff_toInt_lt, Int64.lt_iff_toInt_lt, ← Int64.toInt_inj, Int32.reduceToInt, Int64.reduceToInt] at *
  refine ⟨by omega, by omega, by omega⟩
theorem own_d22 (q : Int64) : own_ok q (22 : Int32) (42 : Int32) := by
  have e1 := c_lushr q (42 : Int32) 42 (by decide) (by decide)
  change (own_y q (42 : Int32)).toInt = _ at e1
  unfold own_ok
  generalize own_y q (42 : Int32) = y at *
  have e2 := c_l2i y
  have e3 := c_i2l y.toInt32
  have e4 := c_lshl (y.toInt32).toInt64 (42 : Int32) 42 (by decide)
  have e5 := own_split q (4398046511103 : Int64)
  have e6 := c_maskL q (4398046511103 : Int64) 42 (by decide) (by decide)
  have e7 := c_ladd (q &&& ((4398046511103 : Int64) ^^^ (-1 : Int64))) (q &&& (4398046511103 : Int64))
  rw [← e5] at e7
  have l1 : ((1 : Int64) <<< ((22 : Int32) &&& 0x3f).toInt64) = (4194304 : Int64) := by decide
  have l2 : (((1 : Int64) <<< ((42 : Int32) &&& 0x3f).toInt64) - (1 : Int64)) = (4398046511103 : Int64) := by decide
  rw [l1, l2]
  have b1 := Int64.le_toInt q; have b2 := Int64.toInt_lt q
  have b3 := Int64.le_toInt y; have b4 := Int64.toInt_lt y
  have b5 := Int32.le_toInt y.toInt32; have b6 := Int32.toInt_lt y.toInt32
  generalize (y.toInt32).toInt64 <<< ((42 : Int32) &&& 0x3f).toInt64 = z at *
  generalize (q &&& ((4398046511103 : Int64) ^^^ (-1 : Int64))) = w at *
  have b7 := Int64.le_toInt z; have b8 := Int64.toInt_lt z
  have b9 := Int64.le_toInt w; have b10 := Int64.toInt_lt w
  simp only [Int32.lt_iff_toInt_lt, Int64.lt_iff_toInt_lt, ← Int64.toInt_inj, Int32.reduceToInt, Int64.reduceToInt] at *
  refine ⟨by omega, by omega, by omega⟩
theorem own_d23 (q : Int64) : own_ok q (23 : Int32) (41 : Int32) := by
  have e1 := c_lushr q (41 : Int32) 41 (by decide) (by decide)
  change (own_y q (41 : Int32)).toInt = _ at e1
  unfold own_ok
  generalize own_y q (41 : Int32) = y at *
  have e2 := c_l2i y
  have e3 := c_i2l y.toInt32
  have e4 := c_lshl (y.toInt32).toInt64 (41 : Int32) 41 (by decide)
  have e5 := own_split q (2199023255551 : Int64)
  have e6 := c_maskL q (2199023255551 : Int64) 41 (by decide) (by decide)
  have e7 := c_ladd (q &&& ((2199023255551 : Int64) ^^^ (-1 : Int64))) (q &&& (2199023255551 : Int64))
  rw [← e5] at e7
  have l1 : ((1 : Int64) <<< ((23 : Int32) &&& 0x3f).toInt64) = (8388608 : Int64) := by decide
  have l2 : (((1 : Int64) <<< ((41 : Int32) &&& 0x3f).toInt64) - (1 : Int64)) = (2199023255551 : Int64) := by decide
  rw [l1, l2]
  have b1 := Int64.le_toInt q; have b2 := Int64.toInt_lt q
  have b3 := Int64.le_toInt y; have b4 := Int64.toInt_lt y
  have b5 := Int32.le_toInt y.toInt32; have b6 := Int32.toInt_lt y.toInt32
  generalize (y.toInt32).toInt64 <<< ((41 : Int32) &&& 0x3f).toInt64 = z at *
  generalize (q &&& ((2199023255551 : Int64) ^^^ (-1 : Int64))) = w at *
  have b7 := Int64.le_toInt z; have b8 := Int64.toInt_lt z
  have b9 := Int64.le_toInt w; have b10 := Int64.toInt_lt w
  simp only [Int32.lt_iff_toInt_lt, Int64.lt_iff_toInt_lt, ← Int64.toInt_inj, Int32.reduceToInt, Int64.reduceToInt] at *
  refine ⟨by omega, by omega, by omega⟩
theorem own_d24 (q : Int64) : own_ok q (24 : Int32) (40 : Int32) := by
  have e1 := c_lushr q (40 : Int32) 40 (by decide) (by decide)
  change (own_y q (40 : Int32)).toInt = _ at e1
  unfold own_ok
  generalize own_y q (40 : Int32) = y at *
  have e2 := c_l2i y
  have e3 := c_i2l y.toInt32
  have e4 := c_lshl (y.toInt32).toInt64 (40 : Int32) 40 (by decide)
  have e5 := own_split q (1099511627775 : Int64)
  have e6 := c_maskL q (1099511627775 : Int64) 40 (by decide) (by decide)
  have e7 := c_ladd (q &&& ((1099511627775 : Int64) ^^^ (-1 : Int64))) (q &&& (1099511627775 : Int64))
  rw [← e5] at e7
  have l1 : ((1 : Int64) <<< ((24 : Int32) &&& 0x3f).toInt64) = (16777216 : Int64) := by decide
  have l2 : (((1 : Int64) <<< ((40 : Int32) &&& 0x3f).toInt64) - (1 : Int64)) = (1099511627775 : Int64) := by decide
  rw [l1, l2]
  have b1 := Int64.le_toInt q; have b2 := Int64.toInt_lt q
  have b3 := Int64.le_toInt y; have b4 := Int64.toInt_lt y
  have b5 := Int32.le_toInt y.toInt32; have b6 := Int32.toInt_lt y.toInt32
  generalize (y.toInt32).toInt64 <<< ((40 : Int32) &&& 0x3f).toInt64 = z at *
  generalize (q &&& ((1099511627775 : Int64) ^^^ (-1 : Int64))) = w at *
  have b7 := Int64.le_toInt z; have b8 := Int64.toInt_lt z
  have b9 := Int64.le_toInt w; have b10 := Int64.toInt_lt w
  simp only [Int32.lt_iff_toInt_lt, Int64.lt_iff_toInt_lt, ← Int64.toInt_inj, Int32.reduceToInt, Int64.reduceToInt] at *
  refine ⟨by omega, by omega, by omega⟩
theorem own_d25 (q : Int64) : own_ok q (25 : Int32) (39 : Int32) := by
  have e1 := c_lushr q (39 : Int32) 39 (by decide) (by decide)
  change (own_y q (39 : Int32)).toInt = _ at e1
  unfold own_ok
  generalize own_y q (39 : Int32) = y at *
  have e2 := c_l2i y
  have e3 := c_i2l y.toInt32
  have e4 := c_lshl (y.toInt32).toInt64 (39 : Int32) 39 (by decide)
  have e5 := own_split q (549755813887 : Int64)
  have e6 := c_maskL q (549755813887 : Int64) 39 (by decide) (by decide)
  have e7 := c_ladd (q &&& ((549755813887 : Int64) ^^^ (-1 : Int64))) (q &&& (549755813887 : Int64))
  rw [← e5] at e7
  have l1 : ((1 : Int64) <<< ((25 : Int32) &&& 0x3f).toInt64) = (33554432 : Int64) := by decide
  have l2 : (((1 : Int64) <<< ((39 : Int32) &&& 0x3f).toInt64) - (1 : Int64)) = (549755813887 : Int64) := by decide
  rw [l1, l2]
  have b1 := Int64.le_toInt q; have b2 := Int64.toInt_lt q
  have b3 := Int64.le_toInt y; have b4 := Int64.toInt_lt y
  have b5 := Int32.le_toInt y.toInt32; have b6 := Int32.toInt_lt y.toInt32
  generalize (y.toInt32).toInt64 <<< ((39 : Int32) &&& 0x3f).toInt64 = z at *
  generalize (q &&& ((549755813887 : Int64) ^^^ (-1 : Int64))) = w at *
  have b7 := Int64.le_toInt z; have b8 := Int64.toInt_lt z
  have b9 := Int64.le_toInt w; have b10 := Int64.toInt_lt w
  simp only [Int32.lt_iff_toInt_lt, Int64.lt_iff_toInt_lt, ← Int64.toInt_inj, Int32.reduceToInt, Int64.reduceToInt] at *
  refine ⟨by omega, by omega, by omega⟩
theorem own_d26 (q : Int64) : own_ok q (26 : Int32) (38 : Int32) := by
  have e1 := c_lushr q (38 : Int32) 38 (by decide) (by decide)
  change (own_y q (38 : Int32)).toInt = _ at e1
  unfold own_ok
  generalize own_y q (38 : Int32) = y at *
  have e2 := c_l2i y
  have e3 := c_i2l y.toInt32
  have e4 := c_lshl (y.toInt32).toInt64 (38 : Int32) 38 (by decide)
  have e5 := own_split q (274877906943 : Int64)
  have e6 := c_maskL q (274877906943 : Int64) 38 (by decide) (by decide)
  have e7 := c_ladd (q &&& ((274877906943 : Int64) ^^^ (-1 : Int64))) (q &&& (274877906943 : Int64))
  rw [← e5] at e7
  have l1 : ((1 : Int64) <<< ((26 : Int32) &&& 0x3f).toInt64) = (67108864 : Int64) := by decide
  have l2 : (((1 : Int64) <<< ((38 : Int32) &&& 0x3f).toInt64) - (1 : Int64)) = (274877906943 : Int64) := by decide
  rw [l1, l2]
  have b1 := Int64.le_toInt q; have b2 := Int64.toInt_lt q
  have b3 := Int64.le_toInt y; have b4 := Int64.toInt_lt y
  have b5 := Int32.le_toInt y.toInt32; have b6 := Int32.toInt_lt y.toInt32
  generalize (y.toInt32).toInt64 <<< ((38 : Int32) &&& 0x3f).toInt64 = z at *
  generalize (q &&& ((274877906943 : Int64) ^^^ (-1 : Int64))) = w at *
  have b7 := Int64.le_toInt z; have b8 := Int64.toInt_lt z
  have b9 := Int64.le_toInt w; have b10 := Int64.toInt_lt w
  simp only [Int32.lt_iff_toInt_lt, Int64.lt_iff_toInt_lt, ← Int64.toInt_inj, Int32.reduceToInt, Int64.reduceToInt] at *
  refine ⟨by omega, by omega, by omega⟩
theorem own_d27 (q : Int64) : own_ok q (27 : Int32) (37 : Int32) := by
  have e1 := c_lushr q (37 : Int32) 37 (by decide) (by decide)
  change (own_y q (37 : Int32)).toInt = _ at e1
  unfold own_ok
  generalize own_y q (37 : Int32) = y at *
  have e2 := c_l2i y
  have e3 := c_i2l y.toInt32
  have e4 := c_lshl (y.toInt32).toInt64 (37 : Int32) 37 (by decide)
  have e5 := own_split q (137438953471 : Int64)
  have e6 := c_maskL q (137438953471 : Int64) 37 (by decide) (by decide)
  have e7 := c_ladd (q &&& ((137438953471 : Int64) ^^^ (-1 : Int64))) (q &&& (137438953471 : Int64))
  rw [← e5] at e7
  have l1 : ((1 : Int64) <<< ((27 : Int32) &&& 0x3f).toInt64) = (134217728 : Int64) := by decide
  have l2 : (((1 : Int64) <<< ((37 : Int32) &&& 0x3f).toInt64) - (1 : Int64)) = (137438953471 : Int64) := by decide
  rw [l1, l2]
  have b1 := Int64.le_toInt q; have b2 := Int64.toInt_lt q
  have b3 := Int64.le_toInt y; have b4 := Int64.toInt_lt y
  have b5 := Int32.le_toInt y.toInt32; have b6 := Int32.toInt_lt y.toInt32
  generalize (y.toInt32).toInt64 <<< ((37 : Int32) &&& 0x3f).toInt64 = z at *
  generalize (q &&& ((137438953471 : Int64) ^^^ (-1 : Int64))) = w at *
  have b7 := Int64.le_toInt z; have b8 := Int64.toInt_lt z
  have b9 := Int64.le_toInt w; have b10 := Int64.toInt_lt w
  simp only [Int32.lt_iff_toInt_lt, Int64.lt_iff_toInt_lt, ← Int64.toInt_inj, Int32.reduceToInt, Int64.reduceToInt] at *
  refine ⟨by omega, by omega, by omega⟩
theorem own_d28 (q : Int64) : own_ok q (28 : Int32) (36 : Int32) := by
  have e1 := c_lushr q (36 : Int32) 36 (by decide) (by decide)
  change (own_y q (36 : Int32)).toInt = _ at e1
  unfold own_ok
  generalize own_y q (36 : Int32) = y at *
  have e2 := c_l2i y
  have e3 := c_i2l y.toInt32
  have e4 := c_lshl (y.toInt32).toInt64 (36 : Int32) 36 (by decide)
  have e5 := own_split q (68719476735 : Int64)
  have e6 := c_maskL q (68719476735 : Int64) 36 (by decide) (by decide)
  have e7 := c_ladd (q &&& ((68719476735 : Int64) ^^^ (-1 : Int64))) (q &&& (68719476735 : Int64))
  rw [← e5] at e7
  have l1 : ((1 : Int64) <<< ((28 : Int32) &&& 0x3f).toInt64) = (268435456 : Int64) := by decide
  have l2 : (((1 : Int64) <<< ((36 : Int32) &&& 0x3f).toInt64) - (1 : Int64)) = (68719476735 : Int64) := by decide
  rw [l1, l2]
  have b1 := Int64.le_toInt q; have b2 := Int64.toInt_lt q
  have b3 := Int64.le_toInt y; have b4 := Int64.toInt_lt y
  have b5 := Int32.le_toInt y.toInt32; have b6 := Int32.toInt_lt y.toInt32
  generalize (y.toInt32).toInt64 <<< ((36 : Int32) &&& 0x3f).toInt64 = z at *
  generalize (q &&& ((68719476735 : Int64) ^^^ (-1 : Int64))) = w at *
  have b7 := Int64.le_toInt z; have b8 := Int64.toInt_lt z
  have b9 := Int64.le_toInt w; have b10 := Int64.toInt_lt w
  simp only [Int32.lt_iff_toInt_lt, Int64.lt_iff_toInt_lt, ← Int64.toInt_inj, Int32.reduceToInt, Int64.reduceToInt] at *
  refine ⟨by omega, by omega, by omega⟩
theorem own_d29 (q : Int64) : own_ok q (29 : Int32) (35 : Int32) := by
  have e1 := c_lushr q (35 : Int32) 35 (by decide) (by decide)
  change (own_y q (35 : Int32)).toInt = _ at e1
  unfold own_ok
  generalize own_y q (35 : Int32) = y at *
  have e2 := c_l2i y
  have e3 := c_i2l y.toInt32
  have e4 := c_lshl (y.toInt32).toInt64 (35 : Int32) 35 (by decide)
  have e5 := own_split q (34359738367 : Int64)
  have e6 := c_maskL q (34359738367 : Int64) 35 (by decide) (by decide)
  have e7 := c_ladd (q &&& ((34359738367 : Int64) ^^^ (-1 : Int64))) (q &&& (34359738367 : Int64))
  rw [← e5] at e7
  have l1 : ((1 : Int64) <<< ((29 : Int32) &&& 0x3f).toInt64) = (536870912 : Int64) := by decide
  have l2 : (((1 : Int64) <<< ((35 : Int32) &&& 0x3f).toInt64) - (1 : Int64)) = (34359738367 : Int64) := by decide
  rw [l1, l2]
  have b1 := Int64.le_toInt q; have b2 := Int64.toInt_lt q
  have b3 := Int64.le_toInt y; have b4 := Int64.toInt_lt y
  have b5 := Int32.le_toInt y.toInt32; have b6 := Int32.toInt_lt y.toInt32
  generalize (y.toInt32).toInt64 <<< ((35 : Int32) &&& 0x3f).toInt64 = z at *
  generalize (q &&& ((34359738367 : Int64) ^^^ (-1 : Int64))) = w at *
  have b7 := Int64.le_toInt z; have b8 := Int64.toInt_lt z
  have b9 := Int64.le_toInt w; have b10 := Int64.toInt_lt w
  simp only [Int32.lt_iff_toInt_lt, Int64.lt_iff_toInt_lt, ← Int64.toInt_inj, Int32.reduceToInt, Int64.reduceToInt] at *
  refine ⟨by omega, by omega, by omega⟩
theorem own_d30 (q : Int64) : own_ok q (30 : Int32) (34 : Int32) := by
  have e1 := c_lushr q (34 : Int32) 34 (by decide) (by decide)
  change (own_y q (34 : Int32)).toInt = _ at e1
  unfold own_ok
  generalize own_y q (34 : Int32) = y at *
  have e2 := c_l2i y
  have e3 := c_i2l y.toInt32
  have e4 := c_lshl (y.toInt32).toInt64 (34 : Int32) 34 (by decide)
  have e5 := own_split q (17179869183 : Int64)
  have e6 := c_maskL q (17179869183 : Int64) 34 (by decide) (by decide)
  have e7 := c_ladd (q &&& ((17179869183 : Int64) ^^^ (-1 : Int64))) (q &&& (17179869183 : Int64))
  rw [← e5] at e7
  have l1 : ((1 : Int64) <<< ((30 : Int32) &&& 0x3f).toInt64) = (1073741824 : Int64) := by decide
  have l2 : (((1 : Int64) <<< ((34 : Int32) &&& 0x3f).toInt64) - (1 : Int64)) = (17179869183 : Int64) := by decide
  rw [l1, l2]
  have b1 := Int64.le_toInt q; have b2 := Int64.toInt_lt q
  have b3 := Int64.le_toInt y; have b4 := Int64.toInt_lt y
  have b5 := Int32.le_toInt y.toInt32; have b6 := Int32.toInt_lt y.toInt32
  generalize (y.toInt32).toInt64 <<< ((34 : Int32) &&& 0x3f).toInt64 = z at *
  generalize (q &&& ((17179869183 : Int64) ^^^ (-1 : Int64))) = w at *
  have b7 := Int64.le_toInt z; have b8 := Int64.toInt_lt z
  have b9 := Int64.le_toInt w; have b10 := Int64.toInt_lt w
  simp only [Int32.lt_iff_toInt_lt, Int64.lt_iff_toInt_lt, ← Int64.toInt_inj, Int32.reduceToInt, Int64.reduceToInt] at *
  refine ⟨by omega, by omega, by omega⟩
theorem own_d31 (q : Int64) : own_ok q (31 : Int32) (33 : Int32) := by
  have e1 := c_lushr q (33 : Int32) 33 (by decide) (by decide)
  change (own_y q (33 : Int32)).toInt = _ at e1
  unfold own_ok
  generalize own_y q (33 : Int32) = y at *
  have e2 := c_l2i y
  have e3 := c_i2l y.toInt32
  have e4 := c_lshl (y.toInt32).toInt64 (33 : Int32) 33 (by decide)
  have e5 := own_split q (8589934591 : Int64)
  have e6 := c_maskL q (8589934591 : Int64) 33 (by decide) (by decide)
  have e7 := c_ladd (q &&& ((8589934591 : Int64) ^^^ (-1 : Int64))) (q &&& (8589934591 : Int64))
  rw [← e5] at e7
  have l1 : ((1 : Int64) <<< ((31 : Int32) &&& 0x3f).toInt64) = (2147483648 : Int64) := by decide
  have l2 : (((1 : Int64) <<< ((33 : Int32) &&& 0x3f).toInt64) - (1 : Int64)) = (8589934591 : Int64) := by decide
  rw [l1, l2]
  have b1 := Int64.le_toInt q; have b2 := Int64.toInt_lt q
  have b3 := Int64.le_toInt y; have b4 := Int64.toInt_lt y
  have b5 := Int32.le_toInt y.toInt32; have b6 := Int32.toInt_lt y.toInt32
  generalize (y.toInt32).toInt64 <<< ((33 : Int32) &&& 0x3f).toInt64 = z at *
  generalize (q &&& ((8589934591 : Int64) ^^^ (-1 : Int64))) = w at *
  have b7 := Int64.le_toInt z; have b8 := Int64.toInt_lt z
  have b9 := Int64.le_toInt w; have b10 := Int64.toInt_lt w
  simp only [Int32.lt_iff_toInt_lt, Int64.lt_iff_toInt_lt, ← Int64.toInt_inj, Int32.reduceToInt, Int64.reduceToInt] at *
  refine ⟨by omega, by omega, by omega⟩
theorem own_all (q : Int64) (d k : Int32) (hd : d = (1 : Int32) ∨ d = (2 : Int32) ∨ d = (3 : Int32) ∨ d = (4 : Int32) ∨ d = (5 : Int32) ∨ d = (6 : Int32) ∨ d = (7 : Int32) ∨ d = (8 : Int32) ∨ d = (9 : Int32) ∨ d = (10 : Int32) ∨ d = (11 : Int32) ∨ d = (12 : Int32) ∨ d = (13 : Int32) ∨ d = (14 : Int32) ∨ d = (15 : Int32) ∨ d = (16 : Int32) ∨ d = (17 : Int32) ∨ d = (18 : Int32) ∨ d = (19 : Int32) ∨ d = (20 : Int32) ∨ d = (21 : Int32) ∨ d = (22 : Int32) ∨ d = (23 : Int32) ∨ d = (24 : Int32) ∨ d = (25 : Int32) ∨ d = (26 : Int32) ∨ d = (27 : Int32) ∨ d = (28 : Int32) ∨ d = (29 : Int32) ∨ d = (30 : Int32) ∨ d = (31 : Int32)) (hk : k = (64 : Int32) - d) : own_ok q d k := by
  subst hk
  rcases hd with rfl | rfl | rfl | rfl | rfl | rfl | rfl | rfl | rfl | rfl | rfl | rfl | rfl | rfl | rfl | rfl | rfl | rfl | rfl | rfl | rfl | rfl | rfl | rfl | rfl | rfl | rfl | rfl | rfl | rfl | rfl
  · exact own_d1 q
  · exact own_d2 q
  · exact own_d3 q
  · exact own_d4 q
  · exact own_d5 q
  · exact own_d6 q
  · exact own_d7 q
  · exact own_d8 q
  · exact own_d9 q
  · exact own_d10 q
  · exact own_d11 q
  · exact own_d12 q
  · exact own_d13 q
  · exact own_d14 q
  · exact own_d15 q
  · exact own_d16 q
  · exact own_d17 q
  · exact own_d18 q
  · exact own_d19 q
  · exact own_d20 q
  · exact own_d21 q
  · exact own_d22 q
  · exact own_d23 q
  · exact own_d24 q
  · exact own_d25 q
  · exact own_d26 q
  · exact own_d27 q
  · exact own_d28 q
  · exact own_d29 q
  · exact own_d30 q
  · exact own_d31 q
theorem own_pd0 : parseMethodDescriptor "(JI)I" = some ⟨[.long, .int], some .int⟩ := by decide +kernel
set_option maxRecDepth 65536 in
set_option maxHeartbeats 40000000 in
theorem own_leaf0_2 (q0 : Int64) (p1 : Int32) (v3 : Int32) (hv3 : v3 = (p1 &&& (31 : Int32))) (v7 : Int32) (hv7 : v7 = (own_f1 q0 v3)) (hc9 : v3 = (0 : Int32)) (hc11 : ¬ (v7 = (0 : Int32))) : False := by
  have := own_f1_cases q0 v3
  have := c_mask p1 (31 : Int32) 5 (by decide) (by decide)
  have := Int32.le_toInt ((p1 &&& (31 : Int32))); have := Int32.toInt_lt ((p1 &&& (31 : Int32)))
  have := c_isub (64 : Int32) v3
  have := Int32.le_toInt (((64 : Int32) - v3)); have := Int32.toInt_lt (((64 : Int32) - v3))
  have := Int64.le_toInt (((q0.toUInt64 >>> (((64 : Int32) - v3) &&& 0x3f).toInt64.toUInt64).toInt64)); have := Int64.toInt_lt (((q0.toUInt64 >>> (((64 : Int32) - v3) &&& 0x3f).toInt64.toUInt64).toInt64))
  have := c_l2i ((q0.toUInt64 >>> (((64 : Int32) - v3) &&& 0x3f).toInt64.toUInt64).toInt64)
  have := Int32.le_toInt ((((q0.toUInt64 >>> (((64 : Int32) - v3) &&& 0x3f).toInt64.toUInt64).toInt64).toInt32)); have := Int32.toInt_lt ((((q0.toUInt64 >>> (((64 : Int32) - v3) &&& 0x3f).toInt64.toUInt64).toInt64).toInt32))
  have := Int64.le_toInt q0; have := Int64.toInt_lt q0
  have := Int32.le_toInt p1; have := Int32.toInt_lt p1
  have := Int32.le_toInt v3; have := Int32.toInt_lt v3
  have := Int32.le_toInt v7; have := Int32.toInt_lt v7
  simp only [Int32.lt_iff_toInt_lt, Int64.lt_iff_toInt_lt, ← Int32.toInt_inj, ← Int64.toInt_inj, Int32.reduceToInt, Int64.reduceToInt] at *
  all_goals omega
set_option maxRecDepth 65536 in
set_option maxHeartbeats 40000000 in
theorem own_leaf0_3 (q0 : Int64) (p1 : Int32) (v3 : Int32) (hv3 : v3 = (p1 &&& (31 : Int32))) (v7 : Int32) (hv7 : v7 = (own_f1 q0 v3)) (hc9 : ¬ (v3 = (0 : Int32))) (hc13 : v7 < (0 : Int32)) : False := by
  have m1 := c_mask p1 (31 : Int32) 5 (by decide) (by decide)
  have hd : v3 = (1 : Int32) ∨ v3 = (2 : Int32) ∨ v3 = (3 : Int32) ∨ v3 = (4 : Int32) ∨ v3 = (5 : Int32) ∨ v3 = (6 : Int32) ∨ v3 = (7 : Int32) ∨ v3 = (8 : Int32) ∨ v3 = (9 : Int32) ∨ v3 = (10 : Int32) ∨ v3 = (11 : Int32) ∨ v3 = (12 : Int32) ∨ v3 = (13 : Int32) ∨ v3 = (14 : Int32) ∨ v3 = (15 : Int32) ∨ v3 = (16 : Int32) ∨ v3 = (17 : Int32) ∨ v3 = (18 : Int32) ∨ v3 = (19 : Int32) ∨ v3 = (20 : Int32) ∨ v3 = (21 : Int32) ∨ v3 = (22 : Int32) ∨ v3 = (23 : Int32) ∨ v3 = (24 : Int32) ∨ v3 = (25 : Int32) ∨ v3 = (26 : Int32) ∨ v3 = (27 : Int32) ∨ v3 = (28 : Int32) ∨ v3 = (29 : Int32) ∨ v3 = (30 : Int32) ∨ v3 = (31 : Int32) := by
    simp only [← Int32.toInt_inj, Int32.reduceToInt, hv3] at *
    omega
  obtain ⟨k1, k2, k3⟩ := own_all q0 v3 _ hd rfl
  have ei : v7 = (own_y q0 ((64 : Int32) - v3)).toInt32 := by rw [hv7]; unfold own_f1; rw [if_neg hc9]; rfl
  rw [← ei] at k1 k2 k3
  exact k1 hc13
set_option maxRecDepth 65536 in
set_option maxHeartbeats 40000000 in
theorem own_leaf0_5 (q0 : Int64) (p1 : Int32) (v3 : Int32) (hv3 : v3 = (p1 &&& (31 : Int32))) (v7 : Int32) (hv7 : v7 = (own_f1 q0 v3)) (hc9 : ¬ (v3 = (0 : Int32))) (hc13 : ¬ (v7 < (0 : Int32))) (hc15 : (v7.toInt64) < ((1 : Int64) <<< (v3 &&& 0x3f).toInt64)) (v16 : Int64) (hv16 : v16 = (((1 : Int64) <<< (((64 : Int32) - v3) &&& 0x3f).toInt64) - (1 : Int64))) (hc18 : ¬ (((v7.toInt64) <<< (((64 : Int32) - v3) &&& 0x3f).toInt64) = (q0 &&& (v16 ^^^ (-1 : Int64))))) : False := by
  have m1 := c_mask p1 (31 : Int32) 5 (by decide) (by decide)
  have hd : v3 = (1 : Int32) ∨ v3 = (2 : Int32) ∨ v3 = (3 : Int32) ∨ v3 = (4 : Int32) ∨ v3 = (5 : Int32) ∨ v3 = (6 : Int32) ∨ v3 = (7 : Int32) ∨ v3 = (8 : Int32) ∨ v3 = (9 : Int32) ∨ v3 = (10 : Int32) ∨ v3 = (11 : Int32) ∨ v3 = (12 : Int32) ∨ v3 = (13 : Int32) ∨ v3 = (14 : Int32) ∨ v3 = (15 : Int32) ∨ v3 = (16 : Int32) ∨ v3 = (17 : Int32) ∨ v3 = (18 : Int32) ∨ v3 = (19 : Int32) ∨ v3 = (20 : Int32) ∨ v3 = (21 : Int32) ∨ v3 = (22 : Int32) ∨ v3 = (23 : Int32) ∨ v3 = (24 : Int32) ∨ v3 = (25 : Int32) ∨ v3 = (26 : Int32) ∨ v3 = (27 : Int32) ∨ v3 = (28 : Int32) ∨ v3 = (29 : Int32) ∨ v3 = (30 : Int32) ∨ v3 = (31 : Int32) := by
    simp only [← Int32.toInt_inj, Int32.reduceToInt, hv3] at *
    omega
  obtain ⟨k1, k2, k3⟩ := own_all q0 v3 _ hd rfl
  have ei : v7 = (own_y q0 ((64 : Int32) - v3)).toInt32 := by rw [hv7]; unfold own_f1; rw [if_neg hc9]; rfl
  rw [← ei] at k1 k2 k3
  rw [← hv16] at k3
  exact hc18 k3
set_option maxRecDepth 65536 in
set_option maxHeartbeats 40000000 in
theorem own_leaf0_6 (q0 : Int64) (p1 : Int32) (v3 : Int32) (hv3 : v3 = (p1 &&& (31 : Int32))) (v7 : Int32) (hv7 : v7 = (own_f1 q0 v3)) (hc9 : ¬ (v3 = (0 : Int32))) (hc13 : ¬ (v7 < (0 : Int32))) (hc15 : ¬ ((v7.toInt64) < ((1 : Int64) <<< (v3 &&& 0x3f).toInt64))) : False := by
  have m1 := c_mask p1 (31 : Int32) 5 (by decide) (by decide)
  have hd : v3 = (1 : Int32) ∨ v3 = (2 : Int32) ∨ v3 = (3 : Int32) ∨ v3 = (4 : Int32) ∨ v3 = (5 : Int32) ∨ v3 = (6 : Int32) ∨ v3 = (7 : Int32) ∨ v3 = (8 : Int32) ∨ v3 = (9 : Int32) ∨ v3 = (10 : Int32) ∨ v3 = (11 : Int32) ∨ v3 = (12 : Int32) ∨ v3 = (13 : Int32) ∨ v3 = (14 : Int32) ∨ v3 = (15 : Int32) ∨ v3 = (16 : Int32) ∨ v3 = (17 : Int32) ∨ v3 = (18 : Int32) ∨ v3 = (19 : Int32) ∨ v3 = (20 : Int32) ∨ v3 = (21 : Int32) ∨ v3 = (22 : Int32) ∨ v3 = (23 : Int32) ∨ v3 = (24 : Int32) ∨ v3 = (25 : Int32) ∨ v3 = (26 : Int32) ∨ v3 = (27 : Int32) ∨ v3 = (28 : Int32) ∨ v3 = (29 : Int32) ∨ v3 = (30 : Int32) ∨ v3 = (31 : Int32) := by
    simp only [← Int32.toInt_inj, Int32.reduceToInt, hv3] at *
    omega
  obtain ⟨k1, k2, k3⟩ := own_all q0 v3 _ hd rfl
  have ei : v7 = (own_y q0 ((64 : Int32) - v3)).toInt32 := by rw [hv7]; unfold own_f1; rw [if_neg hc9]; rfl
  rw [← ei] at k1 k2 k3
  exact hc15 k2
theorem own_pn12 : plainName "com/example/syncline/syncline/store/RecordTreeIndexOfPinLaw" = true := by first | (simp [plainName, overriddenIn]; done) | decide +kernel
theorem own_ef0 (m : MethodId) (q0 : Int64) (p1 : Int32) : entryFrame m #[(.long q0), (.int p1)] maxLocals = mkF m 0 #[.val (.long q0), .second, .val (.int p1), .unset, .unset, .unset, .unset] [] := by first | (simp [entryFrame, mkF, argsToLocals, Value.category, maxLocals]; done) | rfl
def own_Q0 (Z : State) (q0 : Int64) (p1 : Int32) (h0 : Heap) (n0 : Nat) (v : Option Value) (h : Heap) (L : List Loc) : Prop := v = some (.int 1) ∧ Fr n0 L
set_option maxRecDepth 65536 in
set_option maxHeartbeats 40000000 in
theorem own_rm0 (l : Launch) (Z : State) (av : Array Value) (hw : ∀ d ∈ tables_1, d.before av Z = true) (ws : List Jvm.Cond) (q0 : Int64) (p1 : Int32) (h0 : Heap) (n0 : Nat) (Z0 : n0 ≤ h0.size) :
    MetFree l x (head1 (Jvm.Cond.code x code maxLocals ret :: ws) room_1) (fun a U => a = #[(.long q0), (.int p1)] ∧ Z.Warmed39 U.vm ∧ U.heap = h0) (fun _ _ _ _ _ => True) (fun _ U o U' => ∃ v L, o = .returned v ∧ own_Q0 Z q0 p1 h0 n0 v U'.heap L ∧ FrameEnd U o U' L room_1.cells room_1.slots) := by
  refine MetFree.of_bodySF (plainFor_of_name own_pn12) hisR ?_
  intro p e s m args below meth c s₁ Bd hml0 hP hK
  obtain ⟨rfl, hZ, hh⟩ := hP
  have hx := Bd.exec
  have hby := Bd.bytes
  have hml : c.maxLocals = 7 := hml0
  have hown : s.vm.findClass "com/example/syncline/syncline/store/RecordTreeIndexOfPinLaw" = some m.cls := findClass_of_methodNamed Bd.named
  have hnm := (name_of_methodNamed Bd.named Bd.method).1
  have X0 : Stand p l e room_1 s m #[(.long q0), (.int p1)] below meth c s₁ [] 0 0 := Stand.of_body Bd
  have e0 : s₁.heap = h0 := by rw [← hh, Bd.state]; rfl
  have N0 := Fr.nil n0
  have pre0 : ∀ t, Steps p.tables e below (s₁.setTop (mkF m 0 #[.val (.long q0), .second, .val (.int p1), .unset, .unset, .unset, .unset] [])) t → Steps p.tables e below (s₁.setTop (entryFrame m #[(.long q0), (.int p1)] maxLocals)) t := fun t k => castTop (own_ef0 m q0 p1) k
  obtain ⟨v3, hv3⟩ : ∃ z : Int32, z = (p1 &&& (31 : Int32)) := ⟨_, rfl⟩
  obtain ⟨_, _, ⟨T4, L4, k4, n4⟩, -, X4, ⟨Lc4, hQ4, l4, y4, z4⟩, st4⟩ := Jvm.LawKit.callS X0 hx (y := (⟨"com/example/syncline/syncline/store/RecordTree", "indexOf", "(JI)I"⟩ : MethodName)) hown (mvT hZ (hw _ (List.mem_of_getElem? (i := 0) rfl))) (mvT hZ (hw _ (List.mem_of_getElem? (i := 1) rfl))) (mvT hZ (hw _ (List.mem_of_getElem? (i := 2) rfl))) (mvT hZ (hw _ (List.mem_of_getElem? (i := 3) rfl))) (by decide) (backOf (W := 0) (own_rm1 l Z av hw [] q0 v3 h0 n0 Z0 ) hZ (hw _ (List.mem_of_getElem? (i := 3) rfl)) (hw _ (List.mem_of_getElem? (i := 2) rfl)) (by decide) (by decide)) (g := (mkF m 7 #[.val (.long q0), .second, .val (.int p1), .val (.int v3), .unset, .unset, .unset] [(.int v3), (.long q0)])) rfl (by rw [hml]; rfl) (argsL := [(.long q0), (.int v3)]) (rest := []) (lenOf own_pd0 rfl) rfl (by show 2 * 0 + _ ≤ _; exact Nat.le_of_eq rfl) (hb hby at_7) (fun _ _ => ⟨rfl, e0, (by decide : 0 + 0 ≤ _), (by decide : 0 + 0 ≤ _)⟩)
  dsimp only [Pt.U, Pt.locs, Pt.cells, Pt.slots] at X4 l4 y4 z4 st4 hQ4
  subst l4 y4 z4
  obtain ⟨rfl, N4q, e6⟩ := hQ4
  have N5 := Fr.app N0 N4q
  obtain ⟨v7, hv7⟩ : ∃ z : Int32, z = (own_f1 q0 v3) := ⟨_, rfl⟩
  have pre8 : ∀ t, Steps p.tables e below (T4.setTop (mkF m 13 #[.val (.long q0), .second, .val (.int p1), .val (.int v3), .val (.int v7), .unset, .unset] [(.int v3)])) t → Steps p.tables e below (s₁.setTop (entryFrame m #[(.long q0), (.int p1)] maxLocals)) t := fun t kk => pre0 t (by
    show Steps p.tables e below (s₁.setTop (mkF m 0 #[.val (.long q0), .second, .val (.int p1), .unset, .unset, .unset, .unset] [])) _
    refine XS.iloadN X0.here hx rfl (hb hby at_0) rfl ?_
    show Steps p.tables e below (s₁.setTop (mkF m 1 #[.val (.long q0), .second, .val (.int p1), .unset, .unset, .unset, .unset] [(.int p1)])) _
    refine XS.bipush X0.here hx rfl (hb hby at_1) ?_
    show Steps p.tables e below (s₁.setTop (mkF m 3 #[.val (.long q0), .second, .val (.int p1), .unset, .unset, .unset, .unset] [(.int (31 : Int32)), (.int p1)])) _
    refine XS.iand X0.here hx rfl (hb hby at_3) rfl ?_
    show Steps p.tables e below (s₁.setTop (mkF m 4 #[.val (.long q0), .second, .val (.int p1), .unset, .unset, .unset, .unset] [(.int (p1 &&& (31 : Int32)))])) _
    refine castTop (congrArg (fun z : Int32 => mkF m 4 #[.val (.long q0), .second, .val (.int p1), .unset, .unset, .unset, .unset] [(.int z)]) hv3.symm) ?_
    show Steps p.tables e below (s₁.setTop (mkF m 4 #[.val (.long q0), .second, .val (.int p1), .unset, .unset, .unset, .unset] [(.int v3)])) _
    refine XS.istoreN X0.here hx rfl (hb hby at_4) rfl (l' := #[.val (.long q0), .second, .val (.int p1), .val (.int v3), .unset, .unset, .unset]) rfl ?_
    show Steps p.tables e below (s₁.setTop (mkF m 5 #[.val (.long q0), .second, .val (.int p1), .val (.int v3), .unset, .unset, .unset] [])) _
    refine XS.lloadN X0.here hx rfl (hb hby at_5) rfl ?_
    show Steps p.tables e below (s₁.setTop (mkF m 6 #[.val (.long q0), .second, .val (.int p1), .val (.int v3), .unset, .unset, .unset] [(.long q0)])) _
    refine XS.iloadN X0.here hx rfl (hb hby at_6) rfl ?_
    show Steps p.tables e below (s₁.setTop (mkF m 7 #[.val (.long q0), .second, .val (.int p1), .val (.int v3), .unset, .unset, .unset] [(.int v3), (.long q0)])) _
    refine st4 _ ?_
    show Steps p.tables e below (T4.setTop (mkF m 10 #[.val (.long q0), .second, .val (.int p1), .val (.int v3), .unset, .unset, .unset] [(.int (own_f1 q0 v3))])) _
    refine castTop (congrArg (fun z : Int32 => mkF m 10 #[.val (.long q0), .second, .val (.int p1), .val (.int v3), .unset, .unset, .unset] [(.int z)]) hv7.symm) ?_
    show Steps p.tables e below (T4.setTop (mkF m 10 #[.val (.long q0), .second, .val (.int p1), .val (.int v3), .unset, .unset, .unset] [(.int v7)])) _
    refine XS.istore X4.here hx rfl (hb hby at_10) rfl (l' := #[.val (.long q0), .second, .val (.int p1), .val (.int v3), .val (.int v7), .unset, .unset]) rfl ?_
    show Steps p.tables e below (T4.setTop (mkF m 12 #[.val (.long q0), .second, .val (.int p1), .val (.int v3), .val (.int v7), .unset, .unset] [])) _
    refine XS.iloadN X4.here hx rfl (hb hby at_12) rfl ?_
    show Steps p.tables e below (T4.setTop (mkF m 13 #[.val (.long q0), .second, .val (.int p1), .val (.int v3), .val (.int v7), .unset, .unset] [(.int v3)])) _
    exact kk)
  by_cases hc9 : v3 = (0 : Int32)
  · have pre10 : ∀ t, Steps p.tables e below (T4.setTop (mkF m 18 #[.val (.long q0), .second, .val (.int p1), .val (.int v3), .val (.int v7), .unset, .unset] [(.int v7)])) t → Steps p.tables e below (s₁.setTop (entryFrame m #[(.long q0), (.int p1)] maxLocals)) t := fun t kk => pre8 t (by
      show Steps p.tables e below (T4.setTop (mkF m 13 #[.val (.long q0), .second, .val (.int p1), .val (.int v3), .val (.int v7), .unset, .unset] [(.int v3)])) _
      refine XS.ifNo X4.here hx rfl (hb hby at_13) rfl ((if0 _ _).trans (teq hc9).2) ?_
      show Steps p.tables e below (T4.setTop (mkF m 16 #[.val (.long q0), .second, .val (.int p1), .val (.int v3), .val (.int v7), .unset, .unset] [])) _
      refine XS.iload X4.here hx rfl (hb hby at_16) rfl ?_
      show Steps p.tables e below (T4.setTop (mkF m 18 #[.val (.long q0), .second, .val (.int p1), .val (.int v3), .val (.int v7), .unset, .unset] [(.int v7)])) _
      exact kk)
    by_cases hc11 : v7 = (0 : Int32)
    · obtain ⟨fs, hr, hrun, hended, hW, hsame⟩ := X4.leave (v := some (.int (1 : Int32))) (fun h => by rw [Bd.returns] at h; cases h)
      refine ⟨_, _, pre10 _ ?_, hrun, hended, _, _, rfl, ?_, ⟨_, rfl⟩, hW, hsame.mono (by decide) (by decide)⟩
      · show Steps p.tables e below (T4.setTop (mkF m 18 #[.val (.long q0), .second, .val (.int p1), .val (.int v3), .val (.int v7), .unset, .unset] [(.int v7)])) _
        refine XS.ifNo X4.here hx rfl (hb hby at_18) rfl ((if0 _ _).trans (teq hc11).2) ?_
        show Steps p.tables e below (T4.setTop (mkF m 21 #[.val (.long q0), .second, .val (.int p1), .val (.int v3), .val (.int v7), .unset, .unset] [])) _
        refine XS.iconst X4.here hx rfl (hb hby at_21) ?_
        show Steps p.tables e below (T4.setTop (mkF m 22 #[.val (.long q0), .second, .val (.int p1), .val (.int v3), .val (.int v7), .unset, .unset] [(.int (1 : Int32))])) _
        refine XS.goto X4.here hx rfl (pc0 := 22) (pc' := 26) rfl (hb hby at_22) (by decide) (by decide) ?_
        show Steps p.tables e below (T4.setTop (mkF m 26 #[.val (.long q0), .second, .val (.int p1), .val (.int v3), .val (.int v7), .unset, .unset] [(.int (1 : Int32))])) _
        exact retN X4 hx (t := .boolean) Bd.returns (by simp) (hb hby at_26) hr
      · show own_Q0 Z q0 p1 h0 n0 _ T4.heap _
        rw [e6]
        exact ⟨rfl, N5⟩
    · exact (own_leaf0_2 q0 p1 v3 hv3 v7 hv7 hc9 hc11).elim
  · have pre12 : ∀ t, Steps p.tables e below (T4.setTop (mkF m 29 #[.val (.long q0), .second, .val (.int p1), .val (.int v3), .val (.int v7), .unset, .unset] [(.int v7)])) t → Steps p.tables e below (s₁.setTop (entryFrame m #[(.long q0), (.int p1)] maxLocals)) t := fun t kk => pre8 t (by
      show Steps p.tables e below (T4.setTop (mkF m 13 #[.val (.long q0), .second, .val (.int p1), .val (.int v3), .val (.int v7), .unset, .unset] [(.int v3)])) _
      refine XS.ifYes X4.here hx rfl (pc0 := 13) (pc' := 27) rfl (hb hby at_13) rfl ((if0 _ _).trans (feq hc9).2) (by decide) (by decide) ?_
      show Steps p.tables e below (T4.setTop (mkF m 27 #[.val (.long q0), .second, .val (.int p1), .val (.int v3), .val (.int v7), .unset, .unset] [])) _
      refine XS.iload X4.here hx rfl (hb hby at_27) rfl ?_
      show Steps p.tables e below (T4.setTop (mkF m 29 #[.val (.long q0), .second, .val (.int p1), .val (.int v3), .val (.int v7), .unset, .unset] [(.int v7)])) _
      exact kk)
    by_cases hc13 : v7 < (0 : Int32)
    · exact (own_leaf0_3 q0 p1 v3 hv3 v7 hv7 hc9 hc13).elim
    · have pre14 : ∀ t, Steps p.tables e below (T4.setTop (mkF m 39 #[.val (.long q0), .second, .val (.int p1), .val (.int v3), .val (.int v7), .unset, .unset] [(.int (lcmpW (v7.toInt64) ((1 : Int64) <<< (v3 &&& 0x3f).toInt64)))])) t → Steps p.tables e below (s₁.setTop (entryFrame m #[(.long q0), (.int p1)] maxLocals)) t := fun t kk => pre12 t (by
        show Steps p.tables e below (T4.setTop (mkF m 29 #[.val (.long q0), .second, .val (.int p1), .val (.int v3), .val (.int v7), .unset, .unset] [(.int v7)])) _
        refine XS.ifNo X4.here hx rfl (hb hby at_29) rfl ((if0 _ _).trans (flt hc13).1) ?_
        show Steps p.tables e below (T4.setTop (mkF m 32 #[.val (.long q0), .second, .val (.int p1), .val (.int v3), .val (.int v7), .unset, .unset] [])) _
        refine XS.iload X4.here hx rfl (hb hby at_32) rfl ?_
        show Steps p.tables e below (T4.setTop (mkF m 34 #[.val (.long q0), .second, .val (.int p1), .val (.int v3), .val (.int v7), .unset, .unset] [(.int v7)])) _
        refine XS.i2l X4.here hx rfl (hb hby at_34) rfl ?_
        show Steps p.tables e below (T4.setTop (mkF m 35 #[.val (.long q0), .second, .val (.int p1), .val (.int v3), .val (.int v7), .unset, .unset] [(.long (v7.toInt64))])) _
        refine XS.lconst X4.here hx rfl (hb hby at_35) ?_
        show Steps p.tables e below (T4.setTop (mkF m 36 #[.val (.long q0), .second, .val (.int p1), .val (.int v3), .val (.int v7), .unset, .unset] [(.long (1 : Int64)), (.long (v7.toInt64))])) _
        refine XS.iloadN X4.here hx rfl (hb hby at_36) rfl ?_
        show Steps p.tables e below (T4.setTop (mkF m 37 #[.val (.long q0), .second, .val (.int p1), .val (.int v3), .val (.int v7), .unset, .unset] [(.int v3), (.long (1 : Int64)), (.long (v7.toInt64))])) _
        refine XS.lshl X4.here hx rfl (hb hby at_37) rfl ?_
        show Steps p.tables e below (T4.setTop (mkF m 38 #[.val (.long q0), .second, .val (.int p1), .val (.int v3), .val (.int v7), .unset, .unset] [(.long ((1 : Int64) <<< (v3 &&& 0x3f).toInt64)), (.long (v7.toInt64))])) _
        refine XS.lcmp X4.here hx rfl (hb hby at_38) rfl ?_
        show Steps p.tables e below (T4.setTop (mkF m 39 #[.val (.long q0), .second, .val (.int p1), .val (.int v3), .val (.int v7), .unset, .unset] [(.int (lcmpW (v7.toInt64) ((1 : Int64) <<< (v3 &&& 0x3f).toInt64)))])) _
        exact kk)
      by_cases hc15 : (v7.toInt64) < ((1 : Int64) <<< (v3 &&& 0x3f).toInt64)
      · obtain ⟨v16, hv16⟩ : ∃ z : Int64, z = (((1 : Int64) <<< (((64 : Int32) - v3) &&& 0x3f).toInt64) - (1 : Int64)) := ⟨_, rfl⟩
        have pre17 : ∀ t, Steps p.tables e below (T4.setTop (mkF m 71 #[.val (.long q0), .second, .val (.int p1), .val (.int v3), .val (.int v7), .val (.long v16), .second] [(.int (lcmpW ((v7.toInt64) <<< (((64 : Int32) - v3) &&& 0x3f).toInt64) (q0 &&& (v16 ^^^ (-1 : Int64)))))])) t → Steps p.tables e below (s₁.setTop (entryFrame m #[(.long q0), (.int p1)] maxLocals)) t := fun t kk => pre14 t (by
          show Steps p.tables e below (T4.setTop (mkF m 39 #[.val (.long q0), .second, .val (.int p1), .val (.int v3), .val (.int v7), .unset, .unset] [(.int (lcmpW (v7.toInt64) ((1 : Int64) <<< (v3 &&& 0x3f).toInt64)))])) _
          refine XS.ifYes X4.here hx rfl (pc0 := 39) (pc' := 44) rfl (hb hby at_39) rfl ((if0 _ _).trans (tlt ((lw_lt (v7.toInt64) ((1 : Int64) <<< (v3 &&& 0x3f).toInt64)).mpr hc15)).1) (by decide) (by decide) ?_
          show Steps p.tables e below (T4.setTop (mkF m 44 #[.val (.long q0), .second, .val (.int p1), .val (.int v3), .val (.int v7), .unset, .unset] [])) _
          refine XS.lconst X4.here hx rfl (hb hby at_44) ?_
          show Steps p.tables e below (T4.setTop (mkF m 45 #[.val (.long q0), .second, .val (.int p1), .val (.int v3), .val (.int v7), .unset, .unset] [(.long (1 : Int64))])) _
          refine XS.bipush X4.here hx rfl (hb hby at_45) ?_
          show Steps p.tables e below (T4.setTop (mkF m 47 #[.val (.long q0), .second, .val (.int p1), .val (.int v3), .val (.int v7), .unset, .unset] [(.int (64 : Int32)), (.long (1 : Int64))])) _
          refine XS.iloadN X4.here hx rfl (hb hby at_47) rfl ?_
          show Steps p.tables e below (T4.setTop (mkF m 48 #[.val (.long q0), .second, .val (.int p1), .val (.int v3), .val (.int v7), .unset, .unset] [(.int v3), (.int (64 : Int32)), (.long (1 : Int64))])) _
          refine XS.isub X4.here hx rfl (hb hby at_48) rfl ?_
          show Steps p.tables e below (T4.setTop (mkF m 49 #[.val (.long q0), .second, .val (.int p1), .val (.int v3), .val (.int v7), .unset, .unset] [(.int ((64 : Int32) - v3)), (.long (1 : Int64))])) _
          refine XS.lshl X4.here hx rfl (hb hby at_49) rfl ?_
          show Steps p.tables e below (T4.setTop (mkF m 50 #[.val (.long q0), .second, .val (.int p1), .val (.int v3), .val (.int v7), .unset, .unset] [(.long ((1 : Int64) <<< (((64 : Int32) - v3) &&& 0x3f).toInt64))])) _
          refine XS.lconst X4.here hx rfl (hb hby at_50) ?_
          show Steps p.tables e below (T4.setTop (mkF m 51 #[.val (.long q0), .second, .val (.int p1), .val (.int v3), .val (.int v7), .unset, .unset] [(.long (1 : Int64)), (.long ((1 : Int64) <<< (((64 : Int32) - v3) &&& 0x3f).toInt64))])) _
          refine XS.lsub X4.here hx rfl (hb hby at_51) rfl ?_
          show Steps p.tables e below (T4.setTop (mkF m 52 #[.val (.long q0), .second, .val (.int p1), .val (.int v3), .val (.int v7), .unset, .unset] [(.long (((1 : Int64) <<< (((64 : Int32) - v3) &&& 0x3f).toInt64) - (1 : Int64)))])) _
          refine castTop (congrArg (fun z : Int64 => mkF m 52 #[.val (.long q0), .second, .val (.int p1), .val (.int v3), .val (.int v7), .unset, .unset] [(.long z)]) hv16.symm) ?_
          show Steps p.tables e below (T4.setTop (mkF m 52 #[.val (.long q0), .second, .val (.int p1), .val (.int v3), .val (.int v7), .unset, .unset] [(.long v16)])) _
          refine XS.lstore X4.here hx rfl (hb hby at_52) rfl (l' := #[.val (.long q0), .second, .val (.int p1), .val (.int v3), .val (.int v7), .val (.long v16), .second]) rfl ?_
          show Steps p.tables e below (T4.setTop (mkF m 54 #[.val (.long q0), .second, .val (.int p1), .val (.int v3), .val (.int v7), .val (.long v16), .second] [])) _
          refine XS.iload X4.here hx rfl (hb hby at_54) rfl ?_
          show Steps p.tables e below (T4.setTop (mkF m 56 #[.val (.long q0), .second, .val (.int p1), .val (.int v3), .val (.int v7), .val (.long v16), .second] [(.int v7)])) _
          refine XS.i2l X4.here hx rfl (hb hby at_56) rfl ?_
          show Steps p.tables e below (T4.setTop (mkF m 57 #[.val (.long q0), .second, .val (.int p1), .val (.int v3), .val (.int v7), .val (.long v16), .second] [(.long (v7.toInt64))])) _
          refine XS.bipush X4.here hx rfl (hb hby at_57) ?_
          show Steps p.tables e below (T4.setTop (mkF m 59 #[.val (.long q0), .second, .val (.int p1), .val (.int v3), .val (.int v7), .val (.long v16), .second] [(.int (64 : Int32)), (.long (v7.toInt64))])) _
          refine XS.iloadN X4.here hx rfl (hb hby at_59) rfl ?_
          show Steps p.tables e below (T4.setTop (mkF m 60 #[.val (.long q0), .second, .val (.int p1), .val (.int v3), .val (.int v7), .val (.long v16), .second] [(.int v3), (.int (64 : Int32)), (.long (v7.toInt64))])) _
          refine XS.isub X4.here hx rfl (hb hby at_60) rfl ?_
          show Steps p.tables e below (T4.setTop (mkF m 61 #[.val (.long q0), .second, .val (.int p1), .val (.int v3), .val (.int v7), .val (.long v16), .second] [(.int ((64 : Int32) - v3)), (.long (v7.toInt64))])) _
          refine XS.lshl X4.here hx rfl (hb hby at_61) rfl ?_
          show Steps p.tables e below (T4.setTop (mkF m 62 #[.val (.long q0), .second, .val (.int p1), .val (.int v3), .val (.int v7), .val (.long v16), .second] [(.long ((v7.toInt64) <<< (((64 : Int32) - v3) &&& 0x3f).toInt64))])) _
          refine XS.lloadN X4.here hx rfl (hb hby at_62) rfl ?_
          show Steps p.tables e below (T4.setTop (mkF m 63 #[.val (.long q0), .second, .val (.int p1), .val (.int v3), .val (.int v7), .val (.long v16), .second] [(.long q0), (.long ((v7.toInt64) <<< (((64 : Int32) - v3) &&& 0x3f).toInt64))])) _
          refine XS.lload X4.here hx rfl (hb hby at_63) rfl ?_
          show Steps p.tables e below (T4.setTop (mkF m 65 #[.val (.long q0), .second, .val (.int p1), .val (.int v3), .val (.int v7), .val (.long v16), .second] [(.long v16), (.long q0), (.long ((v7.toInt64) <<< (((64 : Int32) - v3) &&& 0x3f).toInt64))])) _
          refine X4.ldc2Long hx hown (mvT hZ (hw _ (List.mem_of_getElem? (i := 4) rfl))) (g := (mkF m 65 #[.val (.long q0), .second, .val (.int p1), .val (.int v3), .val (.int v7), .val (.long v16), .second] [(.long v16), (.long q0), (.long ((v7.toInt64) <<< (((64 : Int32) - v3) &&& 0x3f).toInt64))])) rfl (hb hby at_65) _ ?_
          show Steps p.tables e below (T4.setTop (mkF m 68 #[.val (.long q0), .second, .val (.int p1), .val (.int v3), .val (.int v7), .val (.long v16), .second] [(.long (-1 : Int64)), (.long v16), (.long q0), (.long ((v7.toInt64) <<< (((64 : Int32) - v3) &&& 0x3f).toInt64))])) _
          refine XS.lxor X4.here hx rfl (hb hby at_68) rfl ?_
          show Steps p.tables e below (T4.setTop (mkF m 69 #[.val (.long q0), .second, .val (.int p1), .val (.int v3), .val (.int v7), .val (.long v16), .second] [(.long (v16 ^^^ (-1 : Int64))), (.long q0), (.long ((v7.toInt64) <<< (((64 : Int32) - v3) &&& 0x3f).toInt64))])) _
          refine XS.land X4.here hx rfl (hb hby at_69) rfl ?_
          show Steps p.tables e below (T4.setTop (mkF m 70 #[.val (.long q0), .second, .val (.int p1), .val (.int v3), .val (.int v7), .val (.long v16), .second] [(.long (q0 &&& (v16 ^^^ (-1 : Int64)))), (.long ((v7.toInt64) <<< (((64 : Int32) - v3) &&& 0x3f).toInt64))])) _
          refine XS.lcmp X4.here hx rfl (hb hby at_70) rfl ?_
          show Steps p.tables e below (T4.setTop (mkF m 71 #[.val (.long q0), .second, .val (.int p1), .val (.int v3), .val (.int v7), .val (.long v16), .second] [(.int (lcmpW ((v7.toInt64) <<< (((64 : Int32) - v3) &&& 0x3f).toInt64) (q0 &&& (v16 ^^^ (-1 : Int64)))))])) _
          exact kk)
        by_cases hc18 : ((v7.toInt64) <<< (((64 : Int32) - v3) &&& 0x3f).toInt64) = (q0 &&& (v16 ^^^ (-1 : Int64)))
        · obtain ⟨fs, hr, hrun, hended, hW, hsame⟩ := X4.leave (v := some (.int (1 : Int32))) (fun h => by rw [Bd.returns] at h; cases h)
          refine ⟨_, _, pre17 _ ?_, hrun, hended, _, _, rfl, ?_, ⟨_, rfl⟩, hW, hsame.mono (by decide) (by decide)⟩
          · show Steps p.tables e below (T4.setTop (mkF m 71 #[.val (.long q0), .second, .val (.int p1), .val (.int v3), .val (.int v7), .val (.long v16), .second] [(.int (lcmpW ((v7.toInt64) <<< (((64 : Int32) - v3) &&& 0x3f).toInt64) (q0 &&& (v16 ^^^ (-1 : Int64)))))])) _
            refine XS.ifNo X4.here hx rfl (hb hby at_71) rfl ((if0 _ _).trans (teq ((lw_eq ((v7.toInt64) <<< (((64 : Int32) - v3) &&& 0x3f).toInt64) (q0 &&& (v16 ^^^ (-1 : Int64)))).mpr hc18)).2) ?_
            show Steps p.tables e below (T4.setTop (mkF m 74 #[.val (.long q0), .second, .val (.int p1), .val (.int v3), .val (.int v7), .val (.long v16), .second] [])) _
            refine XS.iconst X4.here hx rfl (hb hby at_74) ?_
            show Steps p.tables e below (T4.setTop (mkF m 75 #[.val (.long q0), .second, .val (.int p1), .val (.int v3), .val (.int v7), .val (.long v16), .second] [(.int (1 : Int32))])) _
            refine XS.goto X4.here hx rfl (pc0 := 75) (pc' := 79) rfl (hb hby at_75) (by decide) (by decide) ?_
            show Steps p.tables e below (T4.setTop (mkF m 79 #[.val (.long q0), .second, .val (.int p1), .val (.int v3), .val (.int v7), .val (.long v16), .second] [(.int (1 : Int32))])) _
            exact retN X4 hx (t := .boolean) Bd.returns (by simp) (hb hby at_79) hr
          · show own_Q0 Z q0 p1 h0 n0 _ T4.heap _
            rw [e6]
            exact ⟨rfl, N5⟩
        · exact (own_leaf0_5 q0 p1 v3 hv3 v7 hv7 hc9 hc13 hc15 v16 hv16 hc18).elim
      · exact (own_leaf0_6 q0 p1 v3 hv3 v7 hv7 hc9 hc13 hc15).elim
set_option maxRecDepth 65536 in
set_option maxHeartbeats 40000000 in
theorem comes_1 {Post : Tables → Env → Array Value → State → Outcome → State → Prop} (hpost : ∀ tb e args s v u, (limb_1_1.after args s (.returned v) u = true ∧ limb_1_2.after args s (.returned v) u = true ∧ True) → FrameEnd s (.returned v) u (Jvm.fieldLocs frame_1_writes args s ++ Jvm.arrayLocs frame_1_arrays args s ++ Jvm.staticLocs frame_1_statics s) 0 0 → Post tb e args s (.returned v) u) :
    ArmFor flags0 classFile x code maxLocals ret World_1 tables_1 room_1 Calls_1 rest_1 Pre_1 Post := by
  intro l hfl _ _ p e ha hc hk s m args below hf hA hF happ hP
  obtain ⟨hcalls, hrest, hpre⟩ := hP
  obtain ⟨-, -, -, hnamed, -, -, -, hat⟩ := (Spec.applies_iff hf).mp happ
  obtain ⟨hg, hn⟩ := and_e (Cond.before_iff.mp (show (Jvm.Cond.and given_1 narrow_1).before args s = true from hpre))
  obtain ⟨gg1, gg2⟩ := and_e hg
  obtain ⟨gg3, gg4⟩ := and_e gg2
  obtain ⟨w0, w1, rfl⟩ : ∃ w0 w1 : Value, args = #[w0, w1] := by
    have hs : args.size = 2 := by simpa [Cond.value, given_1] using gg1
    obtain ⟨L⟩ := args
    match L, hs with
    | [w0, w1], _ => exact ⟨w0, w1, rfl⟩
  have hw := fun d (hd : d ∈ tables_1) => atoms_spec (ws := Jvm.Cond.code x code maxLocals ret :: tables_1) hat d (List.mem_cons_of_mem _ hd)
  have hfit : Fit s := fun {y c} hc i hi => by
    obtain ⟨ha, rfl⟩ := Array.getElem?_eq_some_iff.mp hc
    have q := List.all_eq_true.mp ((Array.all_eq_true_iff_forall_mem.mp hF) _ (Array.getElem_mem ha)) i (List.mem_range.mpr hi)
    simpa [Array.getElem?_eq_getElem hi] using q
  obtain ⟨i0, ei0⟩ := isL_v gg3
  obtain rfl : w0 = (.long i0) := Option.some.inj ei0
  obtain ⟨i1, ei1⟩ := is_v gg4
  obtain rfl : w1 = (.int i1) := Option.some.inj ei1
  obtain ⟨n, o, h1, h2, h3, _, L, rfl, ⟨rfl, N⟩, hq⟩ := own_rm0 l s _ hw tables_1 i0 i1 s.heap s.heap.size (Nat.le_refl _)  p e ha hc hk s m _ below hf ((Spec.applies_iff_loose hf).mp happ).1 ⟨rfl, State.Warmed39.refl s, rfl⟩ trivial
  refine ⟨n, _, h1, h2, h3, hpost _ _ _ _ _ _ ⟨Cond.after_iff.mpr rfl, Cond.after_iff.mpr (eq_i res_at (Term.int_eval (1)) rfl), trivial⟩ ⟨hq.1, hq.2.1, (hq.2.2.sift fun y hy => Or.inr (N y hy)).mono (by decide) (by decide)⟩⟩
theorem main_1_1 : Claimed_1_1 := comes_1 fun _ _ _ _ _ _ h hF => ⟨h.1, hF⟩
theorem main_1_2 : Claimed_1_2 := comes_1 fun _ _ _ _ _ _ h hF => ⟨h.2.1, hF⟩
end Jvm.Pilot.@@N@@
namespace Jvm.Pilot.@@N@@
open Jvm Jvm.ClassFile Sem Op Lib Jvm.Free Jvm.Stand Jvm.Pilot.@@N@@.Jvm.D
/-! MADE BY PROGRAM (witnessworld.py) out of the Statement's table words and the real class files: 9 classes; the members and pool entries that the words name. The judged class is class 1, her method 1. -/
namespace start1
open Jvm.ClassFile
def u (s : String) : CpInfo := .utf8 (stringToUtf16 s)
/-- a pool by its gaps: so many unusable entries, then the entry; so many at the end -/
def gap : Nat → List CpInfo → List CpInfo
  | 0, r => r
  | n + 1, r => .unusable :: gap n r
def poolList (es : List (Nat × CpInfo)) (last : Nat) : List CpInfo := es.foldr (fun e r => gap e.1 (e.2 :: r)) (gap last [])
def pool (es : List (Nat × CpInfo)) (last : Nat) : Array CpInfo := ⟨poolList es last⟩
def fileOf (pool : Array CpInfo) (this : Nat) (attrs : Array Attribute := #[]) (ms : Array MethodInfo := #[]) (fl : Nat := 33) (sup : Nat := 0) (ifs : Array Nat := #[]) (fds : Array FieldInfo := #[]) : ClassFile where
  minorVersion := 0
  majorVersion := 65
  constantPool := pool
  accessFlags := fl
  thisClass := this
  superClass := sup
  interfaces := ifs
  fields := fds
  methods := ms
  attributes := attrs
def plain (name : String) (sup : Option ClassId) : Class where
  name := name
  kind := .ordinary
  loader := none
  accessFlags := 33
  super := sup
  interfaces := #[]
  cf := none
  fields := #[]
  methods := #[]
  instanceTypes := #[]
  staticTypes := #[]
  resolved := #[]
  callSites := []
  init := .initialized
  statics := none
  mirror := none

def pool0 : Array CpInfo := pool [(5, u "<init>"), (0, u "()V"), (1, .class_ 10), (1, u "java/lang/Object")] 113

def k0m0 : Method := { name := "<init>", desc := "()V", sig := { parameters := [], returnType := none }, accessFlags := 1, code := none }
/-- java/lang/Object -/
def k0 : Class := { plain "java/lang/Object" none with
  accessFlags := 33
  interfaces := #[]
  cf := some (fileOf pool0 8 #[] #[{ accessFlags := 1, nameIndex := 5, descriptorIndex := 6, attributes := #[] }] 33 0 #[] #[])
  fields := #[]
  methods := #[k0m0]
  instanceTypes := #[]
  staticTypes := #[]
  resolved := Array.replicate 124 none
  statics := none }

def pool1 : Array CpInfo := pool [(2, .class_ 4), (1, u "java/lang/Object"), (0, u "<init>"), (0, u "()V"), (0, .methodref 8 9), (0, .class_ 10), (0, .nameAndType 11 12), (0, u "com/example/syncline/syncline/store/RecordTree"), (0, u "indexOf"), (0, u "(JI)I"), (0, .long 18446744073709551615), (1, .class_ 16), (0, u "com/example/syncline/syncline/store/RecordTreeIndexOfPinLaw"), (2, u "law"), (0, u "(JI)Z")] 3

def k1m0 : Method := { name := "<init>", desc := "()V", sig := { parameters := [], returnType := none }, accessFlags := 1, code := none }
def k1c1 : Code := { maxStack := 8, maxLocals := 7, code := code, exceptionTable := #[], attributes := #[] }
def k1m1 : Method := { name := "law", desc := "(JI)Z", sig := { parameters := [.long, .int], returnType := some .boolean }, accessFlags := 9, code := some k1c1 }
/-- com/example/syncline/syncline/store/RecordTreeIndexOfPinLaw -/
def k1 : Class := { plain "com/example/syncline/syncline/store/RecordTreeIndexOfPinLaw" (some 0) with
  accessFlags := 49
  interfaces := #[]
  cf := some (fileOf pool1 15 #[] #[{ accessFlags := 1, nameIndex := 5, descriptorIndex := 6, attributes := #[] }, { accessFlags := 9, nameIndex := 19, descriptorIndex := 20, attributes := #[] }] 49 2 #[] #[])
  fields := #[]
  methods := #[k1m0, k1m1]
  instanceTypes := #[]
  staticTypes := #[]
  resolved := Array.replicate 24 none
  statics := none }

def pool2 : Array CpInfo := pool [(2, .class_ 4), (1, u "java/lang/Object"), (0, u "<init>"), (0, u "()V"), (1, .class_ 10), (1, u "com/example/syncline/syncline/store/RecordTree"), (0, u "growing"), (0, u "Ljava/lang/Object;"), (0, .class_ 14), (0, u "com/example/syncline/syncline/store/RecordTree$Leaves"), (5, u "leaves"), (0, u "Lcom/example/syncline/syncline/store/RecordTree$Leaves;"), (53, u "I"), (31, u "indexOf"), (0, u "(JI)I"), (38, u "MAX_DEPTH"), (2, u "MIN_DEPTH"), (1, u "LEVEL_BITS"), (1, u "RECORDS_PER_LEAF")] 34

def k2m0 : Method := { name := "<init>", desc := "()V", sig := { parameters := [], returnType := none }, accessFlags := 1, code := none }
def k2c1 : Code := { maxStack := 4, maxLocals := 3, code := prog_21_method_3_code, exceptionTable := #[], attributes := #[] }
def k2m1 : Method := { name := "indexOf", desc := "(JI)I", sig := { parameters := [.long, .int], returnType := some .int }, accessFlags := 9, code := some k2c1 }
/-- com/example/syncline/syncline/store/RecordTree -/
def k2 : Class := { plain "com/example/syncline/syncline/store/RecordTree" (some 0) with
  accessFlags := 49
  interfaces := #[]
  cf := some (fileOf pool2 8 #[.nestMembers #[13]] #[{ accessFlags := 1, nameIndex := 5, descriptorIndex := 6, attributes := #[] }, { accessFlags := 9, nameIndex := 107, descriptorIndex := 108, attributes := #[] }] 49 2 #[] #[{ accessFlags := 25, nameIndex := 147, descriptorIndex := 75, attributes := #[] }, { accessFlags := 26, nameIndex := 150, descriptorIndex := 75, attributes := #[] }, { accessFlags := 26, nameIndex := 152, descriptorIndex := 75, attributes := #[] }, { accessFlags := 26, nameIndex := 154, descriptorIndex := 75, attributes := #[] }, { accessFlags := 18, nameIndex := 11, descriptorIndex := 12, attributes := #[] }, { accessFlags := 66, nameIndex := 20, descriptorIndex := 21, attributes := #[] }])
  fields := #[{ name := "MAX_DEPTH", type := .int, accessFlags := 25, slot := 0, constantValue := 0 }, { name := "MIN_DEPTH", type := .int, accessFlags := 26, slot := 1, constantValue := 0 }, { name := "LEVEL_BITS", type := .int, accessFlags := 26, slot := 2, constantValue := 0 }, { name := "RECORDS_PER_LEAF", type := .int, accessFlags := 26, slot := 3, constantValue := 0 }, { name := "growing", type := (.object "java/lang/Object"), accessFlags := 18, slot := 0, constantValue := 0 }, { name := "leaves", type := (.object "com/example/syncline/syncline/store/RecordTree$Leaves"), accessFlags := 66, slot := 1, constantValue := 0 }]
  methods := #[k2m0, k2m1]
  instanceTypes := #[(.object "java/lang/Object"), (.object "com/example/syncline/syncline/store/RecordTree$Leaves")]
  staticTypes := #[.int, .int, .int, .int]
  resolved := Array.replicate 189 none
  statics := none }

def pool3 : Array CpInfo := pool [(1, u "java/lang/Cloneable"), (0, .class_ 1), (0, u "java/lang/Object"), (0, .class_ 3)] 3

/-- java/lang/Cloneable -/
def k3 : Class := { plain "java/lang/Cloneable" (some 0) with
  accessFlags := 1537
  interfaces := #[]
  cf := some (fileOf pool3 2 #[] #[] 1537 4 #[] #[])
  fields := #[]
  methods := #[]
  instanceTypes := #[]
  staticTypes := #[]
  resolved := Array.replicate 8 none
  statics := none }

def pool4 : Array CpInfo := pool [(1, u "java/io/Serializable"), (0, .class_ 1), (0, u "java/lang/Object"), (0, .class_ 3)] 3

/-- java/io/Serializable -/
def k4 : Class := { plain "java/io/Serializable" (some 0) with
  accessFlags := 1537
  interfaces := #[]
  cf := some (fileOf pool4 2 #[] #[] 1537 4 #[] #[])
  fields := #[]
  methods := #[]
  instanceTypes := #[]
  staticTypes := #[]
  resolved := Array.replicate 8 none
  statics := none }

/-- the primitive byte -/
def k5 : Class := { plain "byte" none with kind := .primitive 'B', accessFlags := 0x411 }
/-- [B -/
def k6 : Class := { plain "[B" (some 0) with kind := .array 5 .byte, interfaces := #[3, 4], accessFlags := 1041 }

/-- the primitive int -/
def k7 : Class := { plain "int" none with kind := .primitive 'I', accessFlags := 0x411 }
/-- [I -/
def k8 : Class := { plain "[I" (some 0) with kind := .array 7 .int, interfaces := #[3, 4], accessFlags := 1041 }

def heap : Heap := #[]
def classes : Array Class := #[k0, k1, k2, k3, k4, k5, k6, k7, k8]
def interned : List (Array UInt16 × Addr) := []
def slotsUsed : Nat := 0
def theMethod : MethodId := ⟨1, 1⟩
def args0 : Array Value := #[.long 5, .int 6]
def aboutOver (below : List Frame) : State where
  vm := { classes := classes, interned := interned.toArray }
  heap := heap
  slotsUsed := slotsUsed
  threads := #[{ frames := .invoking theMethod args0 :: below }]
def below0 : List Frame := [.native { method := ⟨0, 0⟩, args := #[] }]
def about1 : State := aboutOver below0
def p0 : Program := .bare "" "" ""
def e0 : Env := launch0.env 0 0 0
theorem w_frames : about1.frames = Frame.invoking theMethod args0 :: below0 := rfl
set_option maxRecDepth 65536 in
theorem w_args : argsFit about1.vm theMethod args0 = true := by decide +kernel
set_option maxRecDepth 65536 in
theorem w_heap : heapFits about1 = true := by decide +kernel
set_option maxRecDepth 65536 in
theorem w_runnable : about1.curStatus? = some .runnable := by decide +kernel
set_option maxRecDepth 65536 in
theorem w_alone : about1.alone = true := by decide +kernel
set_option maxRecDepth 65536 in
theorem w_named : about1.methodNamed? x = some theMethod := by decide +kernel
set_option maxRecDepth 65536 in
theorem w_hears : about1.hears theMethod below0 = true := by decide +kernel
set_option maxRecDepth 65536 in
theorem w_ripe : about1.ripe theMethod args0 below0 = true := by decide +kernel
theorem w_running : about1.status = .running := rfl
set_option maxRecDepth 65536 in
theorem w_room : about1.hasRoom e0.platform room_1 = true :=
  launch0.hasRoom_least _ room_1 (by decide +kernel) (by decide +kernel) (by decide +kernel) (by decide +kernel) (by decide +kernel) (by decide +kernel)
theorem allAtoms_all (ts : List Jvm.Cond) (a : Array Jvm.Value) (st : Jvm.State) : (allAtoms ts).before a st = ts.all (fun c => c.before a st) := by
  induction ts with
  | nil => rfl
  | cons c t ih =>
    show (Jvm.Cond.and c (allAtoms t)).before a st = _
    rw [Jvm.Cond.before_and, ih, List.all_cons]
def words1 : List Jvm.Cond := Jvm.Cond.code x code maxLocals ret :: tables_1
/-- a 'code' word, met by the world's own term for the bytes: nothing is compared byte by byte -/
theorem code_word {y : MethodName} {bytes : ByteArray} {mx : Nat} {rt : Option FieldType} {a : Array Value} {s : State} {m : MethodId} {meth : Method} {c : Code} (h1 : s.methodNamed? y = some m) (h2 : s.vm.method? m = some meth) (h3 : meth.code = some c) (h4 : c.code = bytes)
    (h5 : (c.maxLocals == mx && c.exceptionTable.isEmpty && decide (c.maxStack ≤ mostOperands) && decide (meth.sig.returnType = rt) && !meth.locks && decide (parseMethodDescriptor y.desc = some meth.sig)) = true) : (Jvm.Cond.code y bytes mx rt).before a s = true := by
  simp only [Bool.and_eq_true, beq_iff_eq, Bool.not_eq_true', decide_eq_true_eq] at h5
  obtain ⟨⟨⟨⟨⟨g1, g2⟩, g3⟩, g4⟩, g5⟩, g6⟩ := h5
  simp [Cond.before, Cond.holds, Cond.value, h1, h2, h3, h4, g1, g2, g3, g4, g5, g6]
def isCode : Jvm.Cond → Bool
  | .code _ _ _ _ => true
  | _ => false
theorem all_split {L : List Jvm.Cond} {P : Jvm.Cond → Bool} (h1 : L.all (fun c => isCode c || P c) = true) (h2 : ∀ c ∈ L.filter isCode, P c = true) : L.all P = true := by
  refine List.all_eq_true.mpr fun c hc => ?_
  have h := List.all_eq_true.mp h1 c hc
  rcases Bool.eq_false_or_eq_true (isCode c) with hi | hi
  · exact h2 c (List.mem_filter.mpr ⟨hc, hi⟩)
  · simpa [hi] using h
set_option maxRecDepth 65536 in
theorem w_c0 : (Jvm.Cond.code x code maxLocals ret).before args0 about1 = true := code_word (m := ⟨1, 1⟩) (meth := k1m1) (c := k1c1) (by decide +kernel) rfl rfl rfl (by decide +kernel)
set_option maxRecDepth 65536 in
theorem w_c1 : (Jvm.Cond.code ({ cls := "com/example/syncline/syncline/store/RecordTree", name := "indexOf", desc := "(JI)I" } : Jvm.MethodName) prog_21_method_3_code (3 : Nat) (Option.some Jvm.ClassFile.FieldType.int)).before args0 about1 = true := code_word (m := ⟨2, 1⟩) (meth := k2m1) (c := k2c1) (by decide +kernel) rfl rfl rfl (by decide +kernel)
def codes1 : List Jvm.Cond := [Jvm.Cond.code x code maxLocals ret, Jvm.Cond.code ({ cls := "com/example/syncline/syncline/store/RecordTree", name := "indexOf", desc := "(JI)I" } : Jvm.MethodName) prog_21_method_3_code (3 : Nat) (Option.some Jvm.ClassFile.FieldType.int)]
set_option maxRecDepth 65536 in
theorem codes_eq : words1.filter isCode = codes1 := rfl
theorem w_codes : ∀ c ∈ words1.filter isCode, c.before args0 about1 = true := by
  rw [codes_eq]
  intro c hc
  simp only [codes1, List.mem_cons, List.not_mem_nil, or_false] at hc
  rcases hc with rfl | rfl
  · exact w_c0
  · exact w_c1
set_option maxRecDepth 65536 in
theorem w_t1 : words1.all (fun c => isCode c || c.before args0 about1) = true := by decide +kernel
theorem w_tables : (allAtoms (Jvm.Cond.code x code maxLocals ret :: tables_1)).before args0 about1 = true := by
  rw [allAtoms_all]
  show words1.all (fun c => c.before args0 about1) = true
  refine all_split ?_ w_codes
  rw [w_t1]
set_option maxRecDepth 65536 in
theorem w_case : (Jvm.Cond.and given_1 narrow_1).before args0 about1 = true := by decide +kernel
theorem w_applies : (headSpec (Jvm.Cond.code x code maxLocals ret :: tables_1) room_1).applies x e0.platform about1 = true :=
  (Spec.applies_iff w_frames).mpr ⟨w_running, w_runnable, w_alone, w_named, w_hears, w_ripe, w_room, w_tables⟩
theorem atStart : AtStart classFile x code maxLocals ret World_1 tables_1 room_1 Calls_1 rest_1 Pre_1 launch0 p0 e0 about1 theMethod args0 below0 :=
  ⟨lists_1, trivial, launch0.admits_env _ _ _, launch0.least_env, fairChoices_fair.cas, fairChoices_fair.clock, w_frames, w_args, w_heap, w_applies, trivial, trivial, w_case⟩
end start1
theorem witness_1 : WitnessClaimed_1 := ⟨start1.p0, start1.e0, start1.about1, start1.theMethod, start1.args0, start1.below0, start1.atStart⟩
end Jvm.Pilot.@@N@@
