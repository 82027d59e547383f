import JvmDerived
import JvmDerived.Pilot.@@N@@Statement
import JvmDerived.Pilot.@@N@@Code
set_option linter.unusedVariables false
set_option linter.unusedSimpArgs false
namespace Jvm.RoadKit
open Sem ClassFile Op Lib Jvm.Stand Jvm.Free Jvm.LawKit
section New
variable {p : Program} {l : Launch} {e : Env} {R : Room} {s : State} {m : MethodId} {args : Array Value} {below : List Frame} {meth : Method} {c : Code} {T : State} {locs : List Loc} {cells slots : Nat}
theorem retI (X : Stand p l e R s m args below meth c T locs cells slots) (hx : p.tables.exec = Jvm.exec) {pc : Nat} {Ls : Array Slot} {z : Int32} {rest : List Value} (hret : meth.sig.returnType = some .int) (hd : decode c.code pc = .ok (.ireturn, 1)) {fs : List Frame}
    (hl : ∀ (f : JFrame) (acts : List Action), f.method = m → f.locked = none → f.entered = [] → (doReturn e (T.setTop f) acts (some (.int z))).1 = T.setFrames fs) : Steps p.tables e below (T.setTop (mkF m pc Ls (.int z :: rest))) (T.setFrames fs) := by
  have hm' : T.vm.method? m = some meth := X.method'
  have hn : narrow .int (.int z) = .int z := rfl
  show Steps p.tables e below (T.setTop { method := m, pc := pc, locals := Ls, stack := _ :: rest, locked := none }) _
  jvm_step X.here [X.here.top, hx, hd, hm', hret, hn]
  first | (intro acts; rw [hl _ acts rfl rfl rfl]) | rw [hl _ _ rfl rfl rfl]
  exact Steps.refl _
end New
end Jvm.RoadKit
namespace Jvm.Pilot.@@N@@
open Jvm Jvm.ClassFile Sem Op Lib Jvm.Free Jvm.Stand Jvm.LawKit Jvm.RoadKit Bundle Jvm.Pilot.@@N@@.Jvm.D
theorem own_d1_0 : decode prog_7_method_5_code 0 = .ok (.lload_n 0, 1) := by decide +kernel
theorem own_d1_1 : decode prog_7_method_5_code 1 = .ok (.ldc2_w 23, 3) := by decide +kernel
theorem own_d1_4 : decode prog_7_method_5_code 4 = .ok (.lxor, 1) := by decide +kernel
theorem own_d1_5 : decode prog_7_method_5_code 5 = .ok (.lload_n 2, 1) := by decide +kernel
theorem own_d1_6 : decode prog_7_method_5_code 6 = .ok (.land, 1) := by decide +kernel
theorem own_d1_7 : decode prog_7_method_5_code 7 = .ok (.lload_n 0, 1) := by decide +kernel
theorem own_d1_8 : decode prog_7_method_5_code 8 = .ok (.lload_n 2, 1) := by decide +kernel
theorem own_d1_9 : decode prog_7_method_5_code 9 = .ok (.lxor, 1) := by decide +kernel
theorem own_d1_10 : decode prog_7_method_5_code 10 = .ok (.ldc2_w 23, 3) := by decide +kernel
theorem own_d1_13 : decode prog_7_method_5_code 13 = .ok (.lxor, 1) := by decide +kernel
theorem own_d1_14 : decode prog_7_method_5_code 14 = .ok (.lload_n 0, 1) := by decide +kernel
theorem own_d1_15 : decode prog_7_method_5_code 15 = .ok (.lload_n 2, 1) := by decide +kernel
theorem own_d1_16 : decode prog_7_method_5_code 16 = .ok (.lsub, 1) := by decide +kernel
theorem own_d1_17 : decode prog_7_method_5_code 17 = .ok (.land, 1) := by decide +kernel
theorem own_d1_18 : decode prog_7_method_5_code 18 = .ok (.lor, 1) := by decide +kernel
theorem own_d1_19 : decode prog_7_method_5_code 19 = .ok (.bipush 63, 2) := by decide +kernel
theorem own_d1_21 : decode prog_7_method_5_code 21 = .ok (.lushr, 1) := by decide +kernel
theorem own_d1_22 : decode prog_7_method_5_code 22 = .ok (.lreturn, 1) := by decide +kernel
def own_f1 (q0 : Int64) (q1 : Int64) : Int64 := (((((q0 ^^^ (-1 : Int64)) &&& q1) ||| (((q0 ^^^ q1) ^^^ (-1 : Int64)) &&& (q0 - q1))).toUInt64 >>> ((63 : Int32) &&& 0x3f).toInt64.toUInt64).toInt64)
theorem own_pn18 : plainName "com/example/ringshift/ringshift/Words" = true := by first | (simp [plainName, overriddenIn]; done) | decide +kernel
theorem own_ef1 (m : MethodId) (q0 : Int64) (q1 : Int64) : entryFrame m #[(.long q0), (.long q1)] 4 = mkF m 0 #[.val (.long q0), .second, .val (.long q1), .second] [] := by first | (simp [entryFrame, mkF, argsToLocals, Value.category]; done) | rfl
def own_Q1 (Z : State) (q0 : Int64) (q1 : Int64) (h0 : Heap) (n0 : Nat) (v : Option Value) (h : Heap) (L : List Loc) : Prop := v = some (.long (own_f1 q0 q1)) ∧ Fr n0 L ∧ h = h0
set_option maxRecDepth 65536 in
set_option maxHeartbeats 40000000 in
theorem own_rm1 (l : Launch) (Z : State) (av : Array Value) (hw : ∀ d ∈ tables_1, d.before av Z = true) (ws : List Jvm.Cond) (q0 : Int64) (q1 : Int64) (h0 : Heap) (n0 : Nat) (Z0 : n0 ≤ h0.size) :
    MetFree l (⟨"com/example/ringshift/ringshift/Words", "borrow", "(JJ)J"⟩ : MethodName) (head1 (Jvm.Cond.code (⟨"com/example/ringshift/ringshift/Words", "borrow", "(JJ)J"⟩ : MethodName) prog_7_method_5_code 4 (some .long) :: ws) ({ frames := 0, cells := 0, slots := 0, locals := 0 } : Room)) (fun a U => a = #[(.long q0), (.long q1)] ∧ Z.Warmed39 U.vm ∧ U.heap = h0) (fun _ _ _ _ _ => True) (fun _ U o U' => ∃ v L, o = .returned v ∧ own_Q1 Z q0 q1 h0 n0 v U'.heap L ∧ FrameEnd U o U' L ({ frames := 0, cells := 0, slots := 0, locals := 0 } : Room).cells ({ frames := 0, cells := 0, slots := 0, locals := 0 } : Room).slots) := by
  refine MetFree.of_bodySF (plainFor_of_name own_pn18) hisR ?_
  intro p e s m args below meth c s₁ Bd hml0 hP hK
  obtain ⟨rfl, hZ, hh⟩ := hP
  have hx := Bd.exec
  have hby := Bd.bytes
  have hml : c.maxLocals = 4 := hml0
  have hown : s.vm.findClass "com/example/ringshift/ringshift/Words" = some m.cls := findClass_of_methodNamed Bd.named
  have hnm := (name_of_methodNamed Bd.named Bd.method).1
  have X0 : Stand p l e ({ frames := 0, cells := 0, slots := 0, locals := 0 } : Room) s m #[(.long q0), (.long q1)] below meth c s₁ [] 0 0 := Stand.of_body Bd
  have e0 : s₁.heap = h0 := by rw [← hh, Bd.state]; rfl
  have N0 := Fr.nil n0
  have pre0 : ∀ t, Steps p.tables e below (s₁.setTop (mkF m 0 #[.val (.long q0), .second, .val (.long q1), .second] [])) t → Steps p.tables e below (s₁.setTop (entryFrame m #[(.long q0), (.long q1)] 4)) t := fun t k => castTop (own_ef1 m q0 q1) k
  obtain ⟨fs, hr, hrun, hended, hW, hsame⟩ := X0.leave (v := some (.long (((((q0 ^^^ (-1 : Int64)) &&& q1) ||| (((q0 ^^^ q1) ^^^ (-1 : Int64)) &&& (q0 - q1))).toUInt64 >>> ((63 : Int32) &&& 0x3f).toInt64.toUInt64).toInt64))) (fun h => by rw [Bd.returns] at h; cases h)
  refine ⟨_, _, pre0 _ ?_, hrun, hended, _, _, rfl, ?_, ⟨_, rfl⟩, hW, hsame.mono (by decide) (by decide)⟩
  · show Steps p.tables e below (s₁.setTop (mkF m 0 #[.val (.long q0), .second, .val (.long q1), .second] [])) _
    refine XS.lloadN X0.here hx rfl (hb hby own_d1_0) rfl ?_
    show Steps p.tables e below (s₁.setTop (mkF m 1 #[.val (.long q0), .second, .val (.long q1), .second] [(.long q0)])) _
    refine X0.ldc2Long hx hown (mvT hZ (hw _ (List.mem_of_getElem? (i := 4) rfl))) (g := (mkF m 1 #[.val (.long q0), .second, .val (.long q1), .second] [(.long q0)])) rfl (hb hby own_d1_1) _ ?_
    show Steps p.tables e below (s₁.setTop (mkF m 4 #[.val (.long q0), .second, .val (.long q1), .second] [(.long (-1 : Int64)), (.long q0)])) _
    refine XS.lxor X0.here hx rfl (hb hby own_d1_4) rfl ?_
    show Steps p.tables e below (s₁.setTop (mkF m 5 #[.val (.long q0), .second, .val (.long q1), .second] [(.long (q0 ^^^ (-1 : Int64)))])) _
    refine XS.lloadN X0.here hx rfl (hb hby own_d1_5) rfl ?_
    show Steps p.tables e below (s₁.setTop (mkF m 6 #[.val (.long q0), .second, .val (.long q1), .second] [(.long q1), (.long (q0 ^^^ (-1 : Int64)))])) _
    refine XS.land X0.here hx rfl (hb hby own_d1_6) rfl ?_
    show Steps p.tables e below (s₁.setTop (mkF m 7 #[.val (.long q0), .second, .val (.long q1), .second] [(.long ((q0 ^^^ (-1 : Int64)) &&& q1))])) _
    refine XS.lloadN X0.here hx rfl (hb hby own_d1_7) rfl ?_
    show Steps p.tables e below (s₁.setTop (mkF m 8 #[.val (.long q0), .second, .val (.long q1), .second] [(.long q0), (.long ((q0 ^^^ (-1 : Int64)) &&& q1))])) _
    refine XS.lloadN X0.here hx rfl (hb hby own_d1_8) rfl ?_
    show Steps p.tables e below (s₁.setTop (mkF m 9 #[.val (.long q0), .second, .val (.long q1), .second] [(.long q1), (.long q0), (.long ((q0 ^^^ (-1 : Int64)) &&& q1))])) _
    refine XS.lxor X0.here hx rfl (hb hby own_d1_9) rfl ?_
    show Steps p.tables e below (s₁.setTop (mkF m 10 #[.val (.long q0), .second, .val (.long q1), .second] [(.long (q0 ^^^ q1)), (.long ((q0 ^^^ (-1 : Int64)) &&& q1))])) _
    refine X0.ldc2Long hx hown (mvT hZ (hw _ (List.mem_of_getElem? (i := 4) rfl))) (g := (mkF m 10 #[.val (.long q0), .second, .val (.long q1), .second] [(.long (q0 ^^^ q1)), (.long ((q0 ^^^ (-1 : Int64)) &&& q1))])) rfl (hb hby own_d1_10) _ ?_
    show Steps p.tables e below (s₁.setTop (mkF m 13 #[.val (.long q0), .second, .val (.long q1), .second] [(.long (-1 : Int64)), (.long (q0 ^^^ q1)), (.long ((q0 ^^^ (-1 : Int64)) &&& q1))])) _
    refine XS.lxor X0.here hx rfl (hb hby own_d1_13) rfl ?_
    show Steps p.tables e below (s₁.setTop (mkF m 14 #[.val (.long q0), .second, .val (.long q1), .second] [(.long ((q0 ^^^ q1) ^^^ (-1 : Int64))), (.long ((q0 ^^^ (-1 : Int64)) &&& q1))])) _
    refine XS.lloadN X0.here hx rfl (hb hby own_d1_14) rfl ?_
    show Steps p.tables e below (s₁.setTop (mkF m 15 #[.val (.long q0), .second, .val (.long q1), .second] [(.long q0), (.long ((q0 ^^^ q1) ^^^ (-1 : Int64))), (.long ((q0 ^^^ (-1 : Int64)) &&& q1))])) _
    refine XS.lloadN X0.here hx rfl (hb hby own_d1_15) rfl ?_
    show Steps p.tables e below (s₁.setTop (mkF m 16 #[.val (.long q0), .second, .val (.long q1), .second] [(.long q1), (.long q0), (.long ((q0 ^^^ q1) ^^^ (-1 : Int64))), (.long ((q0 ^^^ (-1 : Int64)) &&& q1))])) _
    refine XS.lsub X0.here hx rfl (hb hby own_d1_16) rfl ?_
    show Steps p.tables e below (s₁.setTop (mkF m 17 #[.val (.long q0), .second, .val (.long q1), .second] [(.long (q0 - q1)), (.long ((q0 ^^^ q1) ^^^ (-1 : Int64))), (.long ((q0 ^^^ (-1 : Int64)) &&& q1))])) _
    refine XS.land X0.here hx rfl (hb hby own_d1_17) rfl ?_
    show Steps p.tables e below (s₁.setTop (mkF m 18 #[.val (.long q0), .second, .val (.long q1), .second] [(.long (((q0 ^^^ q1) ^^^ (-1 : Int64)) &&& (q0 - q1))), (.long ((q0 ^^^ (-1 : Int64)) &&& q1))])) _
    refine XS.lor X0.here hx rfl (hb hby own_d1_18) rfl ?_
    show Steps p.tables e below (s₁.setTop (mkF m 19 #[.val (.long q0), .second, .val (.long q1), .second] [(.long (((q0 ^^^ (-1 : Int64)) &&& q1) ||| (((q0 ^^^ q1) ^^^ (-1 : Int64)) &&& (q0 - q1))))])) _
    refine XS.bipush X0.here hx rfl (hb hby own_d1_19) ?_
    show Steps p.tables e below (s₁.setTop (mkF m 21 #[.val (.long q0), .second, .val (.long q1), .second] [(.int (63 : Int32)), (.long (((q0 ^^^ (-1 : Int64)) &&& q1) ||| (((q0 ^^^ q1) ^^^ (-1 : Int64)) &&& (q0 - q1))))])) _
    refine XS.lushr X0.here hx rfl (hb hby own_d1_21) rfl ?_
    show Steps p.tables e below (s₁.setTop (mkF m 22 #[.val (.long q0), .second, .val (.long q1), .second] [(.long (((((q0 ^^^ (-1 : Int64)) &&& q1) ||| (((q0 ^^^ q1) ^^^ (-1 : Int64)) &&& (q0 - q1))).toUInt64 >>> ((63 : Int32) &&& 0x3f).toInt64.toUInt64).toInt64))])) _
    exact retOut X0 hx (t := .long) (i := .lreturn) Bd.returns rfl (Or.inr (Or.inl ⟨rfl, rfl, _, rfl⟩)) (hb hby own_d1_22) hr
  · show own_Q1 Z q0 q1 h0 n0 _ s₁.heap _
    rw [e0]
    have hv : own_f1 q0 q1 = (((((q0 ^^^ (-1 : Int64)) &&& q1) ||| (((q0 ^^^ q1) ^^^ (-1 : Int64)) &&& (q0 - q1))).toUInt64 >>> ((63 : Int32) &&& 0x3f).toInt64.toUInt64).toInt64) := by rfl
    exact ⟨by rw [hv], N0, rfl⟩
theorem own_f1_cases (q0 : Int64) (q1 : Int64) : own_f1 q0 q1 = (((((q0 ^^^ (-1 : Int64)) &&& q1) ||| (((q0 ^^^ q1) ^^^ (-1 : Int64)) &&& (q0 - q1))).toUInt64 >>> ((63 : Int32) &&& 0x3f).toInt64.toUInt64).toInt64) := by
  rfl
theorem own_d2_0 : decode method_2_code 0 = .ok (.lload_n 0, 1) := by decide +kernel
theorem own_d2_1 : decode method_2_code 1 = .ok (.lconst 0, 1) := by decide +kernel
theorem own_d2_2 : decode method_2_code 2 = .ok (.lcmp, 1) := by decide +kernel
theorem own_d2_3 : decode method_2_code 3 = .ok (.ifCond .ge 7, 3) := by decide +kernel
theorem own_d2_6 : decode method_2_code 6 = .ok (.iconst 1, 1) := by decide +kernel
theorem own_d2_7 : decode method_2_code 7 = .ok (.goto 4, 3) := by decide +kernel
theorem own_d2_11 : decode method_2_code 11 = .ok (.istore 4, 2) := by decide +kernel
theorem own_d2_13 : decode method_2_code 13 = .ok (.lload_n 2, 1) := by decide +kernel
theorem own_d2_14 : decode method_2_code 14 = .ok (.lconst 0, 1) := by decide +kernel
theorem own_d2_15 : decode method_2_code 15 = .ok (.lcmp, 1) := by decide +kernel
theorem own_d2_16 : decode method_2_code 16 = .ok (.ifCond .ge 7, 3) := by decide +kernel
theorem own_d2_19 : decode method_2_code 19 = .ok (.iconst 1, 1) := by decide +kernel
theorem own_d2_20 : decode method_2_code 20 = .ok (.goto 4, 3) := by decide +kernel
theorem own_d2_24 : decode method_2_code 24 = .ok (.istore 5, 2) := by decide +kernel
theorem own_d2_26 : decode method_2_code 26 = .ok (.iload 4, 2) := by decide +kernel
theorem own_d2_28 : decode method_2_code 28 = .ok (.iload 5, 2) := by decide +kernel
theorem own_d2_30 : decode method_2_code 30 = .ok (.if_icmp .eq 12, 3) := by decide +kernel
theorem own_d2_42 : decode method_2_code 42 = .ok (.lload_n 0, 1) := by decide +kernel
theorem own_d2_43 : decode method_2_code 43 = .ok (.lload_n 2, 1) := by decide +kernel
theorem own_d2_44 : decode method_2_code 44 = .ok (.lcmp, 1) := by decide +kernel
theorem own_d2_45 : decode method_2_code 45 = .ok (.ifCond .ge 5, 3) := by decide +kernel
theorem own_d2_48 : decode method_2_code 48 = .ok (.lconst 1, 1) := by decide +kernel
theorem own_d2_49 : decode method_2_code 49 = .ok (.lreturn, 1) := by decide +kernel
theorem own_d2_50 : decode method_2_code 50 = .ok (.lconst 0, 1) := by decide +kernel
theorem own_d2_51 : decode method_2_code 51 = .ok (.lreturn, 1) := by decide +kernel
theorem own_d2_23 : decode method_2_code 23 = .ok (.iconst 0, 1) := by decide +kernel
theorem own_d2_33 : decode method_2_code 33 = .ok (.iload 5, 2) := by decide +kernel
theorem own_d2_35 : decode method_2_code 35 = .ok (.ifCond .eq 5, 3) := by decide +kernel
theorem own_d2_40 : decode method_2_code 40 = .ok (.lconst 0, 1) := by decide +kernel
theorem own_d2_41 : decode method_2_code 41 = .ok (.lreturn, 1) := by decide +kernel
theorem own_d2_10 : decode method_2_code 10 = .ok (.iconst 0, 1) := by decide +kernel
theorem own_d2_38 : decode method_2_code 38 = .ok (.lconst 1, 1) := by decide +kernel
theorem own_d2_39 : decode method_2_code 39 = .ok (.lreturn, 1) := by decide +kernel
def own_f2 (q0 : Int64) (q1 : Int64) : Int64 := if q0 < (0 : Int64) then if q1 < (0 : Int64) then if q0 < q1 then (1 : Int64) else (0 : Int64) else (0 : Int64) else if q1 < (0 : Int64) then (1 : Int64) else if q0 < q1 then (1 : Int64) else (0 : Int64)
theorem own_pn52 : plainName "com/example/ringshift/ringshift/WordsBorrowPinLaw" = true := by first | (simp [plainName, overriddenIn]; done) | decide +kernel
theorem own_ef2 (m : MethodId) (q0 : Int64) (q1 : Int64) : entryFrame m #[(.long q0), (.long q1)] 6 = mkF m 0 #[.val (.long q0), .second, .val (.long q1), .second, .unset, .unset] [] := by first | (simp [entryFrame, mkF, argsToLocals, Value.category]; done) | rfl
def own_Q2 (Z : State) (q0 : Int64) (q1 : Int64) (h0 : Heap) (n0 : Nat) (v : Option Value) (h : Heap) (L : List Loc) : Prop := v = some (.long (own_f2 q0 q1)) ∧ Fr n0 L ∧ h = h0
set_option maxRecDepth 65536 in
set_option maxHeartbeats 40000000 in
theorem own_rm2 (l : Launch) (Z : State) (av : Array Value) (hw : ∀ d ∈ tables_1, d.before av Z = true) (ws : List Jvm.Cond) (q0 : Int64) (q1 : Int64) (h0 : Heap) (n0 : Nat) (Z0 : n0 ≤ h0.size) :
    MetFree l (⟨"com/example/ringshift/ringshift/WordsBorrowPinLaw", "expectedBorrow", "(JJ)J"⟩ : MethodName) (head1 (Jvm.Cond.code (⟨"com/example/ringshift/ringshift/WordsBorrowPinLaw", "expectedBorrow", "(JJ)J"⟩ : MethodName) method_2_code 6 (some .long) :: ws) ({ frames := 0, cells := 0, slots := 0, locals := 0 } : Room)) (fun a U => a = #[(.long q0), (.long q1)] ∧ Z.Warmed39 U.vm ∧ U.heap = h0) (fun _ _ _ _ _ => True) (fun _ U o U' => ∃ v L, o = .returned v ∧ own_Q2 Z q0 q1 h0 n0 v U'.heap L ∧ FrameEnd U o U' L ({ frames := 0, cells := 0, slots := 0, locals := 0 } : Room).cells ({ frames := 0, cells := 0, slots := 0, locals := 0 } : Room).slots) := by
  refine MetFree.of_bodySF (plainFor_of_name own_pn52) hisR ?_
  intro p e s m args below meth c s₁ Bd hml0 hP hK
  obtain ⟨rfl, hZ, hh⟩ := hP
  have hx := Bd.exec
  have hby := Bd.bytes
  have hml : c.maxLocals = 6 := hml0
  have hown : s.vm.findClass "com/example/ringshift/ringshift/WordsBorrowPinLaw" = some m.cls := findClass_of_methodNamed Bd.named
  have hnm := (name_of_methodNamed Bd.named Bd.method).1
  have X0 : Stand p l e ({ frames := 0, cells := 0, slots := 0, locals := 0 } : Room) s m #[(.long q0), (.long q1)] below meth c s₁ [] 0 0 := Stand.of_body Bd
  have e0 : s₁.heap = h0 := by rw [← hh, Bd.state]; rfl
  have N0 := Fr.nil n0
  have pre0 : ∀ t, Steps p.tables e below (s₁.setTop (mkF m 0 #[.val (.long q0), .second, .val (.long q1), .second, .unset, .unset] [])) t → Steps p.tables e below (s₁.setTop (entryFrame m #[(.long q0), (.long q1)] 6)) t := fun t k => castTop (own_ef2 m q0 q1) k
  have pre1 : ∀ t, Steps p.tables e below (s₁.setTop (mkF m 3 #[.val (.long q0), .second, .val (.long q1), .second, .unset, .unset] [(.int (lcmpW q0 (0 : Int64)))])) t → Steps p.tables e below (s₁.setTop (entryFrame m #[(.long q0), (.long q1)] 6)) t := fun t kk => pre0 t (by
    show Steps p.tables e below (s₁.setTop (mkF m 0 #[.val (.long q0), .second, .val (.long q1), .second, .unset, .unset] [])) _
    refine XS.lloadN X0.here hx rfl (hb hby own_d2_0) rfl ?_
    show Steps p.tables e below (s₁.setTop (mkF m 1 #[.val (.long q0), .second, .val (.long q1), .second, .unset, .unset] [(.long q0)])) _
    refine XS.lconst X0.here hx rfl (hb hby own_d2_1) ?_
    show Steps p.tables e below (s₁.setTop (mkF m 2 #[.val (.long q0), .second, .val (.long q1), .second, .unset, .unset] [(.long (0 : Int64)), (.long q0)])) _
    refine XS.lcmp X0.here hx rfl (hb hby own_d2_2) rfl ?_
    show Steps p.tables e below (s₁.setTop (mkF m 3 #[.val (.long q0), .second, .val (.long q1), .second, .unset, .unset] [(.int (lcmpW q0 (0 : Int64)))])) _
    exact kk)
  by_cases hc2 : q0 < (0 : Int64)
  · have pre3 : ∀ t, Steps p.tables e below (s₁.setTop (mkF m 16 #[.val (.long q0), .second, .val (.long q1), .second, .val (.int (1 : Int32)), .unset] [(.int (lcmpW q1 (0 : Int64)))])) t → Steps p.tables e below (s₁.setTop (entryFrame m #[(.long q0), (.long q1)] 6)) t := fun t kk => pre1 t (by
      show Steps p.tables e below (s₁.setTop (mkF m 3 #[.val (.long q0), .second, .val (.long q1), .second, .unset, .unset] [(.int (lcmpW q0 (0 : Int64)))])) _
      refine XS.ifNo X0.here hx rfl (hb hby own_d2_3) rfl ((if0 _ _).trans (tlt ((lw_lt q0 (0 : Int64)).mpr hc2)).2.1) ?_
      show Steps p.tables e below (s₁.setTop (mkF m 6 #[.val (.long q0), .second, .val (.long q1), .second, .unset, .unset] [])) _
      refine XS.iconst X0.here hx rfl (hb hby own_d2_6) ?_
      show Steps p.tables e below (s₁.setTop (mkF m 7 #[.val (.long q0), .second, .val (.long q1), .second, .unset, .unset] [(.int (1 : Int32))])) _
      refine XS.goto X0.here hx rfl (pc0 := 7) (pc' := 11) rfl (hb hby own_d2_7) (by decide) (by decide) ?_
      show Steps p.tables e below (s₁.setTop (mkF m 11 #[.val (.long q0), .second, .val (.long q1), .second, .unset, .unset] [(.int (1 : Int32))])) _
      refine XS.istore X0.here hx rfl (hb hby own_d2_11) rfl (l' := #[.val (.long q0), .second, .val (.long q1), .second, .val (.int (1 : Int32)), .unset]) rfl ?_
      show Steps p.tables e below (s₁.setTop (mkF m 13 #[.val (.long q0), .second, .val (.long q1), .second, .val (.int (1 : Int32)), .unset] [])) _
      refine XS.lloadN X0.here hx rfl (hb hby own_d2_13) rfl ?_
      show Steps p.tables e below (s₁.setTop (mkF m 14 #[.val (.long q0), .second, .val (.long q1), .second, .val (.int (1 : Int32)), .unset] [(.long q1)])) _
      refine XS.lconst X0.here hx rfl (hb hby own_d2_14) ?_
      show Steps p.tables e below (s₁.setTop (mkF m 15 #[.val (.long q0), .second, .val (.long q1), .second, .val (.int (1 : Int32)), .unset] [(.long (0 : Int64)), (.long q1)])) _
      refine XS.lcmp X0.here hx rfl (hb hby own_d2_15) rfl ?_
      show Steps p.tables e below (s₁.setTop (mkF m 16 #[.val (.long q0), .second, .val (.long q1), .second, .val (.int (1 : Int32)), .unset] [(.int (lcmpW q1 (0 : Int64)))])) _
      exact kk)
    by_cases hc4 : q1 < (0 : Int64)
    · have pre5 : ∀ t, Steps p.tables e below (s₁.setTop (mkF m 45 #[.val (.long q0), .second, .val (.long q1), .second, .val (.int (1 : Int32)), .val (.int (1 : Int32))] [(.int (lcmpW q0 q1))])) t → Steps p.tables e below (s₁.setTop (entryFrame m #[(.long q0), (.long q1)] 6)) t := fun t kk => pre3 t (by
        show Steps p.tables e below (s₁.setTop (mkF m 16 #[.val (.long q0), .second, .val (.long q1), .second, .val (.int (1 : Int32)), .unset] [(.int (lcmpW q1 (0 : Int64)))])) _
        refine XS.ifNo X0.here hx rfl (hb hby own_d2_16) rfl ((if0 _ _).trans (tlt ((lw_lt q1 (0 : Int64)).mpr hc4)).2.1) ?_
        show Steps p.tables e below (s₁.setTop (mkF m 19 #[.val (.long q0), .second, .val (.long q1), .second, .val (.int (1 : Int32)), .unset] [])) _
        refine XS.iconst X0.here hx rfl (hb hby own_d2_19) ?_
        show Steps p.tables e below (s₁.setTop (mkF m 20 #[.val (.long q0), .second, .val (.long q1), .second, .val (.int (1 : Int32)), .unset] [(.int (1 : Int32))])) _
        refine XS.goto X0.here hx rfl (pc0 := 20) (pc' := 24) rfl (hb hby own_d2_20) (by decide) (by decide) ?_
        show Steps p.tables e below (s₁.setTop (mkF m 24 #[.val (.long q0), .second, .val (.long q1), .second, .val (.int (1 : Int32)), .unset] [(.int (1 : Int32))])) _
        refine XS.istore X0.here hx rfl (hb hby own_d2_24) rfl (l' := #[.val (.long q0), .second, .val (.long q1), .second, .val (.int (1 : Int32)), .val (.int (1 : Int32))]) rfl ?_
        show Steps p.tables e below (s₁.setTop (mkF m 26 #[.val (.long q0), .second, .val (.long q1), .second, .val (.int (1 : Int32)), .val (.int (1 : Int32))] [])) _
        refine XS.iload X0.here hx rfl (hb hby own_d2_26) rfl ?_
        show Steps p.tables e below (s₁.setTop (mkF m 28 #[.val (.long q0), .second, .val (.long q1), .second, .val (.int (1 : Int32)), .val (.int (1 : Int32))] [(.int (1 : Int32))])) _
        refine XS.iload X0.here hx rfl (hb hby own_d2_28) rfl ?_
        show Steps p.tables e below (s₁.setTop (mkF m 30 #[.val (.long q0), .second, .val (.long q1), .second, .val (.int (1 : Int32)), .val (.int (1 : Int32))] [(.int (1 : Int32)), (.int (1 : Int32))])) _
        refine XS.icmpYes X0.here hx rfl (pc0 := 30) (pc' := 42) rfl (hb hby own_d2_30) rfl (teq (by decide : (1 : Int32) = (1 : Int32))).1 (by decide) (by decide) ?_
        show Steps p.tables e below (s₁.setTop (mkF m 42 #[.val (.long q0), .second, .val (.long q1), .second, .val (.int (1 : Int32)), .val (.int (1 : Int32))] [])) _
        refine XS.lloadN X0.here hx rfl (hb hby own_d2_42) rfl ?_
        show Steps p.tables e below (s₁.setTop (mkF m 43 #[.val (.long q0), .second, .val (.long q1), .second, .val (.int (1 : Int32)), .val (.int (1 : Int32))] [(.long q0)])) _
        refine XS.lloadN X0.here hx rfl (hb hby own_d2_43) rfl ?_
        show Steps p.tables e below (s₁.setTop (mkF m 44 #[.val (.long q0), .second, .val (.long q1), .second, .val (.int (1 : Int32)), .val (.int (1 : Int32))] [(.long q1), (.long q0)])) _
        refine XS.lcmp X0.here hx rfl (hb hby own_d2_44) rfl ?_
        show Steps p.tables e below (s₁.setTop (mkF m 45 #[.val (.long q0), .second, .val (.long q1), .second, .val (.int (1 : Int32)), .val (.int (1 : Int32))] [(.int (lcmpW q0 q1))])) _
        exact kk)
      by_cases hc6 : q0 < q1
      · obtain ⟨fs, hr, hrun, hended, hW, hsame⟩ := X0.leave (v := some (.long (1 : Int64))) (fun h => by rw [Bd.returns] at h; cases h)
        refine ⟨_, _, pre5 _ ?_, hrun, hended, _, _, rfl, ?_, ⟨_, rfl⟩, hW, hsame.mono (by decide) (by decide)⟩
        · show Steps p.tables e below (s₁.setTop (mkF m 45 #[.val (.long q0), .second, .val (.long q1), .second, .val (.int (1 : Int32)), .val (.int (1 : Int32))] [(.int (lcmpW q0 q1))])) _
          refine XS.ifNo X0.here hx rfl (hb hby own_d2_45) rfl ((if0 _ _).trans (tlt ((lw_lt q0 q1).mpr hc6)).2.1) ?_
          show Steps p.tables e below (s₁.setTop (mkF m 48 #[.val (.long q0), .second, .val (.long q1), .second, .val (.int (1 : Int32)), .val (.int (1 : Int32))] [])) _
          refine XS.lconst X0.here hx rfl (hb hby own_d2_48) ?_
          show Steps p.tables e below (s₁.setTop (mkF m 49 #[.val (.long q0), .second, .val (.long q1), .second, .val (.int (1 : Int32)), .val (.int (1 : Int32))] [(.long (1 : Int64))])) _
          exact retOut X0 hx (t := .long) (i := .lreturn) Bd.returns rfl (Or.inr (Or.inl ⟨rfl, rfl, _, rfl⟩)) (hb hby own_d2_49) hr
        · show own_Q2 Z q0 q1 h0 n0 _ s₁.heap _
          rw [e0]
          have hv : own_f2 q0 q1 = (1 : Int64) := by unfold own_f2; rw [if_pos hc2, if_pos hc4, if_pos hc6]
          exact ⟨by rw [hv], N0, rfl⟩
      · obtain ⟨fs, hr, hrun, hended, hW, hsame⟩ := X0.leave (v := some (.long (0 : Int64))) (fun h => by rw [Bd.returns] at h; cases h)
        refine ⟨_, _, pre5 _ ?_, hrun, hended, _, _, rfl, ?_, ⟨_, rfl⟩, hW, hsame.mono (by decide) (by decide)⟩
        · show Steps p.tables e below (s₁.setTop (mkF m 45 #[.val (.long q0), .second, .val (.long q1), .second, .val (.int (1 : Int32)), .val (.int (1 : Int32))] [(.int (lcmpW q0 q1))])) _
          refine XS.ifYes X0.here hx rfl (pc0 := 45) (pc' := 50) rfl (hb hby own_d2_45) rfl ((if0 _ _).trans (flt (mt (lw_lt q0 q1).mp hc6)).2.1) (by decide) (by decide) ?_
          show Steps p.tables e below (s₁.setTop (mkF m 50 #[.val (.long q0), .second, .val (.long q1), .second, .val (.int (1 : Int32)), .val (.int (1 : Int32))] [])) _
          refine XS.lconst X0.here hx rfl (hb hby own_d2_50) ?_
          show Steps p.tables e below (s₁.setTop (mkF m 51 #[.val (.long q0), .second, .val (.long q1), .second, .val (.int (1 : Int32)), .val (.int (1 : Int32))] [(.long (0 : Int64))])) _
          exact retOut X0 hx (t := .long) (i := .lreturn) Bd.returns rfl (Or.inr (Or.inl ⟨rfl, rfl, _, rfl⟩)) (hb hby own_d2_51) hr
        · show own_Q2 Z q0 q1 h0 n0 _ s₁.heap _
          rw [e0]
          have hv : own_f2 q0 q1 = (0 : Int64) := by unfold own_f2; rw [if_pos hc2, if_pos hc4, if_neg hc6]
          exact ⟨by rw [hv], N0, rfl⟩
    · obtain ⟨fs, hr, hrun, hended, hW, hsame⟩ := X0.leave (v := some (.long (0 : Int64))) (fun h => by rw [Bd.returns] at h; cases h)
      refine ⟨_, _, pre3 _ ?_, hrun, hended, _, _, rfl, ?_, ⟨_, rfl⟩, hW, hsame.mono (by decide) (by decide)⟩
      · show Steps p.tables e below (s₁.setTop (mkF m 16 #[.val (.long q0), .second, .val (.long q1), .second, .val (.int (1 : Int32)), .unset] [(.int (lcmpW q1 (0 : Int64)))])) _
        refine XS.ifYes X0.here hx rfl (pc0 := 16) (pc' := 23) rfl (hb hby own_d2_16) rfl ((if0 _ _).trans (flt (mt (lw_lt q1 (0 : Int64)).mp hc4)).2.1) (by decide) (by decide) ?_
        show Steps p.tables e below (s₁.setTop (mkF m 23 #[.val (.long q0), .second, .val (.long q1), .second, .val (.int (1 : Int32)), .unset] [])) _
        refine XS.iconst X0.here hx rfl (hb hby own_d2_23) ?_
        show Steps p.tables e below (s₁.setTop (mkF m 24 #[.val (.long q0), .second, .val (.long q1), .second, .val (.int (1 : Int32)), .unset] [(.int (0 : Int32))])) _
        refine XS.istore X0.here hx rfl (hb hby own_d2_24) rfl (l' := #[.val (.long q0), .second, .val (.long q1), .second, .val (.int (1 : Int32)), .val (.int (0 : Int32))]) rfl ?_
        show Steps p.tables e below (s₁.setTop (mkF m 26 #[.val (.long q0), .second, .val (.long q1), .second, .val (.int (1 : Int32)), .val (.int (0 : Int32))] [])) _
        refine XS.iload X0.here hx rfl (hb hby own_d2_26) rfl ?_
        show Steps p.tables e below (s₁.setTop (mkF m 28 #[.val (.long q0), .second, .val (.long q1), .second, .val (.int (1 : Int32)), .val (.int (0 : Int32))] [(.int (1 : Int32))])) _
        refine XS.iload X0.here hx rfl (hb hby own_d2_28) rfl ?_
        show Steps p.tables e below (s₁.setTop (mkF m 30 #[.val (.long q0), .second, .val (.long q1), .second, .val (.int (1 : Int32)), .val (.int (0 : Int32))] [(.int (0 : Int32)), (.int (1 : Int32))])) _
        refine XS.icmpNo X0.here hx rfl (hb hby own_d2_30) rfl (feq (by decide : ¬ ((1 : Int32) = (0 : Int32)))).1 ?_
        show Steps p.tables e below (s₁.setTop (mkF m 33 #[.val (.long q0), .second, .val (.long q1), .second, .val (.int (1 : Int32)), .val (.int (0 : Int32))] [])) _
        refine XS.iload X0.here hx rfl (hb hby own_d2_33) rfl ?_
        show Steps p.tables e below (s₁.setTop (mkF m 35 #[.val (.long q0), .second, .val (.long q1), .second, .val (.int (1 : Int32)), .val (.int (0 : Int32))] [(.int (0 : Int32))])) _
        refine XS.ifYes X0.here hx rfl (pc0 := 35) (pc' := 40) rfl (hb hby own_d2_35) rfl ((if0 _ _).trans (teq (by decide : (0 : Int32) = (0 : Int32))).1) (by decide) (by decide) ?_
        show Steps p.tables e below (s₁.setTop (mkF m 40 #[.val (.long q0), .second, .val (.long q1), .second, .val (.int (1 : Int32)), .val (.int (0 : Int32))] [])) _
        refine XS.lconst X0.here hx rfl (hb hby own_d2_40) ?_
        show Steps p.tables e below (s₁.setTop (mkF m 41 #[.val (.long q0), .second, .val (.long q1), .second, .val (.int (1 : Int32)), .val (.int (0 : Int32))] [(.long (0 : Int64))])) _
        exact retOut X0 hx (t := .long) (i := .lreturn) Bd.returns rfl (Or.inr (Or.inl ⟨rfl, rfl, _, rfl⟩)) (hb hby own_d2_41) hr
      · show own_Q2 Z q0 q1 h0 n0 _ s₁.heap _
        rw [e0]
        have hv : own_f2 q0 q1 = (0 : Int64) := by unfold own_f2; rw [if_pos hc2, if_neg hc4]
        exact ⟨by rw [hv], N0, rfl⟩
  · have pre7 : ∀ t, Steps p.tables e below (s₁.setTop (mkF m 16 #[.val (.long q0), .second, .val (.long q1), .second, .val (.int (0 : Int32)), .unset] [(.int (lcmpW q1 (0 : Int64)))])) t → Steps p.tables e below (s₁.setTop (entryFrame m #[(.long q0), (.long q1)] 6)) t := fun t kk => pre1 t (by
      show Steps p.tables e below (s₁.setTop (mkF m 3 #[.val (.long q0), .second, .val (.long q1), .second, .unset, .unset] [(.int (lcmpW q0 (0 : Int64)))])) _
      refine XS.ifYes X0.here hx rfl (pc0 := 3) (pc' := 10) rfl (hb hby own_d2_3) rfl ((if0 _ _).trans (flt (mt (lw_lt q0 (0 : Int64)).mp hc2)).2.1) (by decide) (by decide) ?_
      show Steps p.tables e below (s₁.setTop (mkF m 10 #[.val (.long q0), .second, .val (.long q1), .second, .unset, .unset] [])) _
      refine XS.iconst X0.here hx rfl (hb hby own_d2_10) ?_
      show Steps p.tables e below (s₁.setTop (mkF m 11 #[.val (.long q0), .second, .val (.long q1), .second, .unset, .unset] [(.int (0 : Int32))])) _
      refine XS.istore X0.here hx rfl (hb hby own_d2_11) rfl (l' := #[.val (.long q0), .second, .val (.long q1), .second, .val (.int (0 : Int32)), .unset]) rfl ?_
      show Steps p.tables e below (s₁.setTop (mkF m 13 #[.val (.long q0), .second, .val (.long q1), .second, .val (.int (0 : Int32)), .unset] [])) _
      refine XS.lloadN X0.here hx rfl (hb hby own_d2_13) rfl ?_
      show Steps p.tables e below (s₁.setTop (mkF m 14 #[.val (.long q0), .second, .val (.long q1), .second, .val (.int (0 : Int32)), .unset] [(.long q1)])) _
      refine XS.lconst X0.here hx rfl (hb hby own_d2_14) ?_
      show Steps p.tables e below (s₁.setTop (mkF m 15 #[.val (.long q0), .second, .val (.long q1), .second, .val (.int (0 : Int32)), .unset] [(.long (0 : Int64)), (.long q1)])) _
      refine XS.lcmp X0.here hx rfl (hb hby own_d2_15) rfl ?_
      show Steps p.tables e below (s₁.setTop (mkF m 16 #[.val (.long q0), .second, .val (.long q1), .second, .val (.int (0 : Int32)), .unset] [(.int (lcmpW q1 (0 : Int64)))])) _
      exact kk)
    by_cases hc8 : q1 < (0 : Int64)
    · obtain ⟨fs, hr, hrun, hended, hW, hsame⟩ := X0.leave (v := some (.long (1 : Int64))) (fun h => by rw [Bd.returns] at h; cases h)
      refine ⟨_, _, pre7 _ ?_, hrun, hended, _, _, rfl, ?_, ⟨_, rfl⟩, hW, hsame.mono (by decide) (by decide)⟩
      · show Steps p.tables e below (s₁.setTop (mkF m 16 #[.val (.long q0), .second, .val (.long q1), .second, .val (.int (0 : Int32)), .unset] [(.int (lcmpW q1 (0 : Int64)))])) _
        refine XS.ifNo X0.here hx rfl (hb hby own_d2_16) rfl ((if0 _ _).trans (tlt ((lw_lt q1 (0 : Int64)).mpr hc8)).2.1) ?_
        show Steps p.tables e below (s₁.setTop (mkF m 19 #[.val (.long q0), .second, .val (.long q1), .second, .val (.int (0 : Int32)), .unset] [])) _
        refine XS.iconst X0.here hx rfl (hb hby own_d2_19) ?_
        show Steps p.tables e below (s₁.setTop (mkF m 20 #[.val (.long q0), .second, .val (.long q1), .second, .val (.int (0 : Int32)), .unset] [(.int (1 : Int32))])) _
        refine XS.goto X0.here hx rfl (pc0 := 20) (pc' := 24) rfl (hb hby own_d2_20) (by decide) (by decide) ?_
        show Steps p.tables e below (s₁.setTop (mkF m 24 #[.val (.long q0), .second, .val (.long q1), .second, .val (.int (0 : Int32)), .unset] [(.int (1 : Int32))])) _
        refine XS.istore X0.here hx rfl (hb hby own_d2_24) rfl (l' := #[.val (.long q0), .second, .val (.long q1), .second, .val (.int (0 : Int32)), .val (.int (1 : Int32))]) rfl ?_
        show Steps p.tables e below (s₁.setTop (mkF m 26 #[.val (.long q0), .second, .val (.long q1), .second, .val (.int (0 : Int32)), .val (.int (1 : Int32))] [])) _
        refine XS.iload X0.here hx rfl (hb hby own_d2_26) rfl ?_
        show Steps p.tables e below (s₁.setTop (mkF m 28 #[.val (.long q0), .second, .val (.long q1), .second, .val (.int (0 : Int32)), .val (.int (1 : Int32))] [(.int (0 : Int32))])) _
        refine XS.iload X0.here hx rfl (hb hby own_d2_28) rfl ?_
        show Steps p.tables e below (s₁.setTop (mkF m 30 #[.val (.long q0), .second, .val (.long q1), .second, .val (.int (0 : Int32)), .val (.int (1 : Int32))] [(.int (1 : Int32)), (.int (0 : Int32))])) _
        refine XS.icmpNo X0.here hx rfl (hb hby own_d2_30) rfl (feq (by decide : ¬ ((0 : Int32) = (1 : Int32)))).1 ?_
        show Steps p.tables e below (s₁.setTop (mkF m 33 #[.val (.long q0), .second, .val (.long q1), .second, .val (.int (0 : Int32)), .val (.int (1 : Int32))] [])) _
        refine XS.iload X0.here hx rfl (hb hby own_d2_33) rfl ?_
        show Steps p.tables e below (s₁.setTop (mkF m 35 #[.val (.long q0), .second, .val (.long q1), .second, .val (.int (0 : Int32)), .val (.int (1 : Int32))] [(.int (1 : Int32))])) _
        refine XS.ifNo X0.here hx rfl (hb hby own_d2_35) rfl ((if0 _ _).trans (feq (by decide : ¬ ((1 : Int32) = (0 : Int32)))).1) ?_
        show Steps p.tables e below (s₁.setTop (mkF m 38 #[.val (.long q0), .second, .val (.long q1), .second, .val (.int (0 : Int32)), .val (.int (1 : Int32))] [])) _
        refine XS.lconst X0.here hx rfl (hb hby own_d2_38) ?_
        show Steps p.tables e below (s₁.setTop (mkF m 39 #[.val (.long q0), .second, .val (.long q1), .second, .val (.int (0 : Int32)), .val (.int (1 : Int32))] [(.long (1 : Int64))])) _
        exact retOut X0 hx (t := .long) (i := .lreturn) Bd.returns rfl (Or.inr (Or.inl ⟨rfl, rfl, _, rfl⟩)) (hb hby own_d2_39) hr
      · show own_Q2 Z q0 q1 h0 n0 _ s₁.heap _
        rw [e0]
        have hv : own_f2 q0 q1 = (1 : Int64) := by unfold own_f2; rw [if_neg hc2, if_pos hc8]
        exact ⟨by rw [hv], N0, rfl⟩
    · have pre9 : ∀ t, Steps p.tables e below (s₁.setTop (mkF m 45 #[.val (.long q0), .second, .val (.long q1), .second, .val (.int (0 : Int32)), .val (.int (0 : Int32))] [(.int (lcmpW q0 q1))])) t → Steps p.tables e below (s₁.setTop (entryFrame m #[(.long q0), (.long q1)] 6)) t := fun t kk => pre7 t (by
        show Steps p.tables e below (s₁.setTop (mkF m 16 #[.val (.long q0), .second, .val (.long q1), .second, .val (.int (0 : Int32)), .unset] [(.int (lcmpW q1 (0 : Int64)))])) _
        refine XS.ifYes X0.here hx rfl (pc0 := 16) (pc' := 23) rfl (hb hby own_d2_16) rfl ((if0 _ _).trans (flt (mt (lw_lt q1 (0 : Int64)).mp hc8)).2.1) (by decide) (by decide) ?_
        show Steps p.tables e below (s₁.setTop (mkF m 23 #[.val (.long q0), .second, .val (.long q1), .second, .val (.int (0 : Int32)), .unset] [])) _
        refine XS.iconst X0.here hx rfl (hb hby own_d2_23) ?_
        show Steps p.tables e below (s₁.setTop (mkF m 24 #[.val (.long q0), .second, .val (.long q1), .second, .val (.int (0 : Int32)), .unset] [(.int (0 : Int32))])) _
        refine XS.istore X0.here hx rfl (hb hby own_d2_24) rfl (l' := #[.val (.long q0), .second, .val (.long q1), .second, .val (.int (0 : Int32)), .val (.int (0 : Int32))]) rfl ?_
        show Steps p.tables e below (s₁.setTop (mkF m 26 #[.val (.long q0), .second, .val (.long q1), .second, .val (.int (0 : Int32)), .val (.int (0 : Int32))] [])) _
        refine XS.iload X0.here hx rfl (hb hby own_d2_26) rfl ?_
        show Steps p.tables e below (s₁.setTop (mkF m 28 #[.val (.long q0), .second, .val (.long q1), .second, .val (.int (0 : Int32)), .val (.int (0 : Int32))] [(.int (0 : Int32))])) _
        refine XS.iload X0.here hx rfl (hb hby own_d2_28) rfl ?_
        show Steps p.tables e below (s₁.setTop (mkF m 30 #[.val (.long q0), .second, .val (.long q1), .second, .val (.int (0 : Int32)), .val (.int (0 : Int32))] [(.int (0 : Int32)), (.int (0 : Int32))])) _
        refine XS.icmpYes X0.here hx rfl (pc0 := 30) (pc' := 42) rfl (hb hby own_d2_30) rfl (teq (by decide : (0 : Int32) = (0 : Int32))).1 (by decide) (by decide) ?_
        show Steps p.tables e below (s₁.setTop (mkF m 42 #[.val (.long q0), .second, .val (.long q1), .second, .val (.int (0 : Int32)), .val (.int (0 : Int32))] [])) _
        refine XS.lloadN X0.here hx rfl (hb hby own_d2_42) rfl ?_
        show Steps p.tables e below (s₁.setTop (mkF m 43 #[.val (.long q0), .second, .val (.long q1), .second, .val (.int (0 : Int32)), .val (.int (0 : Int32))] [(.long q0)])) _
        refine XS.lloadN X0.here hx rfl (hb hby own_d2_43) rfl ?_
        show Steps p.tables e below (s₁.setTop (mkF m 44 #[.val (.long q0), .second, .val (.long q1), .second, .val (.int (0 : Int32)), .val (.int (0 : Int32))] [(.long q1), (.long q0)])) _
        refine XS.lcmp X0.here hx rfl (hb hby own_d2_44) rfl ?_
        show Steps p.tables e below (s₁.setTop (mkF m 45 #[.val (.long q0), .second, .val (.long q1), .second, .val (.int (0 : Int32)), .val (.int (0 : Int32))] [(.int (lcmpW q0 q1))])) _
        exact kk)
      by_cases hc10 : q0 < q1
      · obtain ⟨fs, hr, hrun, hended, hW, hsame⟩ := X0.leave (v := some (.long (1 : Int64))) (fun h => by rw [Bd.returns] at h; cases h)
        refine ⟨_, _, pre9 _ ?_, hrun, hended, _, _, rfl, ?_, ⟨_, rfl⟩, hW, hsame.mono (by decide) (by decide)⟩
        · show Steps p.tables e below (s₁.setTop (mkF m 45 #[.val (.long q0), .second, .val (.long q1), .second, .val (.int (0 : Int32)), .val (.int (0 : Int32))] [(.int (lcmpW q0 q1))])) _
          refine XS.ifNo X0.here hx rfl (hb hby own_d2_45) rfl ((if0 _ _).trans (tlt ((lw_lt q0 q1).mpr hc10)).2.1) ?_
          show Steps p.tables e below (s₁.setTop (mkF m 48 #[.val (.long q0), .second, .val (.long q1), .second, .val (.int (0 : Int32)), .val (.int (0 : Int32))] [])) _
          refine XS.lconst X0.here hx rfl (hb hby own_d2_48) ?_
          show Steps p.tables e below (s₁.setTop (mkF m 49 #[.val (.long q0), .second, .val (.long q1), .second, .val (.int (0 : Int32)), .val (.int (0 : Int32))] [(.long (1 : Int64))])) _
          exact retOut X0 hx (t := .long) (i := .lreturn) Bd.returns rfl (Or.inr (Or.inl ⟨rfl, rfl, _, rfl⟩)) (hb hby own_d2_49) hr
        · show own_Q2 Z q0 q1 h0 n0 _ s₁.heap _
          rw [e0]
          have hv : own_f2 q0 q1 = (1 : Int64) := by unfold own_f2; rw [if_neg hc2, if_neg hc8, if_pos hc10]
          exact ⟨by rw [hv], N0, rfl⟩
      · obtain ⟨fs, hr, hrun, hended, hW, hsame⟩ := X0.leave (v := some (.long (0 : Int64))) (fun h => by rw [Bd.returns] at h; cases h)
        refine ⟨_, _, pre9 _ ?_, hrun, hended, _, _, rfl, ?_, ⟨_, rfl⟩, hW, hsame.mono (by decide) (by decide)⟩
        · show Steps p.tables e below (s₁.setTop (mkF m 45 #[.val (.long q0), .second, .val (.long q1), .second, .val (.int (0 : Int32)), .val (.int (0 : Int32))] [(.int (lcmpW q0 q1))])) _
          refine XS.ifYes X0.here hx rfl (pc0 := 45) (pc' := 50) rfl (hb hby own_d2_45) rfl ((if0 _ _).trans (flt (mt (lw_lt q0 q1).mp hc10)).2.1) (by decide) (by decide) ?_
          show Steps p.tables e below (s₁.setTop (mkF m 50 #[.val (.long q0), .second, .val (.long q1), .second, .val (.int (0 : Int32)), .val (.int (0 : Int32))] [])) _
          refine XS.lconst X0.here hx rfl (hb hby own_d2_50) ?_
          show Steps p.tables e below (s₁.setTop (mkF m 51 #[.val (.long q0), .second, .val (.long q1), .second, .val (.int (0 : Int32)), .val (.int (0 : Int32))] [(.long (0 : Int64))])) _
          exact retOut X0 hx (t := .long) (i := .lreturn) Bd.returns rfl (Or.inr (Or.inl ⟨rfl, rfl, _, rfl⟩)) (hb hby own_d2_51) hr
        · show own_Q2 Z q0 q1 h0 n0 _ s₁.heap _
          rw [e0]
          have hv : own_f2 q0 q1 = (0 : Int64) := by unfold own_f2; rw [if_neg hc2, if_neg hc8, if_neg hc10]
          exact ⟨by rw [hv], N0, rfl⟩
theorem own_f2_cases (q0 : Int64) (q1 : Int64) : (q0 < (0 : Int64) ∧ ((q1 < (0 : Int64) ∧ ((q0 < q1 ∧ (own_f2 q0 q1 = (1 : Int64))) ∨ (¬ (q0 < q1) ∧ (own_f2 q0 q1 = (0 : Int64))))) ∨ (¬ (q1 < (0 : Int64)) ∧ (own_f2 q0 q1 = (0 : Int64))))) ∨ (¬ (q0 < (0 : Int64)) ∧ ((q1 < (0 : Int64) ∧ (own_f2 q0 q1 = (1 : Int64))) ∨ (¬ (q1 < (0 : Int64)) ∧ ((q0 < q1 ∧ (own_f2 q0 q1 = (1 : Int64))) ∨ (¬ (q0 < q1) ∧ (own_f2 q0 q1 = (0 : Int64))))))) := by
  by_cases cs0 : q0 < (0 : Int64)
  · refine Or.inl ⟨cs0, ?_⟩
    by_cases cs1 : q1 < (0 : Int64)
    · refine Or.inl ⟨cs1, ?_⟩
      by_cases cs2 : q0 < q1
      · refine Or.inl ⟨cs2, ?_⟩
        unfold own_f2; rw [if_pos cs0, if_pos cs1, if_pos cs2]
      · refine Or.inr ⟨cs2, ?_⟩
        unfold own_f2; rw [if_pos cs0, if_pos cs1, if_neg cs2]
    · refine Or.inr ⟨cs1, ?_⟩
      unfold own_f2; rw [if_pos cs0, if_neg cs1]
  · refine Or.inr ⟨cs0, ?_⟩
    by_cases cs1 : q1 < (0 : Int64)
    · refine Or.inl ⟨cs1, ?_⟩
      unfold own_f2; rw [if_neg cs0, if_pos cs1]
    · refine Or.inr ⟨cs1, ?_⟩
      by_cases cs2 : q0 < q1
      · refine Or.inl ⟨cs2, ?_⟩
        unfold own_f2; rw [if_neg cs0, if_neg cs1, if_pos cs2]
      · refine Or.inr ⟨cs2, ?_⟩
        unfold own_f2; rw [if_neg cs0, if_neg cs1, if_neg cs2]
set_option maxRecDepth 65536 in
set_option maxHeartbeats 40000000 in
theorem own_bor (a : Int64) (b : Int64) : (own_f1 a b) = (own_f2 a b) := by
  rcases Int.lt_or_le (a).toInt 0 with s0 | s0 <;> rcases Int.lt_or_le (b).toInt 0 with s1 | s1 <;> (
    have fc1 := own_f1_cases a b
    generalize own_f1 a b = ex1 at *
    generalize hex2 : (a - b) = ex2 at *
    generalize hex3 : (a ^^^ b) = ex3 at *
    generalize hex4 : (a ^^^ (-1 : Int64)) = ex4 at *
    generalize hex5 : (ex4 &&& b) = ex5 at *
    generalize hex6 : (ex3 ^^^ (-1 : Int64)) = ex6 at *
    generalize hex7 : (ex6 &&& ex2) = ex7 at *
    generalize hex8 : (ex5 ||| ex7) = ex8 at *
    generalize hex9 : ((ex8.toUInt64 >>> ((63 : Int32) &&& 0x3f).toInt64.toUInt64).toInt64) = ex9 at *
    have fc10 := own_f2_cases a b
    generalize own_f2 a b = ex10 at *
    try simp only [Int32.lt_iff_toInt_lt, Int64.lt_iff_toInt_lt, ← Int32.toInt_inj, ← Int64.toInt_inj, Int32.reduceToInt, Int64.reduceToInt, not_true_eq_false, not_false_eq_true, false_and, and_false, true_and, and_true, false_or, or_false, true_or, or_true]
    have := Int64.le_toInt a; have := Int64.toInt_lt a
    have := Int64.le_toInt b; have := Int64.toInt_lt b
    try simp only [Int32.lt_iff_toInt_lt, Int64.lt_iff_toInt_lt, ← Int32.toInt_inj, ← Int64.toInt_inj, Int32.reduceToInt, Int64.reduceToInt, not_true_eq_false, not_false_eq_true, false_and, and_false, true_and, and_true, false_or, or_false, true_or, or_true] at fc1
    have bl2 := Int64.le_toInt ex2; have bu2 := Int64.toInt_lt ex2
    have fa2 := c_lsub a b; rw [hex2] at fa2; try simp only [Int32.reduceToInt, Int64.reduceToInt] at fa2
    clear hex2
    have bl3 := Int64.le_toInt ex3; have bu3 := Int64.toInt_lt ex3
    have fa3 := c_xorSL a b; rw [hex3] at fa3; try simp only [Int32.reduceToInt, Int64.reduceToInt] at fa3
    first | (have fb3 := fa3.1 (by omega) (by omega); clear fa3) | (have fb3 := fa3.2.1 (by omega) (by omega); clear fa3) | (have fb3 := fa3.2.2.1 (by omega) (by omega); clear fa3) | (have fb3 := fa3.2.2.2 (by omega) (by omega); clear fa3) | skip
    clear hex3
    have bl4 := Int64.le_toInt ex4; have bu4 := Int64.toInt_lt ex4
    have fa4 := c_xorSL a (-1 : Int64); rw [hex4] at fa4; try simp only [Int32.reduceToInt, Int64.reduceToInt] at fa4
    first | (have fb4 := fa4.1 (by omega) (by omega); clear fa4) | (have fb4 := fa4.2.1 (by omega) (by omega); clear fa4) | (have fb4 := fa4.2.2.1 (by omega) (by omega); clear fa4) | (have fb4 := fa4.2.2.2 (by omega) (by omega); clear fa4) | skip
    clear hex4
    have bl5 := Int64.le_toInt ex5; have bu5 := Int64.toInt_lt ex5
    have fa5 := c_andSL ex4 b; rw [hex5] at fa5; try simp only [Int32.reduceToInt, Int64.reduceToInt] at fa5
    first | (have fb5 := fa5.1 (by omega) (by omega); clear fa5) | (have fb5 := fa5.2.1 (by omega); clear fa5) | (have fb5 := fa5.2.2 (by omega); clear fa5) | skip
    clear hex5
    have bl6 := Int64.le_toInt ex6; have bu6 := Int64.toInt_lt ex6
    have fa6 := c_xorSL ex3 (-1 : Int64); rw [hex6] at fa6; try simp only [Int32.reduceToInt, Int64.reduceToInt] at fa6
    first | (have fb6 := fa6.1 (by omega) (by omega); clear fa6) | (have fb6 := fa6.2.1 (by omega) (by omega); clear fa6) | (have fb6 := fa6.2.2.1 (by omega) (by omega); clear fa6) | (have fb6 := fa6.2.2.2 (by omega) (by omega); clear fa6) | skip
    clear hex6
    have bl7 := Int64.le_toInt ex7; have bu7 := Int64.toInt_lt ex7
    have fa7 := c_andSL ex6 ex2; rw [hex7] at fa7; try simp only [Int32.reduceToInt, Int64.reduceToInt] at fa7
    first | (have fb7 := fa7.1 (by omega) (by omega); clear fa7) | (have fb7 := fa7.2.1 (by omega); clear fa7) | (have fb7 := fa7.2.2 (by omega); clear fa7) | skip
    clear hex7
    have bl8 := Int64.le_toInt ex8; have bu8 := Int64.toInt_lt ex8
    have fa8 := c_orSL ex5 ex7; rw [hex8] at fa8; try simp only [Int32.reduceToInt, Int64.reduceToInt] at fa8
    first | (have fb8 := fa8.1 (by omega) (by omega); clear fa8) | (have fb8 := fa8.2.1 (by omega); clear fa8) | (have fb8 := fa8.2.2 (by omega); clear fa8) | skip
    clear hex8
    have bl9 := Int64.le_toInt ex9; have bu9 := Int64.toInt_lt ex9
    have fa9 := c_lushr ex8 (63 : Int32) 63 (by decide) (by decide); rw [hex9] at fa9; try simp only [Int32.reduceToInt, Int64.reduceToInt] at fa9
    clear hex9
    try simp only [Int32.lt_iff_toInt_lt, Int64.lt_iff_toInt_lt, ← Int32.toInt_inj, ← Int64.toInt_inj, Int32.reduceToInt, Int64.reduceToInt, not_true_eq_false, not_false_eq_true, false_and, and_false, true_and, and_true, false_or, or_false, true_or, or_true] at fc10
    all_goals omega
  )
theorem own_pd0 : parseMethodDescriptor "(JJ)J" = some ⟨[.long, .long], some .long⟩ := by decide +kernel
set_option maxRecDepth 65536 in
set_option maxHeartbeats 40000000 in
theorem own_leaf0_2 (q0 : Int64) (q1 : Int64) (p2 : Int32) (v11 : Int32) (hv11 : v11 = (p2 &&& (3 : Int32))) (v16 : Int64) (hv16 : v16 = (if v11 = (0 : Int32) then q1 else (if v11 = (1 : Int32) then q0 else (if v11 = (2 : Int32) then (q0 + (1 : Int64)) else (q0 - (1 : Int64)))))) (v21 : Int64) (hv21 : v21 = (own_f1 q0 v16)) (hc26 : ¬ (v21 = (own_f2 q0 v16))) : False := by
  exact hc26 (hv21.trans (own_bor _ _))
theorem own_ef0 (m : MethodId) (q0 : Int64) (q1 : Int64) (p2 : Int32) : entryFrame m #[(.long q0), (.long q1), (.int p2)] maxLocals = mkF m 0 #[.val (.long q0), .second, .val (.long q1), .second, .val (.int p2), .unset, .unset, .unset, .unset, .unset] [] := by first | (simp [entryFrame, mkF, argsToLocals, Value.category, maxLocals]; done) | rfl
def own_Q0 (Z : State) (q0 : Int64) (q1 : Int64) (p2 : Int32) (h0 : Heap) (n0 : Nat) (v : Option Value) (h : Heap) (L : List Loc) : Prop := v = some (.int 1) ∧ Fr n0 L
set_option maxRecDepth 65536 in
set_option maxHeartbeats 40000000 in
theorem own_rm0 (l : Launch) (Z : State) (av : Array Value) (hw : ∀ d ∈ tables_1, d.before av Z = true) (ws : List Jvm.Cond) (q0 : Int64) (q1 : Int64) (p2 : Int32) (h0 : Heap) (n0 : Nat) (Z0 : n0 ≤ h0.size) :
    MetFree l x (head1 (Jvm.Cond.code x code maxLocals ret :: ws) room_1) (fun a U => a = #[(.long q0), (.long q1), (.int p2)] ∧ Z.Warmed39 U.vm ∧ U.heap = h0) (fun _ _ _ _ _ => True) (fun _ U o U' => ∃ v L, o = .returned v ∧ own_Q0 Z q0 q1 p2 h0 n0 v U'.heap L ∧ FrameEnd U o U' L room_1.cells room_1.slots) := by
  refine MetFree.of_bodySF (plainFor_of_name own_pn52) hisR ?_
  intro p e s m args below meth c s₁ Bd hml0 hP hK
  obtain ⟨rfl, hZ, hh⟩ := hP
  have hx := Bd.exec
  have hby := Bd.bytes
  have hml : c.maxLocals = 10 := hml0
  have hown : s.vm.findClass "com/example/ringshift/ringshift/WordsBorrowPinLaw" = some m.cls := findClass_of_methodNamed Bd.named
  have hnm := (name_of_methodNamed Bd.named Bd.method).1
  have X0 : Stand p l e room_1 s m #[(.long q0), (.long q1), (.int p2)] below meth c s₁ [] 0 0 := Stand.of_body Bd
  have e0 : s₁.heap = h0 := by rw [← hh, Bd.state]; rfl
  have N0 := Fr.nil n0
  have pre0 : ∀ t, Steps p.tables e below (s₁.setTop (mkF m 0 #[.val (.long q0), .second, .val (.long q1), .second, .val (.int p2), .unset, .unset, .unset, .unset, .unset] [])) t → Steps p.tables e below (s₁.setTop (entryFrame m #[(.long q0), (.long q1), (.int p2)] maxLocals)) t := fun t k => castTop (own_ef0 m q0 q1 p2) k
  obtain ⟨v11, hv11⟩ : ∃ z : Int32, z = (p2 &&& (3 : Int32)) := ⟨_, rfl⟩
  have pre12 : ∀ t, Steps p.tables e below (s₁.setTop (mkF m 8 #[.val (.long q0), .second, .val (.long q1), .second, .val (.int p2), .val (.int v11), .unset, .unset, .unset, .unset] [(.int v11)])) t → Steps p.tables e below (s₁.setTop (entryFrame m #[(.long q0), (.long q1), (.int p2)] maxLocals)) t := fun t kk => pre0 t (by
    show Steps p.tables e below (s₁.setTop (mkF m 0 #[.val (.long q0), .second, .val (.long q1), .second, .val (.int p2), .unset, .unset, .unset, .unset, .unset] [])) _
    refine XS.iload X0.here hx rfl (hb hby at_0) rfl ?_
    show Steps p.tables e below (s₁.setTop (mkF m 2 #[.val (.long q0), .second, .val (.long q1), .second, .val (.int p2), .unset, .unset, .unset, .unset, .unset] [(.int p2)])) _
    refine XS.iconst X0.here hx rfl (hb hby at_2) ?_
    show Steps p.tables e below (s₁.setTop (mkF m 3 #[.val (.long q0), .second, .val (.long q1), .second, .val (.int p2), .unset, .unset, .unset, .unset, .unset] [(.int (3 : Int32)), (.int p2)])) _
    refine XS.iand X0.here hx rfl (hb hby at_3) rfl ?_
    show Steps p.tables e below (s₁.setTop (mkF m 4 #[.val (.long q0), .second, .val (.long q1), .second, .val (.int p2), .unset, .unset, .unset, .unset, .unset] [(.int (p2 &&& (3 : Int32)))])) _
    refine castTop (congrArg (fun z : Int32 => mkF m 4 #[.val (.long q0), .second, .val (.long q1), .second, .val (.int p2), .unset, .unset, .unset, .unset, .unset] [(.int z)]) hv11.symm) ?_
    show Steps p.tables e below (s₁.setTop (mkF m 4 #[.val (.long q0), .second, .val (.long q1), .second, .val (.int p2), .unset, .unset, .unset, .unset, .unset] [(.int v11)])) _
    refine XS.istore X0.here hx rfl (hb hby at_4) rfl (l' := #[.val (.long q0), .second, .val (.long q1), .second, .val (.int p2), .val (.int v11), .unset, .unset, .unset, .unset]) rfl ?_
    show Steps p.tables e below (s₁.setTop (mkF m 6 #[.val (.long q0), .second, .val (.long q1), .second, .val (.int p2), .val (.int v11), .unset, .unset, .unset, .unset] [])) _
    refine XS.iload X0.here hx rfl (hb hby at_6) rfl ?_
    show Steps p.tables e below (s₁.setTop (mkF m 8 #[.val (.long q0), .second, .val (.long q1), .second, .val (.int p2), .val (.int v11), .unset, .unset, .unset, .unset] [(.int v11)])) _
    exact kk)
  obtain ⟨v16, hv16⟩ : ∃ z : Int64, z = (if v11 = (0 : Int32) then q1 else (if v11 = (1 : Int32) then q0 else (if v11 = (2 : Int32) then (q0 + (1 : Int64)) else (q0 - (1 : Int64))))) := ⟨_, rfl⟩
  have pre17 : ∀ t, Steps p.tables e below (s₁.setTop (mkF m 48 #[.val (.long q0), .second, .val (.long q1), .second, .val (.int p2), .val (.int v11), .val (.long v16), .second, .unset, .unset] [])) t → Steps p.tables e below (s₁.setTop (entryFrame m #[(.long q0), (.long q1), (.int p2)] maxLocals)) t := fun t kk => pre12 t (by
    show Steps p.tables e below (s₁.setTop (mkF m 8 #[.val (.long q0), .second, .val (.long q1), .second, .val (.int p2), .val (.int v11), .unset, .unset, .unset, .unset] [(.int v11)])) _
    by_cases hc13 : v11 = (0 : Int32)
    · refine XS.ifNo X0.here hx rfl (hb hby at_8) rfl ((if0 _ _).trans (teq hc13).2) ?_
      show Steps p.tables e below (s₁.setTop (mkF m 11 #[.val (.long q0), .second, .val (.long q1), .second, .val (.int p2), .val (.int v11), .unset, .unset, .unset, .unset] [])) _
      refine XS.lloadN X0.here hx rfl (hb hby at_11) rfl ?_
      show Steps p.tables e below (s₁.setTop (mkF m 12 #[.val (.long q0), .second, .val (.long q1), .second, .val (.int p2), .val (.int v11), .unset, .unset, .unset, .unset] [(.long q1)])) _
      refine XS.lstore X0.here hx rfl (hb hby at_12) rfl (l' := #[.val (.long q0), .second, .val (.long q1), .second, .val (.int p2), .val (.int v11), .val (.long q1), .second, .unset, .unset]) rfl ?_
      show Steps p.tables e below (s₁.setTop (mkF m 14 #[.val (.long q0), .second, .val (.long q1), .second, .val (.int p2), .val (.int v11), .val (.long q1), .second, .unset, .unset] [])) _
      refine XS.goto X0.here hx rfl (pc0 := 14) (pc' := 48) rfl (hb hby at_14) (by decide) (by decide) ?_
      rw [show v16 = q1 by rw [hv16, if_pos hc13]] at kk
      exact kk
    · refine XS.ifYes X0.here hx rfl (pc0 := 8) (pc' := 17) rfl (hb hby at_8) rfl ((if0 _ _).trans (feq hc13).2) (by decide) (by decide) ?_
      show Steps p.tables e below (s₁.setTop (mkF m 17 #[.val (.long q0), .second, .val (.long q1), .second, .val (.int p2), .val (.int v11), .unset, .unset, .unset, .unset] [])) _
      refine XS.iload X0.here hx rfl (hb hby at_17) rfl ?_
      show Steps p.tables e below (s₁.setTop (mkF m 19 #[.val (.long q0), .second, .val (.long q1), .second, .val (.int p2), .val (.int v11), .unset, .unset, .unset, .unset] [(.int v11)])) _
      refine XS.iconst X0.here hx rfl (hb hby at_19) ?_
      show Steps p.tables e below (s₁.setTop (mkF m 20 #[.val (.long q0), .second, .val (.long q1), .second, .val (.int p2), .val (.int v11), .unset, .unset, .unset, .unset] [(.int (1 : Int32)), (.int v11)])) _
      by_cases hc14 : v11 = (1 : Int32)
      · refine XS.icmpNo X0.here hx rfl (hb hby at_20) rfl (teq hc14).2 ?_
        show Steps p.tables e below (s₁.setTop (mkF m 23 #[.val (.long q0), .second, .val (.long q1), .second, .val (.int p2), .val (.int v11), .unset, .unset, .unset, .unset] [])) _
        refine XS.lloadN X0.here hx rfl (hb hby at_23) rfl ?_
        show Steps p.tables e below (s₁.setTop (mkF m 24 #[.val (.long q0), .second, .val (.long q1), .second, .val (.int p2), .val (.int v11), .unset, .unset, .unset, .unset] [(.long q0)])) _
        refine XS.lstore X0.here hx rfl (hb hby at_24) rfl (l' := #[.val (.long q0), .second, .val (.long q1), .second, .val (.int p2), .val (.int v11), .val (.long q0), .second, .unset, .unset]) rfl ?_
        show Steps p.tables e below (s₁.setTop (mkF m 26 #[.val (.long q0), .second, .val (.long q1), .second, .val (.int p2), .val (.int v11), .val (.long q0), .second, .unset, .unset] [])) _
        refine XS.goto X0.here hx rfl (pc0 := 26) (pc' := 48) rfl (hb hby at_26) (by decide) (by decide) ?_
        rw [show v16 = q0 by rw [hv16, if_neg hc13, if_pos hc14]] at kk
        exact kk
      · refine XS.icmpYes X0.here hx rfl (pc0 := 20) (pc' := 29) rfl (hb hby at_20) rfl (feq hc14).2 (by decide) (by decide) ?_
        show Steps p.tables e below (s₁.setTop (mkF m 29 #[.val (.long q0), .second, .val (.long q1), .second, .val (.int p2), .val (.int v11), .unset, .unset, .unset, .unset] [])) _
        refine XS.iload X0.here hx rfl (hb hby at_29) rfl ?_
        show Steps p.tables e below (s₁.setTop (mkF m 31 #[.val (.long q0), .second, .val (.long q1), .second, .val (.int p2), .val (.int v11), .unset, .unset, .unset, .unset] [(.int v11)])) _
        refine XS.iconst X0.here hx rfl (hb hby at_31) ?_
        show Steps p.tables e below (s₁.setTop (mkF m 32 #[.val (.long q0), .second, .val (.long q1), .second, .val (.int p2), .val (.int v11), .unset, .unset, .unset, .unset] [(.int (2 : Int32)), (.int v11)])) _
        by_cases hc15 : v11 = (2 : Int32)
        · refine XS.icmpNo X0.here hx rfl (hb hby at_32) rfl (teq hc15).2 ?_
          show Steps p.tables e below (s₁.setTop (mkF m 35 #[.val (.long q0), .second, .val (.long q1), .second, .val (.int p2), .val (.int v11), .unset, .unset, .unset, .unset] [])) _
          refine XS.lloadN X0.here hx rfl (hb hby at_35) rfl ?_
          show Steps p.tables e below (s₁.setTop (mkF m 36 #[.val (.long q0), .second, .val (.long q1), .second, .val (.int p2), .val (.int v11), .unset, .unset, .unset, .unset] [(.long q0)])) _
          refine XS.lconst X0.here hx rfl (hb hby at_36) ?_
          show Steps p.tables e below (s₁.setTop (mkF m 37 #[.val (.long q0), .second, .val (.long q1), .second, .val (.int p2), .val (.int v11), .unset, .unset, .unset, .unset] [(.long (1 : Int64)), (.long q0)])) _
          refine XS.ladd X0.here hx rfl (hb hby at_37) rfl ?_
          show Steps p.tables e below (s₁.setTop (mkF m 38 #[.val (.long q0), .second, .val (.long q1), .second, .val (.int p2), .val (.int v11), .unset, .unset, .unset, .unset] [(.long (q0 + (1 : Int64)))])) _
          refine XS.lstore X0.here hx rfl (hb hby at_38) rfl (l' := #[.val (.long q0), .second, .val (.long q1), .second, .val (.int p2), .val (.int v11), .val (.long (q0 + (1 : Int64))), .second, .unset, .unset]) rfl ?_
          show Steps p.tables e below (s₁.setTop (mkF m 40 #[.val (.long q0), .second, .val (.long q1), .second, .val (.int p2), .val (.int v11), .val (.long (q0 + (1 : Int64))), .second, .unset, .unset] [])) _
          refine XS.goto X0.here hx rfl (pc0 := 40) (pc' := 48) rfl (hb hby at_40) (by decide) (by decide) ?_
          rw [show v16 = (q0 + (1 : Int64)) by rw [hv16, if_neg hc13, if_neg hc14, if_pos hc15]] at kk
          exact kk
        · refine XS.icmpYes X0.here hx rfl (pc0 := 32) (pc' := 43) rfl (hb hby at_32) rfl (feq hc15).2 (by decide) (by decide) ?_
          show Steps p.tables e below (s₁.setTop (mkF m 43 #[.val (.long q0), .second, .val (.long q1), .second, .val (.int p2), .val (.int v11), .unset, .unset, .unset, .unset] [])) _
          refine XS.lloadN X0.here hx rfl (hb hby at_43) rfl ?_
          show Steps p.tables e below (s₁.setTop (mkF m 44 #[.val (.long q0), .second, .val (.long q1), .second, .val (.int p2), .val (.int v11), .unset, .unset, .unset, .unset] [(.long q0)])) _
          refine XS.lconst X0.here hx rfl (hb hby at_44) ?_
          show Steps p.tables e below (s₁.setTop (mkF m 45 #[.val (.long q0), .second, .val (.long q1), .second, .val (.int p2), .val (.int v11), .unset, .unset, .unset, .unset] [(.long (1 : Int64)), (.long q0)])) _
          refine XS.lsub X0.here hx rfl (hb hby at_45) rfl ?_
          show Steps p.tables e below (s₁.setTop (mkF m 46 #[.val (.long q0), .second, .val (.long q1), .second, .val (.int p2), .val (.int v11), .unset, .unset, .unset, .unset] [(.long (q0 - (1 : Int64)))])) _
          refine XS.lstore X0.here hx rfl (hb hby at_46) rfl (l' := #[.val (.long q0), .second, .val (.long q1), .second, .val (.int p2), .val (.int v11), .val (.long (q0 - (1 : Int64))), .second, .unset, .unset]) rfl ?_
          rw [show v16 = (q0 - (1 : Int64)) by rw [hv16, if_neg hc13, if_neg hc14, if_neg hc15]] at kk
          exact kk)
  obtain ⟨_, _, ⟨T18, L18, k18, n18⟩, -, X18, ⟨Lc18, hQ18, l18, y18, z18⟩, st18⟩ := Jvm.LawKit.callS X0 hx (y := (⟨"com/example/ringshift/ringshift/Words", "borrow", "(JJ)J"⟩ : MethodName)) hown (mvT hZ (hw _ (List.mem_of_getElem? (i := 0) rfl))) (mvT hZ (hw _ (List.mem_of_getElem? (i := 1) rfl))) (mvT hZ (hw _ (List.mem_of_getElem? (i := 2) rfl))) (mvT hZ (hw _ (List.mem_of_getElem? (i := 3) rfl))) (by decide) (backOf (W := 0) (own_rm1 l Z av hw [] q0 v16 h0 n0 Z0 ) hZ (hw _ (List.mem_of_getElem? (i := 3) rfl)) (hw _ (List.mem_of_getElem? (i := 2) rfl)) (by decide) (by decide)) (g := (mkF m 51 #[.val (.long q0), .second, .val (.long q1), .second, .val (.int p2), .val (.int v11), .val (.long v16), .second, .unset, .unset] [(.long v16), (.long q0)])) rfl (by rw [hml]; rfl) (argsL := [(.long q0), (.long v16)]) (rest := []) (lenOf own_pd0 rfl) rfl (by show 2 * 0 + _ ≤ _; exact Nat.le_of_eq rfl) (hb hby at_51) (fun _ _ => ⟨rfl, e0, (by decide : 0 + 0 ≤ _), (by decide : 0 + 0 ≤ _)⟩)
  dsimp only [Pt.U, Pt.locs, Pt.cells, Pt.slots] at X18 l18 y18 z18 st18 hQ18
  subst l18 y18 z18
  obtain ⟨rfl, N18q, e20⟩ := hQ18
  have N19 := Fr.app N0 N18q
  obtain ⟨v21, hv21⟩ : ∃ z : Int64, z = (own_f1 q0 v16) := ⟨_, rfl⟩
  obtain ⟨_, _, ⟨T22, L22, k22, n22⟩, -, X22, ⟨Lc22, hQ22, l22, y22, z22⟩, st22⟩ := Jvm.LawKit.callS X18 hx (y := (⟨"com/example/ringshift/ringshift/WordsBorrowPinLaw", "expectedBorrow", "(JJ)J"⟩ : MethodName)) hown (mvT hZ (hw _ (List.mem_of_getElem? (i := 5) rfl))) (mvT hZ (hw _ (List.mem_of_getElem? (i := 6) rfl))) (mvT hZ (hw _ (List.mem_of_getElem? (i := 7) rfl))) (mvT hZ (hw _ (List.mem_of_getElem? (i := 8) rfl))) (by decide) (backOf (W := 2) (own_rm2 l Z av hw [] q0 v16 h0 n0 Z0 ) hZ (hw _ (List.mem_of_getElem? (i := 8) rfl)) (hw _ (List.mem_of_getElem? (i := 7) rfl)) (by decide) (by decide)) (g := (mkF m 61 #[.val (.long q0), .second, .val (.long q1), .second, .val (.int p2), .val (.int v11), .val (.long v16), .second, .val (.long v21), .second] [(.long v16), (.long q0), (.long v21)])) rfl (by rw [hml]; rfl) (argsL := [(.long q0), (.long v16)]) (rest := [(.long v21)]) (lenOf own_pd0 rfl) rfl (by show 2 * 0 + _ ≤ _; exact Nat.le_of_eq rfl) (hb hby at_61) (fun _ _ => ⟨rfl, e20, (by decide : 0 + 0 ≤ _), (by decide : 0 + 0 ≤ _)⟩)
  dsimp only [Pt.U, Pt.locs, Pt.cells, Pt.slots] at X22 l22 y22 z22 st22 hQ22
  subst l22 y22 z22
  obtain ⟨rfl, N22q, e24⟩ := hQ22
  have N23 := Fr.app N19 N22q
  have pre25 : ∀ t, Steps p.tables e below (T22.setTop (mkF m 65 #[.val (.long q0), .second, .val (.long q1), .second, .val (.int p2), .val (.int v11), .val (.long v16), .second, .val (.long v21), .second] [(.int (lcmpW v21 (own_f2 q0 v16)))])) t → Steps p.tables e below (s₁.setTop (entryFrame m #[(.long q0), (.long q1), (.int p2)] maxLocals)) t := fun t kk => pre17 t (by
    show Steps p.tables e below (s₁.setTop (mkF m 48 #[.val (.long q0), .second, .val (.long q1), .second, .val (.int p2), .val (.int v11), .val (.long v16), .second, .unset, .unset] [])) _
    refine XS.lloadN X0.here hx rfl (hb hby at_48) rfl ?_
    show Steps p.tables e below (s₁.setTop (mkF m 49 #[.val (.long q0), .second, .val (.long q1), .second, .val (.int p2), .val (.int v11), .val (.long v16), .second, .unset, .unset] [(.long q0)])) _
    refine XS.lload X0.here hx rfl (hb hby at_49) rfl ?_
    show Steps p.tables e below (s₁.setTop (mkF m 51 #[.val (.long q0), .second, .val (.long q1), .second, .val (.int p2), .val (.int v11), .val (.long v16), .second, .unset, .unset] [(.long v16), (.long q0)])) _
    refine st18 _ ?_
    show Steps p.tables e below (T18.setTop (mkF m 54 #[.val (.long q0), .second, .val (.long q1), .second, .val (.int p2), .val (.int v11), .val (.long v16), .second, .unset, .unset] [(.long (own_f1 q0 v16))])) _
    refine castTop (congrArg (fun z : Int64 => mkF m 54 #[.val (.long q0), .second, .val (.long q1), .second, .val (.int p2), .val (.int v11), .val (.long v16), .second, .unset, .unset] [(.long z)]) hv21.symm) ?_
    show Steps p.tables e below (T18.setTop (mkF m 54 #[.val (.long q0), .second, .val (.long q1), .second, .val (.int p2), .val (.int v11), .val (.long v16), .second, .unset, .unset] [(.long v21)])) _
    refine XS.lstore X18.here hx rfl (hb hby at_54) rfl (l' := #[.val (.long q0), .second, .val (.long q1), .second, .val (.int p2), .val (.int v11), .val (.long v16), .second, .val (.long v21), .second]) rfl ?_
    show Steps p.tables e below (T18.setTop (mkF m 56 #[.val (.long q0), .second, .val (.long q1), .second, .val (.int p2), .val (.int v11), .val (.long v16), .second, .val (.long v21), .second] [])) _
    refine XS.lload X18.here hx rfl (hb hby at_56) rfl ?_
    show Steps p.tables e below (T18.setTop (mkF m 58 #[.val (.long q0), .second, .val (.long q1), .second, .val (.int p2), .val (.int v11), .val (.long v16), .second, .val (.long v21), .second] [(.long v21)])) _
    refine XS.lloadN X18.here hx rfl (hb hby at_58) rfl ?_
    show Steps p.tables e below (T18.setTop (mkF m 59 #[.val (.long q0), .second, .val (.long q1), .second, .val (.int p2), .val (.int v11), .val (.long v16), .second, .val (.long v21), .second] [(.long q0), (.long v21)])) _
    refine XS.lload X18.here hx rfl (hb hby at_59) rfl ?_
    show Steps p.tables e below (T18.setTop (mkF m 61 #[.val (.long q0), .second, .val (.long q1), .second, .val (.int p2), .val (.int v11), .val (.long v16), .second, .val (.long v21), .second] [(.long v16), (.long q0), (.long v21)])) _
    refine st22 _ ?_
    show Steps p.tables e below (T22.setTop (mkF m 64 #[.val (.long q0), .second, .val (.long q1), .second, .val (.int p2), .val (.int v11), .val (.long v16), .second, .val (.long v21), .second] [(.long (own_f2 q0 v16)), (.long v21)])) _
    refine XS.lcmp X22.here hx rfl (hb hby at_64) rfl ?_
    show Steps p.tables e below (T22.setTop (mkF m 65 #[.val (.long q0), .second, .val (.long q1), .second, .val (.int p2), .val (.int v11), .val (.long v16), .second, .val (.long v21), .second] [(.int (lcmpW v21 (own_f2 q0 v16)))])) _
    exact kk)
  by_cases hc26 : v21 = (own_f2 q0 v16)
  · obtain ⟨fs, hr, hrun, hended, hW, hsame⟩ := X22.leave (v := some (.int (1 : Int32))) (fun h => by rw [Bd.returns] at h; cases h)
    refine ⟨_, _, pre25 _ ?_, hrun, hended, _, _, rfl, ?_, ⟨_, rfl⟩, hW, hsame.mono (by decide) (by decide)⟩
    · show Steps p.tables e below (T22.setTop (mkF m 65 #[.val (.long q0), .second, .val (.long q1), .second, .val (.int p2), .val (.int v11), .val (.long v16), .second, .val (.long v21), .second] [(.int (lcmpW v21 (own_f2 q0 v16)))])) _
      refine XS.ifNo X22.here hx rfl (hb hby at_65) rfl ((if0 _ _).trans (teq ((lw_eq v21 (own_f2 q0 v16)).mpr hc26)).2) ?_
      show Steps p.tables e below (T22.setTop (mkF m 68 #[.val (.long q0), .second, .val (.long q1), .second, .val (.int p2), .val (.int v11), .val (.long v16), .second, .val (.long v21), .second] [])) _
      refine XS.iconst X22.here hx rfl (hb hby at_68) ?_
      show Steps p.tables e below (T22.setTop (mkF m 69 #[.val (.long q0), .second, .val (.long q1), .second, .val (.int p2), .val (.int v11), .val (.long v16), .second, .val (.long v21), .second] [(.int (1 : Int32))])) _
      refine XS.goto X22.here hx rfl (pc0 := 69) (pc' := 73) rfl (hb hby at_69) (by decide) (by decide) ?_
      show Steps p.tables e below (T22.setTop (mkF m 73 #[.val (.long q0), .second, .val (.long q1), .second, .val (.int p2), .val (.int v11), .val (.long v16), .second, .val (.long v21), .second] [(.int (1 : Int32))])) _
      exact retN X22 hx (t := .boolean) Bd.returns (by simp) (hb hby at_73) hr
    · show own_Q0 Z q0 q1 p2 h0 n0 _ T22.heap _
      rw [e24]
      exact ⟨rfl, N23⟩
  · exact (own_leaf0_2 q0 q1 p2 v11 hv11 v16 hv16 v21 hv21 hc26).elim
set_option maxRecDepth 65536 in
set_option maxHeartbeats 40000000 in
theorem comes_1 {Post : Tables → Env → Array Value → State → Outcome → State → Prop} (hpost : ∀ tb e args s v u, (limb_1_1.after args s (.returned v) u = true ∧ limb_1_2.after args s (.returned v) u = true ∧ True) → FrameEnd s (.returned v) u (Jvm.fieldLocs frame_1_writes args s ++ Jvm.arrayLocs frame_1_arrays args s ++ Jvm.staticLocs frame_1_statics s) 0 0 → Post tb e args s (.returned v) u) :
    ArmFor flags0 classFile x code maxLocals ret World_1 tables_1 room_1 Calls_1 rest_1 Pre_1 Post := by
  intro l hfl _ _ p e ha hc hk s m args below hf hA hF happ hP
  obtain ⟨hcalls, hrest, hpre⟩ := hP
  obtain ⟨-, -, -, hnamed, -, -, -, hat⟩ := (Spec.applies_iff hf).mp happ
  obtain ⟨hg, hn⟩ := and_e (Cond.before_iff.mp (show (Jvm.Cond.and given_1 narrow_1).before args s = true from hpre))
  obtain ⟨gg1, gg2⟩ := and_e hg
  obtain ⟨gg3, gg4⟩ := and_e gg2
  obtain ⟨gg5, gg6⟩ := and_e gg4
  obtain ⟨w0, w1, w2, rfl⟩ : ∃ w0 w1 w2 : Value, args = #[w0, w1, w2] := by
    have hs : args.size = 3 := by simpa [Cond.value, given_1] using gg1
    obtain ⟨L⟩ := args
    match L, hs with
    | [w0, w1, w2], _ => exact ⟨w0, w1, w2, rfl⟩
  have hw := fun d (hd : d ∈ tables_1) => atoms_spec (ws := Jvm.Cond.code x code maxLocals ret :: tables_1) hat d (List.mem_cons_of_mem _ hd)
  have hfit : Fit s := fun {y c} hc i hi => by
    obtain ⟨ha, rfl⟩ := Array.getElem?_eq_some_iff.mp hc
    have q := List.all_eq_true.mp ((Array.all_eq_true_iff_forall_mem.mp hF) _ (Array.getElem_mem ha)) i (List.mem_range.mpr hi)
    simpa [Array.getElem?_eq_getElem hi] using q
  obtain ⟨i0, ei0⟩ := isL_v gg3
  obtain rfl : w0 = (.long i0) := Option.some.inj ei0
  obtain ⟨i1, ei1⟩ := isL_v gg5
  obtain rfl : w1 = (.long i1) := Option.some.inj ei1
  obtain ⟨i2, ei2⟩ := is_v gg6
  obtain rfl : w2 = (.int i2) := Option.some.inj ei2
  obtain ⟨n, o, h1, h2, h3, _, L, rfl, ⟨rfl, N⟩, hq⟩ := own_rm0 l s _ hw tables_1 i0 i1 i2 s.heap s.heap.size (Nat.le_refl _)  p e ha hc hk s m _ below hf ((Spec.applies_iff_loose hf).mp happ).1 ⟨rfl, State.Warmed39.refl s, rfl⟩ trivial
  refine ⟨n, _, h1, h2, h3, hpost _ _ _ _ _ _ ⟨Cond.after_iff.mpr rfl, Cond.after_iff.mpr (eq_i res_at (Term.int_eval (1)) rfl), trivial⟩ ⟨hq.1, hq.2.1, (hq.2.2.sift fun y hy => Or.inr (N y hy)).mono (by decide) (by decide)⟩⟩
theorem main_1_1 : Claimed_1_1 := comes_1 fun _ _ _ _ _ _ h hF => ⟨h.1, hF⟩
theorem main_1_2 : Claimed_1_2 := comes_1 fun _ _ _ _ _ _ h hF => ⟨h.2.1, hF⟩
end Jvm.Pilot.@@N@@
namespace Jvm.Pilot.@@N@@
open Jvm Jvm.ClassFile Sem Op Lib Jvm.Free Jvm.Stand Jvm.Pilot.@@N@@.Jvm.D
/-! MADE BY PROGRAM (witnessworld.py) out of the Statement's table words and the real class files: 9 classes; the members and pool entries that the words name. The judged class is class 1, her method 2. -/
namespace start1
open Jvm.ClassFile
def u (s : String) : CpInfo := .utf8 (stringToUtf16 s)
/-- a pool by its gaps: so many unusable entries, then the entry; so many at the end -/
def gap : Nat → List CpInfo → List CpInfo
  | 0, r => r
  | n + 1, r => .unusable :: gap n r
def poolList (es : List (Nat × CpInfo)) (last : Nat) : List CpInfo := es.foldr (fun e r => gap e.1 (e.2 :: r)) (gap last [])
def pool (es : List (Nat × CpInfo)) (last : Nat) : Array CpInfo := ⟨poolList es last⟩
def fileOf (pool : Array CpInfo) (this : Nat) (attrs : Array Attribute := #[]) (ms : Array MethodInfo := #[]) (fl : Nat := 33) (sup : Nat := 0) (ifs : Array Nat := #[]) (fds : Array FieldInfo := #[]) : ClassFile where
  minorVersion := 0
  majorVersion := 65
  constantPool := pool
  accessFlags := fl
  thisClass := this
  superClass := sup
  interfaces := ifs
  fields := fds
  methods := ms
  attributes := attrs
def plain (name : String) (sup : Option ClassId) : Class where
  name := name
  kind := .ordinary
  loader := none
  accessFlags := 33
  super := sup
  interfaces := #[]
  cf := none
  fields := #[]
  methods := #[]
  instanceTypes := #[]
  staticTypes := #[]
  resolved := #[]
  callSites := []
  init := .initialized
  statics := none
  mirror := none

def pool0 : Array CpInfo := pool [(5, u "<init>"), (0, u "()V"), (1, .class_ 10), (1, u "java/lang/Object")] 113

def k0m0 : Method := { name := "<init>", desc := "()V", sig := { parameters := [], returnType := none }, accessFlags := 1, code := none }
/-- java/lang/Object -/
def k0 : Class := { plain "java/lang/Object" none with
  accessFlags := 33
  interfaces := #[]
  cf := some (fileOf pool0 8 #[] #[{ accessFlags := 1, nameIndex := 5, descriptorIndex := 6, attributes := #[] }] 33 0 #[] #[])
  fields := #[]
  methods := #[k0m0]
  instanceTypes := #[]
  staticTypes := #[]
  resolved := Array.replicate 124 none
  statics := none }

def pool1 : Array CpInfo := pool [(2, .class_ 4), (1, u "java/lang/Object"), (0, u "<init>"), (0, u "()V"), (0, .methodref 8 9), (0, .class_ 10), (0, .nameAndType 11 12), (0, u "com/example/ringshift/ringshift/Words"), (0, u "borrow"), (0, u "(JJ)J"), (0, .methodref 14 15), (0, .class_ 16), (0, .nameAndType 17 12), (0, u "com/example/ringshift/ringshift/WordsBorrowPinLaw"), (0, u "expectedBorrow"), (3, u "law"), (0, u "(JJI)Z")] 2

def k1m0 : Method := { name := "<init>", desc := "()V", sig := { parameters := [], returnType := none }, accessFlags := 2, code := none }
def k1c1 : Code := { maxStack := 4, maxLocals := 6, code := method_2_code, exceptionTable := #[], attributes := #[] }
def k1m1 : Method := { name := "expectedBorrow", desc := "(JJ)J", sig := { parameters := [.long, .long], returnType := some .long }, accessFlags := 10, code := some k1c1 }
def k1c2 : Code := { maxStack := 6, maxLocals := 10, code := code, exceptionTable := #[], attributes := #[] }
def k1m2 : Method := { name := "law", desc := "(JJI)Z", sig := { parameters := [.long, .long, .int], returnType := some .boolean }, accessFlags := 9, code := some k1c2 }
/-- com/example/ringshift/ringshift/WordsBorrowPinLaw -/
def k1 : Class := { plain "com/example/ringshift/ringshift/WordsBorrowPinLaw" (some 0) with
  accessFlags := 49
  interfaces := #[]
  cf := some (fileOf pool1 14 #[] #[{ accessFlags := 2, nameIndex := 5, descriptorIndex := 6, attributes := #[] }, { accessFlags := 10, nameIndex := 17, descriptorIndex := 12, attributes := #[] }, { accessFlags := 9, nameIndex := 21, descriptorIndex := 22, attributes := #[] }] 49 2 #[] #[])
  fields := #[]
  methods := #[k1m0, k1m1, k1m2]
  instanceTypes := #[]
  staticTypes := #[]
  resolved := Array.replicate 25 none
  statics := none }

def pool2 : Array CpInfo := pool [(2, .class_ 4), (1, u "java/lang/Object"), (0, u "<init>"), (0, u "()V"), (1, .class_ 10), (1, u "com/example/ringshift/ringshift/Words"), (11, u "(JJ)J"), (0, .long 18446744073709551615), (6, u "borrow")] 3

def k2m0 : Method := { name := "<init>", desc := "()V", sig := { parameters := [], returnType := none }, accessFlags := 2, code := none }
def k2c1 : Code := { maxStack := 8, maxLocals := 4, code := prog_7_method_5_code, exceptionTable := #[], attributes := #[] }
def k2m1 : Method := { name := "borrow", desc := "(JJ)J", sig := { parameters := [.long, .long], returnType := some .long }, accessFlags := 8, code := some k2c1 }
/-- com/example/ringshift/ringshift/Words -/
def k2 : Class := { plain "com/example/ringshift/ringshift/Words" (some 0) with
  accessFlags := 32
  interfaces := #[]
  cf := some (fileOf pool2 8 #[] #[{ accessFlags := 2, nameIndex := 5, descriptorIndex := 6, attributes := #[] }, { accessFlags := 8, nameIndex := 30, descriptorIndex := 22, attributes := #[] }] 32 2 #[] #[])
  fields := #[]
  methods := #[k2m0, k2m1]
  instanceTypes := #[]
  staticTypes := #[]
  resolved := Array.replicate 34 none
  statics := none }

def pool3 : Array CpInfo := pool [(1, u "java/lang/Cloneable"), (0, .class_ 1), (0, u "java/lang/Object"), (0, .class_ 3)] 3

/-- java/lang/Cloneable -/
def k3 : Class := { plain "java/lang/Cloneable" (some 0) with
  accessFlags := 1537
  interfaces := #[]
  cf := some (fileOf pool3 2 #[] #[] 1537 4 #[] #[])
  fields := #[]
  methods := #[]
  instanceTypes := #[]
  staticTypes := #[]
  resolved := Array.replicate 8 none
  statics := none }

def pool4 : Array CpInfo := pool [(1, u "java/io/Serializable"), (0, .class_ 1), (0, u "java/lang/Object"), (0, .class_ 3)] 3

/-- java/io/Serializable -/
def k4 : Class := { plain "java/io/Serializable" (some 0) with
  accessFlags := 1537
  interfaces := #[]
  cf := some (fileOf pool4 2 #[] #[] 1537 4 #[] #[])
  fields := #[]
  methods := #[]
  instanceTypes := #[]
  staticTypes := #[]
  resolved := Array.replicate 8 none
  statics := none }

/-- the primitive byte -/
def k5 : Class := { plain "byte" none with kind := .primitive 'B', accessFlags := 0x411 }
/-- [B -/
def k6 : Class := { plain "[B" (some 0) with kind := .array 5 .byte, interfaces := #[3, 4], accessFlags := 1041 }

/-- the primitive int -/
def k7 : Class := { plain "int" none with kind := .primitive 'I', accessFlags := 0x411 }
/-- [I -/
def k8 : Class := { plain "[I" (some 0) with kind := .array 7 .int, interfaces := #[3, 4], accessFlags := 1041 }

def heap : Heap := #[]
def classes : Array Class := #[k0, k1, k2, k3, k4, k5, k6, k7, k8]
def interned : List (Array UInt16 × Addr) := []
def slotsUsed : Nat := 0
def theMethod : MethodId := ⟨1, 2⟩
def args0 : Array Value := #[.long 5, .long 7, .int 1]
def aboutOver (below : List Frame) : State where
  vm := { classes := classes, interned := interned.toArray }
  heap := heap
  slotsUsed := slotsUsed
  threads := #[{ frames := .invoking theMethod args0 :: below }]
def below0 : List Frame := [.native { method := ⟨0, 0⟩, args := #[] }]
def about1 : State := aboutOver below0
def p0 : Program := .bare "" "" ""
def e0 : Env := launch0.env 0 0 0
theorem w_frames : about1.frames = Frame.invoking theMethod args0 :: below0 := rfl
set_option maxRecDepth 65536 in
theorem w_args : argsFit about1.vm theMethod args0 = true := by decide +kernel
set_option maxRecDepth 65536 in
theorem w_heap : heapFits about1 = true := by decide +kernel
set_option maxRecDepth 65536 in
theorem w_runnable : about1.curStatus? = some .runnable := by decide +kernel
set_option maxRecDepth 65536 in
theorem w_alone : about1.alone = true := by decide +kernel
set_option maxRecDepth 65536 in
theorem w_named : about1.methodNamed? x = some theMethod := by decide +kernel
set_option maxRecDepth 65536 in
theorem w_hears : about1.hears theMethod below0 = true := by decide +kernel
set_option maxRecDepth 65536 in
theorem w_ripe : about1.ripe theMethod args0 below0 = true := by decide +kernel
theorem w_running : about1.status = .running := rfl
set_option maxRecDepth 65536 in
theorem w_room : about1.hasRoom e0.platform room_1 = true :=
  launch0.hasRoom_least _ room_1 (by decide +kernel) (by decide +kernel) (by decide +kernel) (by decide +kernel) (by decide +kernel) (by decide +kernel)
theorem allAtoms_all (ts : List Jvm.Cond) (a : Array Jvm.Value) (st : Jvm.State) : (allAtoms ts).before a st = ts.all (fun c => c.before a st) := by
  induction ts with
  | nil => rfl
  | cons c t ih =>
    show (Jvm.Cond.and c (allAtoms t)).before a st = _
    rw [Jvm.Cond.before_and, ih, List.all_cons]
def words1 : List Jvm.Cond := Jvm.Cond.code x code maxLocals ret :: tables_1
/-- a 'code' word, met by the world's own term for the bytes: nothing is compared byte by byte -/
theorem code_word {y : MethodName} {bytes : ByteArray} {mx : Nat} {rt : Option FieldType} {a : Array Value} {s : State} {m : MethodId} {meth : Method} {c : Code} (h1 : s.methodNamed? y = some m) (h2 : s.vm.method? m = some meth) (h3 : meth.code = some c) (h4 : c.code = bytes)
    (h5 : (c.maxLocals == mx && c.exceptionTable.isEmpty && decide (c.maxStack ≤ mostOperands) && decide (meth.sig.returnType = rt) && !meth.locks && decide (parseMethodDescriptor y.desc = some meth.sig)) = true) : (Jvm.Cond.code y bytes mx rt).before a s = true := by
  simp only [Bool.and_eq_true, beq_iff_eq, Bool.not_eq_true', decide_eq_true_eq] at h5
  obtain ⟨⟨⟨⟨⟨g1, g2⟩, g3⟩, g4⟩, g5⟩, g6⟩ := h5
  simp [Cond.before, Cond.holds, Cond.value, h1, h2, h3, h4, g1, g2, g3, g4, g5, g6]
def isCode : Jvm.Cond → Bool
  | .code _ _ _ _ => true
  | _ => false
theorem all_split {L : List Jvm.Cond} {P : Jvm.Cond → Bool} (h1 : L.all (fun c => isCode c || P c) = true) (h2 : ∀ c ∈ L.filter isCode, P c = true) : L.all P = true := by
  refine List.all_eq_true.mpr fun c hc => ?_
  have h := List.all_eq_true.mp h1 c hc
  rcases Bool.eq_false_or_eq_true (isCode c) with hi | hi
  · exact h2 c (List.mem_filter.mpr ⟨hc, hi⟩)
  · simpa [hi] using h
set_option maxRecDepth 65536 in
theorem w_c0 : (Jvm.Cond.code x code maxLocals ret).before args0 about1 = true := code_word (m := ⟨1, 2⟩) (meth := k1m2) (c := k1c2) (by decide +kernel) rfl rfl rfl (by decide +kernel)
set_option maxRecDepth 65536 in
theorem w_c1 : (Jvm.Cond.code ({ cls := "com/example/ringshift/ringshift/Words", name := "borrow", desc := "(JJ)J" } : Jvm.MethodName) prog_7_method_5_code (4 : Nat) (Option.some Jvm.ClassFile.FieldType.long)).before args0 about1 = true := code_word (m := ⟨2, 1⟩) (meth := k2m1) (c := k2c1) (by decide +kernel) rfl rfl rfl (by decide +kernel)
set_option maxRecDepth 65536 in
theorem w_c2 : (Jvm.Cond.code ({ cls := "com/example/ringshift/ringshift/WordsBorrowPinLaw", name := "expectedBorrow", desc := "(JJ)J" } : Jvm.MethodName) method_2_code (6 : Nat) (Option.some Jvm.ClassFile.FieldType.long)).before args0 about1 = true := code_word (m := ⟨1, 1⟩) (meth := k1m1) (c := k1c1) (by decide +kernel) rfl rfl rfl (by decide +kernel)
def codes1 : List Jvm.Cond := [Jvm.Cond.code x code maxLocals ret, Jvm.Cond.code ({ cls := "com/example/ringshift/ringshift/Words", name := "borrow", desc := "(JJ)J" } : Jvm.MethodName) prog_7_method_5_code (4 : Nat) (Option.some Jvm.ClassFile.FieldType.long), Jvm.Cond.code ({ cls := "com/example/ringshift/ringshift/WordsBorrowPinLaw", name := "expectedBorrow", desc := "(JJ)J" } : Jvm.MethodName) method_2_code (6 : Nat) (Option.some Jvm.ClassFile.FieldType.long)]
set_option maxRecDepth 65536 in
theorem codes_eq : words1.filter isCode = codes1 := rfl
theorem w_codes : ∀ c ∈ words1.filter isCode, c.before args0 about1 = true := by
  rw [codes_eq]
  intro c hc
  simp only [codes1, List.mem_cons, List.not_mem_nil, or_false] at hc
  rcases hc with rfl | rfl | rfl
  · exact w_c0
  · exact w_c1
  · exact w_c2
set_option maxRecDepth 65536 in
theorem w_t1 : words1.all (fun c => isCode c || c.before args0 about1) = true := by decide +kernel
theorem w_tables : (allAtoms (Jvm.Cond.code x code maxLocals ret :: tables_1)).before args0 about1 = true := by
  rw [allAtoms_all]
  show words1.all (fun c => c.before args0 about1) = true
  refine all_split ?_ w_codes
  rw [w_t1]
set_option maxRecDepth 65536 in
theorem w_case : (Jvm.Cond.and given_1 narrow_1).before args0 about1 = true := by decide +kernel
theorem w_applies : (headSpec (Jvm.Cond.code x code maxLocals ret :: tables_1) room_1).applies x e0.platform about1 = true :=
  (Spec.applies_iff w_frames).mpr ⟨w_running, w_runnable, w_alone, w_named, w_hears, w_ripe, w_room, w_tables⟩
theorem atStart : AtStart classFile x code maxLocals ret World_1 tables_1 room_1 Calls_1 rest_1 Pre_1 launch0 p0 e0 about1 theMethod args0 below0 :=
  ⟨lists_1, trivial, launch0.admits_env _ _ _, launch0.least_env, fairChoices_fair.cas, fairChoices_fair.clock, w_frames, w_args, w_heap, w_applies, trivial, trivial, w_case⟩
end start1
theorem witness_1 : WitnessClaimed_1 := ⟨start1.p0, start1.e0, start1.about1, start1.theMethod, start1.args0, start1.below0, start1.atStart⟩
end Jvm.Pilot.@@N@@
