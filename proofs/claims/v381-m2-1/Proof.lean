import JvmDerived
import JvmDerived.Pilot.@@N@@Statement
import JvmDerived.Pilot.@@N@@Code
set_option linter.unusedVariables false
set_option linter.unusedSimpArgs false
namespace Jvm.RoadKit
open Sem ClassFile Op Lib Jvm.Stand Jvm.Free Jvm.LawKit
section New
variable {p : Program} {l : Launch} {e : Env} {R : Room} {s : State} {m : MethodId} {args : Array Value} {below : List Frame} {meth : Method} {c : Code} {T : State} {locs : List Loc} {cells slots : Nat}
theorem retI (X : Stand p l e R s m args below meth c T locs cells slots) (hx : p.tables.exec = Jvm.exec) {pc : Nat} {Ls : Array Slot} {z : Int32} {rest : List Value} (hret : meth.sig.returnType = some .int) (hd : decode c.code pc = .ok (.ireturn, 1)) {fs : List Frame}
    (hl : ∀ (f : JFrame) (acts : List Action), f.method = m → f.locked = none → f.entered = [] → (doReturn e (T.setTop f) acts (some (.int z))).1 = T.setFrames fs) : Steps p.tables e below (T.setTop (mkF m pc Ls (.int z :: rest))) (T.setFrames fs) := by
  have hm' : T.vm.method? m = some meth := X.method'
  have hn : narrow .int (.int z) = .int z := rfl
  show Steps p.tables e below (T.setTop { method := m, pc := pc, locals := Ls, stack := _ :: rest, locked := none }) _
  jvm_step X.here [X.here.top, hx, hd, hm', hret, hn]
  first | (intro acts; rw [hl _ acts rfl rfl rfl]) | rw [hl _ _ rfl rfl rfl]
  exact Steps.refl _
end New
end Jvm.RoadKit
namespace Jvm.Pilot.@@N@@
open Jvm Jvm.ClassFile Sem Op Lib Jvm.Free Jvm.Stand Jvm.LawKit Jvm.RoadKit Bundle Jvm.Pilot.@@N@@.Jvm.D
theorem own_eqI {args : Array Value} {Z : State} {a : Term} {k : Int32} (h : (Jvm.Cond.eq a (.int k)).value args Z none Z [] = some true) : a.eval args Z none [] Z = some (.int k) := by
  simp only [Cond.value, Term.eval] at h
  cases ha : a.eval args Z none [] Z with
  | none => simp [ha] at h
  | some x => cases x <;> simp [ha] at h ⊢; exact h
theorem own_staKeep {Z : State} {h h' : Heap} {ws : List Addr} {C n d : String} {v : Value} (F : Sta Z h C n d v) (K : Keep h h' ws) (q : ∀ x ∈ ws, ∀ c : Cell, h[x]? = some c → c.vm.isStatics = false) : Sta Z h' C n d v := by
  obtain ⟨cf, i, k, f, st, cell, h1, h2, h3, h4, h5, h6, h7⟩ := F
  exact ⟨cf, i, k, f, st, cell, h1, h2, h3, h4, K.2.1 st cell h5 (fun z => by rw [q st z cell h5] at h6; cases h6), h6, h7⟩
theorem own_nsE {Z : State} {h : Heap} {a : Addr} {C : String} (F : Exa Z h a C) : ∀ c : Cell, h[a]? = some c → c.vm.isStatics = false := fun c hc => by
  obtain ⟨c', k, h1, -, -, h4, -⟩ := F; cases h1.symm.trans hc; exact h4
theorem own_nsA {Z : State} {h : Heap} {a : Addr} {k : ClassId} {ty : FieldType} {z : Int32} {vs : List Value} {dv : Value} (F : Arv Z h a k ty z vs dv) : ∀ c : Cell, h[a]? = some c → c.vm.isStatics = false := fun c hc => by
  obtain ⟨c', A, -⟩ := F; cases A.1.symm.trans hc; exact A.plain
theorem own_mvM {Z s : State} {a0 args : Array Value} {own host : String} {y : MethodName} {index : Nat} (hZ : Z.Warmed39 s.vm) (w : (Jvm.Cond.methodLinkNest own index y host).before a0 Z = true) : (Jvm.Cond.methodLinkNest own index y host).before args s = true := (Cond.methodLinkNest_wide hZ w :)
theorem own_d1_0 : decode jdk_29_method_69_code 0 = .ok (.iload_n 0, 1) := by decide +kernel
theorem own_d1_1 : decode jdk_29_method_69_code 1 = .ok (.iload_n 1, 1) := by decide +kernel
theorem own_d1_2 : decode jdk_29_method_69_code 2 = .ok (.if_icmp .gt 7, 3) := by decide +kernel
theorem own_d1_9 : decode jdk_29_method_69_code 9 = .ok (.iload_n 1, 1) := by decide +kernel
theorem own_d1_10 : decode jdk_29_method_69_code 10 = .ok (.ireturn, 1) := by decide +kernel
theorem own_d1_5 : decode jdk_29_method_69_code 5 = .ok (.iload_n 0, 1) := by decide +kernel
theorem own_d1_6 : decode jdk_29_method_69_code 6 = .ok (.goto 4, 3) := by decide +kernel
def own_f1 (p0 : Int32) (p1 : Int32) : Int32 := if p1 < p0 then p1 else p0
theorem own_ef1 (m : MethodId) (p0 : Int32) (p1 : Int32) : entryFrame m #[(.int p0), (.int p1)] 2 = mkF m 0 #[.val (.int p0), .val (.int p1)] [] := by first | (simp [entryFrame, mkF, argsToLocals, Value.category]; done) | rfl
def own_Q1 (Z : State) (p0 : Int32) (p1 : Int32) (h0 : Heap) (n0 : Nat) (v : Option Value) (h : Heap) (L : List Loc) : Prop := v = some (.int (own_f1 p0 p1)) ∧ Fr n0 L ∧ h = h0
set_option maxRecDepth 65536 in
set_option maxHeartbeats 40000000 in
theorem own_rm1 (l : Launch) (Z : State) (av : Array Value) (hw : ∀ d ∈ tables_1, d.before av Z = true) (ws : List Jvm.Cond) (p0 : Int32) (p1 : Int32) (h0 : Heap) (n0 : Nat) (Z0 : n0 ≤ h0.size) :
    MetFree l (⟨"java/lang/Math", "min", "(II)I"⟩ : MethodName) (head1 (Jvm.Cond.code (⟨"java/lang/Math", "min", "(II)I"⟩ : MethodName) jdk_29_method_69_code 2 (some .int) :: ws) ({ frames := 0, cells := 0, slots := 0, locals := 0 } : Room)) (fun a U => a = #[(.int p0), (.int p1)] ∧ Z.Warmed39 U.vm ∧ U.heap = h0) (fun _ _ _ _ _ => True) (fun _ U o U' => ∃ v L, o = .returned v ∧ own_Q1 Z p0 p1 h0 n0 v U'.heap L ∧ FrameEnd U o U' L ({ frames := 0, cells := 0, slots := 0, locals := 0 } : Room).cells ({ frames := 0, cells := 0, slots := 0, locals := 0 } : Room).slots) := by
  refine MetFree.of_bodySF (Jvm.Free.JP.mathPlain rfl (by decide +kernel)) hisR ?_
  intro p e s m args below meth c s₁ Bd hml0 hP hK
  obtain ⟨rfl, hZ, hh⟩ := hP
  have hx := Bd.exec
  have hby := Bd.bytes
  have hml : c.maxLocals = 2 := hml0
  have hown : s.vm.findClass "java/lang/Math" = some m.cls := findClass_of_methodNamed Bd.named
  have hnm := (name_of_methodNamed Bd.named Bd.method).1
  have X0 : Stand p l e ({ frames := 0, cells := 0, slots := 0, locals := 0 } : Room) s m #[(.int p0), (.int p1)] below meth c s₁ [] 0 0 := Stand.of_body Bd
  have e0 : s₁.heap = h0 := by rw [← hh, Bd.state]; rfl
  have N0 := Fr.nil n0
  have pre0 : ∀ t, Steps p.tables e below (s₁.setTop (mkF m 0 #[.val (.int p0), .val (.int p1)] [])) t → Steps p.tables e below (s₁.setTop (entryFrame m #[(.int p0), (.int p1)] 2)) t := fun t k => castTop (own_ef1 m p0 p1) k
  have pre1 : ∀ t, Steps p.tables e below (s₁.setTop (mkF m 2 #[.val (.int p0), .val (.int p1)] [(.int p1), (.int p0)])) t → Steps p.tables e below (s₁.setTop (entryFrame m #[(.int p0), (.int p1)] 2)) t := fun t kk => pre0 t (by
    show Steps p.tables e below (s₁.setTop (mkF m 0 #[.val (.int p0), .val (.int p1)] [])) _
    refine XS.iloadN X0.here hx rfl (hb hby own_d1_0) rfl ?_
    show Steps p.tables e below (s₁.setTop (mkF m 1 #[.val (.int p0), .val (.int p1)] [(.int p0)])) _
    refine XS.iloadN X0.here hx rfl (hb hby own_d1_1) rfl ?_
    show Steps p.tables e below (s₁.setTop (mkF m 2 #[.val (.int p0), .val (.int p1)] [(.int p1), (.int p0)])) _
    exact kk)
  by_cases hc2 : p1 < p0
  · obtain ⟨fs, hr, hrun, hended, hW, hsame⟩ := X0.leave (v := some (.int p1)) (fun h => by rw [Bd.returns] at h; cases h)
    refine ⟨_, _, pre1 _ ?_, hrun, hended, _, _, rfl, ?_, ⟨_, rfl⟩, hW, hsame.mono (by decide) (by decide)⟩
    · show Steps p.tables e below (s₁.setTop (mkF m 2 #[.val (.int p0), .val (.int p1)] [(.int p1), (.int p0)])) _
      refine XS.icmpYes X0.here hx rfl (pc0 := 2) (pc' := 9) rfl (hb hby own_d1_2) rfl (tlt hc2).2.2.1 (by decide) (by decide) ?_
      show Steps p.tables e below (s₁.setTop (mkF m 9 #[.val (.int p0), .val (.int p1)] [])) _
      refine XS.iloadN X0.here hx rfl (hb hby own_d1_9) rfl ?_
      show Steps p.tables e below (s₁.setTop (mkF m 10 #[.val (.int p0), .val (.int p1)] [(.int p1)])) _
      exact retI X0 hx Bd.returns (hb hby own_d1_10) hr
    · show own_Q1 Z p0 p1 h0 n0 _ s₁.heap _
      rw [e0]
      have hv : own_f1 p0 p1 = p1 := by unfold own_f1; rw [if_pos hc2]
      exact ⟨by rw [hv], N0, rfl⟩
  · obtain ⟨fs, hr, hrun, hended, hW, hsame⟩ := X0.leave (v := some (.int p0)) (fun h => by rw [Bd.returns] at h; cases h)
    refine ⟨_, _, pre1 _ ?_, hrun, hended, _, _, rfl, ?_, ⟨_, rfl⟩, hW, hsame.mono (by decide) (by decide)⟩
    · show Steps p.tables e below (s₁.setTop (mkF m 2 #[.val (.int p0), .val (.int p1)] [(.int p1), (.int p0)])) _
      refine XS.icmpNo X0.here hx rfl (hb hby own_d1_2) rfl (flt hc2).2.2.1 ?_
      show Steps p.tables e below (s₁.setTop (mkF m 5 #[.val (.int p0), .val (.int p1)] [])) _
      refine XS.iloadN X0.here hx rfl (hb hby own_d1_5) rfl ?_
      show Steps p.tables e below (s₁.setTop (mkF m 6 #[.val (.int p0), .val (.int p1)] [(.int p0)])) _
      refine XS.goto X0.here hx rfl (pc0 := 6) (pc' := 10) rfl (hb hby own_d1_6) (by decide) (by decide) ?_
      show Steps p.tables e below (s₁.setTop (mkF m 10 #[.val (.int p0), .val (.int p1)] [(.int p0)])) _
      exact retI X0 hx Bd.returns (hb hby own_d1_10) hr
    · show own_Q1 Z p0 p1 h0 n0 _ s₁.heap _
      rw [e0]
      have hv : own_f1 p0 p1 = p0 := by unfold own_f1; rw [if_neg hc2]
      exact ⟨by rw [hv], N0, rfl⟩
theorem own_f1_cases (p0 : Int32) (p1 : Int32) : (p1 < p0 ∧ (own_f1 p0 p1 = p1)) ∨ (¬ (p1 < p0) ∧ (own_f1 p0 p1 = p0)) := by
  by_cases cs0 : p1 < p0
  · refine Or.inl ⟨cs0, ?_⟩
    unfold own_f1; rw [if_pos cs0]
  · refine Or.inr ⟨cs0, ?_⟩
    unfold own_f1; rw [if_neg cs0]
theorem own_d2_0 : decode prog_51_method_1_code 0 = .ok (.aload_n 0, 1) := by decide +kernel
theorem own_d2_1 : decode prog_51_method_1_code 1 = .ok (.invokespecial 3, 3) := by decide +kernel
theorem own_d2_4 : decode prog_51_method_1_code 4 = .ok (.aload_n 0, 1) := by decide +kernel
theorem own_d2_5 : decode prog_51_method_1_code 5 = .ok (.iload_n 1, 1) := by decide +kernel
theorem own_d2_6 : decode prog_51_method_1_code 6 = .ok (.newarray .long, 2) := by decide +kernel
theorem own_d2_8 : decode prog_51_method_1_code 8 = .ok (.putfield 9, 3) := by decide +kernel
theorem own_d2_11 : decode prog_51_method_1_code 11 = .ok (.return_, 1) := by decide +kernel
theorem own_pn14 : plainName "com/example/all1/all1/RowFilter$Builder" = true := by first | (simp [plainName, overriddenIn]; done) | decide +kernel
theorem own_ef2 (m : MethodId) (a0 : Addr) (p1 : Int32) : entryFrame m #[(.ref a0), (.int p1)] 2 = mkF m 0 #[.val (.ref a0), .val (.int p1)] [] := by first | (simp [entryFrame, mkF, argsToLocals, Value.category]; done) | rfl
def own_Q2 (Z : State) (a0 : Addr) (p1 : Int32) (h0 : Heap) (n0 : Nat) (v : Option Value) (h : Heap) (L : List Loc) : Prop := ∃ b : Addr, ∃ kk : ClassId, v = none ∧ Fr n0 L ∧ Keep h0 h [a0] ∧ n0 ≤ b ∧ h0.size ≤ b ∧ (Exa Z h a0 "com/example/all1/all1/RowFilter$Builder") ∧ (Fld Z h a0 "com/example/all1/all1/RowFilter$Builder" "hashes" "[J" (.ref b)) ∧ (Fld Z h a0 "com/example/all1/all1/RowFilter$Builder" "rows" "I" (.int (0 : Int32))) ∧ (Arv Z h b kk .long p1 [(.long (0 : Int64)), (.long (0 : Int64)), (.long (0 : Int64)), (.long (0 : Int64)), (.long (0 : Int64)), (.long (0 : Int64)), (.long (0 : Int64))] (.long (0 : Int64)))
set_option maxRecDepth 65536 in
set_option maxHeartbeats 40000000 in
theorem own_rm2 (l : Launch) (Z : State) (av : Array Value) (hw : ∀ d ∈ tables_1, d.before av Z = true) (ws : List Jvm.Cond) (a0 : Addr) (p1 : Int32) (h0 : Heap) (n0 : Nat) (Z0 : n0 ≤ h0.size) (pr0 : Exa Z h0 a0 "com/example/all1/all1/RowFilter$Builder") (pr1 : Fld Z h0 a0 "com/example/all1/all1/RowFilter$Builder" "hashes" "[J" .null) (pr2 : Fld Z h0 a0 "com/example/all1/all1/RowFilter$Builder" "rows" "I" (.int (0 : Int32))) (g_a0 : n0 ≤ a0) (hy1 : ¬ (p1 < (0 : Int32))) (hy2 : p1.toNatClampNeg ≤ 7) :
    MetFree l (⟨"com/example/all1/all1/RowFilter$Builder", "<init>", "(I)V"⟩ : MethodName) (head1 (Jvm.Cond.code (⟨"com/example/all1/all1/RowFilter$Builder", "<init>", "(I)V"⟩ : MethodName) prog_51_method_1_code 2 none :: ws) ({ frames := 1, cells := 1, slots := 7, locals := 12 } : Room)) (fun a U => a = #[(.ref a0), (.int p1)] ∧ Z.Warmed39 U.vm ∧ U.heap = h0) (fun _ _ _ _ _ => True) (fun _ U o U' => ∃ v L, o = .returned v ∧ own_Q2 Z a0 p1 h0 n0 v U'.heap L ∧ FrameEnd U o U' L ({ frames := 1, cells := 1, slots := 7, locals := 12 } : Room).cells ({ frames := 1, cells := 1, slots := 7, locals := 12 } : Room).slots) := by
  refine MetFree.of_bodySF (plainFor_of_name own_pn14) hisR ?_
  intro p e s m args below meth c s₁ Bd hml0 hP hK
  obtain ⟨rfl, hZ, hh⟩ := hP
  have hx := Bd.exec
  have hby := Bd.bytes
  have hml : c.maxLocals = 2 := hml0
  have hown : s.vm.findClass "com/example/all1/all1/RowFilter$Builder" = some m.cls := findClass_of_methodNamed Bd.named
  have hnm := (name_of_methodNamed Bd.named Bd.method).1
  have X0 : Stand p l e ({ frames := 1, cells := 1, slots := 7, locals := 12 } : Room) s m #[(.ref a0), (.int p1)] below meth c s₁ [] 0 0 := Stand.of_body Bd
  have e0 : s₁.heap = h0 := by rw [← hh, Bd.state]; rfl
  have N0 := Fr.nil n0
  have pre0 : ∀ t, Steps p.tables e below (s₁.setTop (mkF m 0 #[.val (.ref a0), .val (.int p1)] [])) t → Steps p.tables e below (s₁.setTop (entryFrame m #[(.ref a0), (.int p1)] 2)) t := fun t k => castTop (own_ef2 m a0 p1) k
  obtain ⟨T3, X3, e3, st3⟩ := initO X0 hx hZ hown (hw _ (List.mem_of_getElem? (i := 10) rfl)) (hw _ (List.mem_of_getElem? (i := 11) rfl)) (hw _ (List.mem_of_getElem? (i := 12) rfl)) e0 (g := (mkF m 1 #[.val (.ref a0), .val (.int p1)] [(.ref a0)])) rfl (by rw [hml]; rfl) rfl (hb hby own_d2_1) (by decide) (W := 0) (by show 2 * 0 + _ ≤ _; exact Nat.le_of_eq rfl) (by decide)
  obtain ⟨T4, h4, k4, X4, e4, E4, A4, st4⟩ := newP X3 hx hZ (hw _ (List.mem_of_getElem? (i := 13) rfl)) e3 (g := (mkF m 6 #[.val (.ref a0), .val (.int p1)] [(.int p1), (.ref a0)])) rfl (hb hby own_d2_6) rfl hy1 (cap := 7) hy2 (by decide) (by decide) (by decide)
  obtain ⟨b4, g4⟩ : ∃ z, z = h0.size := ⟨_, rfl⟩
  have ne_a0_b4 : a0 ≠ b4 := Nat.ne_of_lt (Nat.lt_of_lt_of_le pr0.lt (Nat.le_of_eq g4.symm))
  have g_b4 : n0 ≤ b4 := Nat.le_trans Z0 (Nat.le_of_eq g4.symm)
  have sz_b4 : h0.size ≤ b4 := Nat.le_trans (Keep.refl h0 [a0]).1 (Nat.le_of_eq g4.symm)
  rw [← g4] at A4 st4
  have f5 := pr0.ext E4
  have f6 := pr1.ext E4
  have f7 := pr2.ext E4
  have z8 : n0 ≤ h4.size := Nat.le_trans Z0 E4.1
  have K9 : Keep h0 h4 [a0] := (Keep.refl h0 [a0]).ext E4
  have f10 : Arv Z h4 b4 k4 .long p1 [(.long (0 : Int64)), (.long (0 : Int64)), (.long (0 : Int64)), (.long (0 : Int64)), (.long (0 : Int64)), (.long (0 : Int64)), (.long (0 : Int64))] (.long (0 : Int64)) := (Arv.new A4 hy1).pad (pad_rep [] (.long (0 : Int64)) 7)
  obtain ⟨T11, h11, X11, e11, W11, st11⟩ := putF X4 hx hZ hown (host := "") (Or.inl (hw _ (List.mem_of_getElem? (i := 14) rfl))) Via.refl e4 f6 f5 (Or.inr ⟨(hw _ (List.mem_of_getElem? (i := 15) rfl)), rfl, hnm⟩) (hw _ (List.mem_of_getElem? (i := 5) rfl)) (ty := (.array .long)) (by decide) rfl rfl (g := (mkF m 8 #[.val (.ref a0), .val (.int p1)] [(.ref b4), (.ref a0)])) rfl rfl (hb hby own_d2_8)
  have f12 := f5.wr W11
  have f13 := f7.other W11 (Or.inr (slot_ne (Or.inl (hw _ (List.mem_of_getElem? (i := 25) rfl))) (Or.inr (hw _ (List.mem_of_getElem? (i := 15) rfl))) (by decide) (t := .int) (t' := (.array .long)) (by decide) (by decide)))
  have f14 := f10.other W11 (Ne.symm ne_a0_b4)
  have K15 : Keep h0 h11 [a0] := K9.wr W11 (Or.inl (List.mem_of_getElem? (i := 0) rfl))
  have z16 : n0 ≤ h11.size := Nat.le_trans z8 (Keep.of_wr W11).1
  have N17 := Fr.snoc X11 N0 g_a0
  have f18 : Fld Z h11 a0 "com/example/all1/all1/RowFilter$Builder" "hashes" "[J" (.ref b4) := f6.same W11
  obtain ⟨fs, hr, hrun, hended, hW, hsame⟩ := X11.leave (v := none) (fun _ => rfl)
  refine ⟨_, _, pre0 _ ?_, hrun, hended, _, _, rfl, ?_, ⟨_, rfl⟩, hW, hsame.mono (by decide) (by decide)⟩
  · show Steps p.tables e below (s₁.setTop (mkF m 0 #[.val (.ref a0), .val (.int p1)] [])) _
    refine XS.aloadN X0.here hx rfl (hb hby own_d2_0) rfl rfl ?_
    show Steps p.tables e below (s₁.setTop (mkF m 1 #[.val (.ref a0), .val (.int p1)] [(.ref a0)])) _
    refine st3 _ ?_
    show Steps p.tables e below (T3.setTop (mkF m 4 #[.val (.ref a0), .val (.int p1)] [])) _
    refine XS.aloadN X3.here hx rfl (hb hby own_d2_4) rfl rfl ?_
    show Steps p.tables e below (T3.setTop (mkF m 5 #[.val (.ref a0), .val (.int p1)] [(.ref a0)])) _
    refine XS.iloadN X3.here hx rfl (hb hby own_d2_5) rfl ?_
    show Steps p.tables e below (T3.setTop (mkF m 6 #[.val (.ref a0), .val (.int p1)] [(.int p1), (.ref a0)])) _
    refine st4 _ ?_
    show Steps p.tables e below (T4.setTop (mkF m 8 #[.val (.ref a0), .val (.int p1)] [(.ref b4), (.ref a0)])) _
    refine st11 _ ?_
    show Steps p.tables e below (T11.setTop (mkF m 11 #[.val (.ref a0), .val (.int p1)] [])) _
    exact X11.returnOut hx Bd.returns (hb hby own_d2_11) hr
  · show own_Q2 Z a0 p1 h0 n0 _ T11.heap _
    rw [e11]
    exact ⟨b4, k4, rfl, N17, K15, g_b4, sz_b4, f12, f18, f13, f14⟩
theorem own_d4_0 : decode prog_51_method_3_code 0 = .ok (.aload_n 0, 1) := by decide +kernel
theorem own_d4_1 : decode prog_51_method_3_code 1 = .ok (.getfield 21, 3) := by decide +kernel
theorem own_d4_4 : decode prog_51_method_3_code 4 = .ok (.aload_n 0, 1) := by decide +kernel
theorem own_d4_5 : decode prog_51_method_3_code 5 = .ok (.getfield 9, 3) := by decide +kernel
theorem own_d4_8 : decode prog_51_method_3_code 8 = .ok (.arraylength, 1) := by decide +kernel
theorem own_d4_9 : decode prog_51_method_3_code 9 = .ok (.if_icmp .ne 7, 3) := by decide +kernel
theorem own_d4_12 : decode prog_51_method_3_code 12 = .ok (.iconst 1, 1) := by decide +kernel
theorem own_d4_13 : decode prog_51_method_3_code 13 = .ok (.goto 4, 3) := by decide +kernel
theorem own_d4_17 : decode prog_51_method_3_code 17 = .ok (.ireturn, 1) := by decide +kernel
theorem own_d4_16 : decode prog_51_method_3_code 16 = .ok (.iconst 0, 1) := by decide +kernel
def own_f4 (r : Int32) (nn : Int32) : Int32 := if r = nn then (1 : Int32) else (0 : Int32)
theorem own_ef4 (m : MethodId) (a0 : Addr) : entryFrame m #[(.ref a0)] 1 = mkF m 0 #[.val (.ref a0)] [] := by first | (simp [entryFrame, mkF, argsToLocals, Value.category]; done) | rfl
def own_Q4 (Z : State) (a0 : Addr) (r : Int32) (ha : Addr) (kk : ClassId) (nn : Int32) (vs : List Value) (dv : Value) (h0 : Heap) (n0 : Nat) (v : Option Value) (h : Heap) (L : List Loc) : Prop := v = some (.int (own_f4 r nn)) ∧ Fr n0 L ∧ h = h0
set_option maxRecDepth 65536 in
set_option maxHeartbeats 40000000 in
theorem own_rm4 (l : Launch) (Z : State) (av : Array Value) (hw : ∀ d ∈ tables_1, d.before av Z = true) (ws : List Jvm.Cond) (a0 : Addr) (r : Int32) (ha : Addr) (kk : ClassId) (nn : Int32) (vs : List Value) (dv : Value) (h0 : Heap) (n0 : Nat) (Z0 : n0 ≤ h0.size) (pr0 : Fld Z h0 a0 "com/example/all1/all1/RowFilter$Builder" "rows" "I" (.int r)) (pr1 : Fld Z h0 a0 "com/example/all1/all1/RowFilter$Builder" "hashes" "[J" (.ref ha)) (pr2 : Arv Z h0 ha kk .long nn vs dv) :
    MetFree l (⟨"com/example/all1/all1/RowFilter$Builder", "isFull", "()Z"⟩ : MethodName) (head1 (Jvm.Cond.code (⟨"com/example/all1/all1/RowFilter$Builder", "isFull", "()Z"⟩ : MethodName) prog_51_method_3_code 1 (some .boolean) :: ws) ({ frames := 0, cells := 0, slots := 0, locals := 0 } : Room)) (fun a U => a = #[(.ref a0)] ∧ Z.Warmed39 U.vm ∧ U.heap = h0) (fun _ _ _ _ _ => True) (fun _ U o U' => ∃ v L, o = .returned v ∧ own_Q4 Z a0 r ha kk nn vs dv h0 n0 v U'.heap L ∧ FrameEnd U o U' L ({ frames := 0, cells := 0, slots := 0, locals := 0 } : Room).cells ({ frames := 0, cells := 0, slots := 0, locals := 0 } : Room).slots) := by
  refine MetFree.of_bodySF (plainFor_of_name own_pn14) hisR ?_
  intro p e s m args below meth c s₁ Bd hml0 hP hK
  obtain ⟨rfl, hZ, hh⟩ := hP
  have hx := Bd.exec
  have hby := Bd.bytes
  have hml : c.maxLocals = 1 := hml0
  have hown : s.vm.findClass "com/example/all1/all1/RowFilter$Builder" = some m.cls := findClass_of_methodNamed Bd.named
  have hnm := (name_of_methodNamed Bd.named Bd.method).1
  have X0 : Stand p l e ({ frames := 0, cells := 0, slots := 0, locals := 0 } : Room) s m #[(.ref a0)] below meth c s₁ [] 0 0 := Stand.of_body Bd
  have e0 : s₁.heap = h0 := by rw [← hh, Bd.state]; rfl
  have N0 := Fr.nil n0
  have pre0 : ∀ t, Steps p.tables e below (s₁.setTop (mkF m 0 #[.val (.ref a0)] [])) t → Steps p.tables e below (s₁.setTop (entryFrame m #[(.ref a0)] 1)) t := fun t k => castTop (own_ef4 m a0) k
  obtain ⟨T19, X19, e19, st19⟩ := getF X0 hx hZ hown (host := "") (Or.inl (hw _ (List.mem_of_getElem? (i := 24) rfl))) Via.refl e0 pr0 (g := (mkF m 1 #[.val (.ref a0)] [(.ref a0)])) rfl rfl (hb hby own_d4_1)
  obtain ⟨T20, X20, e20, st20⟩ := getF X19 hx hZ hown (host := "") (Or.inl (hw _ (List.mem_of_getElem? (i := 14) rfl))) Via.refl e19 pr1 (g := (mkF m 5 #[.val (.ref a0)] [(.ref a0), (.int r)])) rfl rfl (hb hby own_d4_5)
  obtain ⟨cl21, Ar21, q21, S21, M21, H21, G21⟩ := id pr2
  have pre22 : ∀ t, Steps p.tables e below (T20.setTop (mkF m 9 #[.val (.ref a0)] [(.int nn), (.int r)])) t → Steps p.tables e below (s₁.setTop (entryFrame m #[(.ref a0)] 1)) t := fun t kk => pre0 t (by
    show Steps p.tables e below (s₁.setTop (mkF m 0 #[.val (.ref a0)] [])) _
    refine XS.aloadN X0.here hx rfl (hb hby own_d4_0) rfl rfl ?_
    show Steps p.tables e below (s₁.setTop (mkF m 1 #[.val (.ref a0)] [(.ref a0)])) _
    refine st19 _ ?_
    show Steps p.tables e below (T19.setTop (mkF m 4 #[.val (.ref a0)] [(.int r)])) _
    refine XS.aloadN X19.here hx rfl (hb hby own_d4_4) rfl rfl ?_
    show Steps p.tables e below (T19.setTop (mkF m 5 #[.val (.ref a0)] [(.ref a0), (.int r)])) _
    refine st20 _ ?_
    show Steps p.tables e below (T20.setTop (mkF m 8 #[.val (.ref a0)] [(.ref ha), (.int r)])) _
    refine X20.arraylength hx (by rw [e20]; exact Ar21.1) (State.isArrayOf_alike hZ.alike Ar21.2.1) (g := (mkF m 8 #[.val (.ref a0)] [(.ref ha), (.int r)])) rfl rfl (hb hby own_d4_8) _ ?_
    rw [len_of S21 M21]
    show Steps p.tables e below (T20.setTop (mkF m 9 #[.val (.ref a0)] [(.int nn), (.int r)])) _
    exact kk)
  by_cases hc23 : r = nn
  · obtain ⟨fs, hr, hrun, hended, hW, hsame⟩ := X20.leave (v := some (.int (1 : Int32))) (fun h => by rw [Bd.returns] at h; cases h)
    refine ⟨_, _, pre22 _ ?_, hrun, hended, _, _, rfl, ?_, ⟨_, rfl⟩, hW, hsame.mono (by decide) (by decide)⟩
    · show Steps p.tables e below (T20.setTop (mkF m 9 #[.val (.ref a0)] [(.int nn), (.int r)])) _
      refine XS.icmpNo X20.here hx rfl (hb hby own_d4_9) rfl (teq hc23).2 ?_
      show Steps p.tables e below (T20.setTop (mkF m 12 #[.val (.ref a0)] [])) _
      refine XS.iconst X20.here hx rfl (hb hby own_d4_12) ?_
      show Steps p.tables e below (T20.setTop (mkF m 13 #[.val (.ref a0)] [(.int (1 : Int32))])) _
      refine XS.goto X20.here hx rfl (pc0 := 13) (pc' := 17) rfl (hb hby own_d4_13) (by decide) (by decide) ?_
      show Steps p.tables e below (T20.setTop (mkF m 17 #[.val (.ref a0)] [(.int (1 : Int32))])) _
      exact retN X20 hx (t := .boolean) Bd.returns (by simp) (hb hby own_d4_17) hr
    · show own_Q4 Z a0 r ha kk nn vs dv h0 n0 _ T20.heap _
      rw [e20]
      have hv : own_f4 r nn = (1 : Int32) := by unfold own_f4; rw [if_pos hc23]
      exact ⟨by rw [hv], N0, rfl⟩
  · obtain ⟨fs, hr, hrun, hended, hW, hsame⟩ := X20.leave (v := some (.int (0 : Int32))) (fun h => by rw [Bd.returns] at h; cases h)
    refine ⟨_, _, pre22 _ ?_, hrun, hended, _, _, rfl, ?_, ⟨_, rfl⟩, hW, hsame.mono (by decide) (by decide)⟩
    · show Steps p.tables e below (T20.setTop (mkF m 9 #[.val (.ref a0)] [(.int nn), (.int r)])) _
      refine XS.icmpYes X20.here hx rfl (pc0 := 9) (pc' := 16) rfl (hb hby own_d4_9) rfl (feq hc23).2 (by decide) (by decide) ?_
      show Steps p.tables e below (T20.setTop (mkF m 16 #[.val (.ref a0)] [])) _
      refine XS.iconst X20.here hx rfl (hb hby own_d4_16) ?_
      show Steps p.tables e below (T20.setTop (mkF m 17 #[.val (.ref a0)] [(.int (0 : Int32))])) _
      exact retN X20 hx (t := .boolean) Bd.returns (by simp) (hb hby own_d4_17) hr
    · show own_Q4 Z a0 r ha kk nn vs dv h0 n0 _ T20.heap _
      rw [e20]
      have hv : own_f4 r nn = (0 : Int32) := by unfold own_f4; rw [if_neg hc23]
      exact ⟨by rw [hv], N0, rfl⟩
theorem own_f4_cases (r : Int32) (nn : Int32) : (r = nn ∧ (own_f4 r nn = (1 : Int32))) ∨ (¬ (r = nn) ∧ (own_f4 r nn = (0 : Int32))) := by
  by_cases cs0 : r = nn
  · refine Or.inl ⟨cs0, ?_⟩
    unfold own_f4; rw [if_pos cs0]
  · refine Or.inr ⟨cs0, ?_⟩
    unfold own_f4; rw [if_neg cs0]
theorem own_d7_0 : decode prog_7_method_5_code 0 = .ok (.aload_n 0, 1) := by decide +kernel
theorem own_d7_1 : decode prog_7_method_5_code 1 = .ok (.getfield 7, 3) := by decide +kernel
theorem own_d7_4 : decode prog_7_method_5_code 4 = .ok (.arraylength, 1) := by decide +kernel
theorem own_d7_5 : decode prog_7_method_5_code 5 = .ok (.ireturn, 1) := by decide +kernel
theorem own_pn29 : plainName "com/example/all1/all1/Bytes" = true := by first | (simp [plainName, overriddenIn]; done) | decide +kernel
theorem own_ef7 (m : MethodId) (a0 : Addr) : entryFrame m #[(.ref a0)] 1 = mkF m 0 #[.val (.ref a0)] [] := by first | (simp [entryFrame, mkF, argsToLocals, Value.category]; done) | rfl
def own_Q7 (Z : State) (a0 : Addr) (ba : Addr) (kb : ClassId) (db : Value) (h0 : Heap) (n0 : Nat) (v : Option Value) (h : Heap) (L : List Loc) : Prop := v = some (.int (0 : Int32)) ∧ Fr n0 L ∧ h = h0
set_option maxRecDepth 65536 in
set_option maxHeartbeats 40000000 in
theorem own_rm7 (l : Launch) (Z : State) (av : Array Value) (hw : ∀ d ∈ tables_1, d.before av Z = true) (ws : List Jvm.Cond) (a0 : Addr) (ba : Addr) (kb : ClassId) (db : Value) (h0 : Heap) (n0 : Nat) (Z0 : n0 ≤ h0.size) (pr0 : Fld Z h0 a0 "com/example/all1/all1/Bytes" "bytes" "[B" (.ref ba)) (pr1 : Arv Z h0 ba kb .byte (0 : Int32) [] db) :
    MetFree l (⟨"com/example/all1/all1/Bytes", "length", "()I"⟩ : MethodName) (head1 (Jvm.Cond.code (⟨"com/example/all1/all1/Bytes", "length", "()I"⟩ : MethodName) prog_7_method_5_code 1 (some .int) :: ws) ({ frames := 0, cells := 0, slots := 0, locals := 0 } : Room)) (fun a U => a = #[(.ref a0)] ∧ Z.Warmed39 U.vm ∧ U.heap = h0) (fun _ _ _ _ _ => True) (fun _ U o U' => ∃ v L, o = .returned v ∧ own_Q7 Z a0 ba kb db h0 n0 v U'.heap L ∧ FrameEnd U o U' L ({ frames := 0, cells := 0, slots := 0, locals := 0 } : Room).cells ({ frames := 0, cells := 0, slots := 0, locals := 0 } : Room).slots) := by
  refine MetFree.of_bodySF (plainFor_of_name own_pn29) hisR ?_
  intro p e s m args below meth c s₁ Bd hml0 hP hK
  obtain ⟨rfl, hZ, hh⟩ := hP
  have hx := Bd.exec
  have hby := Bd.bytes
  have hml : c.maxLocals = 1 := hml0
  have hown : s.vm.findClass "com/example/all1/all1/Bytes" = some m.cls := findClass_of_methodNamed Bd.named
  have hnm := (name_of_methodNamed Bd.named Bd.method).1
  have X0 : Stand p l e ({ frames := 0, cells := 0, slots := 0, locals := 0 } : Room) s m #[(.ref a0)] below meth c s₁ [] 0 0 := Stand.of_body Bd
  have e0 : s₁.heap = h0 := by rw [← hh, Bd.state]; rfl
  have N0 := Fr.nil n0
  have pre0 : ∀ t, Steps p.tables e below (s₁.setTop (mkF m 0 #[.val (.ref a0)] [])) t → Steps p.tables e below (s₁.setTop (entryFrame m #[(.ref a0)] 1)) t := fun t k => castTop (own_ef7 m a0) k
  obtain ⟨T24, X24, e24, st24⟩ := getF X0 hx hZ hown (host := "") (Or.inl (hw _ (List.mem_of_getElem? (i := 42) rfl))) Via.refl e0 pr0 (g := (mkF m 1 #[.val (.ref a0)] [(.ref a0)])) rfl rfl (hb hby own_d7_1)
  obtain ⟨cl25, Ar25, q25, S25, M25, H25, G25⟩ := id pr1
  obtain ⟨fs, hr, hrun, hended, hW, hsame⟩ := X24.leave (v := some (.int (0 : Int32))) (fun h => by rw [Bd.returns] at h; cases h)
  refine ⟨_, _, pre0 _ ?_, hrun, hended, _, _, rfl, ?_, ⟨_, rfl⟩, hW, hsame.mono (by decide) (by decide)⟩
  · show Steps p.tables e below (s₁.setTop (mkF m 0 #[.val (.ref a0)] [])) _
    refine XS.aloadN X0.here hx rfl (hb hby own_d7_0) rfl rfl ?_
    show Steps p.tables e below (s₁.setTop (mkF m 1 #[.val (.ref a0)] [(.ref a0)])) _
    refine st24 _ ?_
    show Steps p.tables e below (T24.setTop (mkF m 4 #[.val (.ref a0)] [(.ref ba)])) _
    refine X24.arraylength hx (by rw [e24]; exact Ar25.1) (State.isArrayOf_alike hZ.alike Ar25.2.1) (g := (mkF m 4 #[.val (.ref a0)] [(.ref ba)])) rfl rfl (hb hby own_d7_4) _ ?_
    rw [len_of S25 M25]
    show Steps p.tables e below (T24.setTop (mkF m 5 #[.val (.ref a0)] [(.int (0 : Int32))])) _
    exact retI X24 hx Bd.returns (hb hby own_d7_5) hr
  · show own_Q7 Z a0 ba kb db h0 n0 _ T24.heap _
    rw [e24]
    exact ⟨rfl, N0, rfl⟩
theorem own_d6_0 : decode prog_50_method_4_code 0 = .ok (.ldc2_w 49, 3) := by decide +kernel
theorem own_d6_3 : decode prog_50_method_4_code 3 = .ok (.lstore_n 1, 1) := by decide +kernel
theorem own_d6_4 : decode prog_50_method_4_code 4 = .ok (.iconst 0, 1) := by decide +kernel
theorem own_d6_5 : decode prog_50_method_4_code 5 = .ok (.istore_n 3, 1) := by decide +kernel
theorem own_d6_6 : decode prog_50_method_4_code 6 = .ok (.iload_n 3, 1) := by decide +kernel
theorem own_d6_7 : decode prog_50_method_4_code 7 = .ok (.aload_n 0, 1) := by decide +kernel
theorem own_pd0 : parseMethodDescriptor "()I" = some ⟨[], some .int⟩ := by decide +kernel
theorem own_d6_8 : decode prog_50_method_4_code 8 = .ok (.invokevirtual 51, 3) := by decide +kernel
theorem own_d6_11 : decode prog_50_method_4_code 11 = .ok (.if_icmp .ge 26, 3) := by decide +kernel
theorem own_d6_37 : decode prog_50_method_4_code 37 = .ok (.lload_n 1, 1) := by decide +kernel
theorem own_d6_38 : decode prog_50_method_4_code 38 = .ok (.lload_n 1, 1) := by decide +kernel
theorem own_d6_39 : decode prog_50_method_4_code 39 = .ok (.bipush 33, 2) := by decide +kernel
theorem own_d6_41 : decode prog_50_method_4_code 41 = .ok (.lushr, 1) := by decide +kernel
theorem own_d6_42 : decode prog_50_method_4_code 42 = .ok (.lxor, 1) := by decide +kernel
theorem own_d6_43 : decode prog_50_method_4_code 43 = .ok (.lstore_n 1, 1) := by decide +kernel
theorem own_d6_44 : decode prog_50_method_4_code 44 = .ok (.lload_n 1, 1) := by decide +kernel
theorem own_d6_45 : decode prog_50_method_4_code 45 = .ok (.ldc2_w 63, 3) := by decide +kernel
theorem own_d6_48 : decode prog_50_method_4_code 48 = .ok (.lmul, 1) := by decide +kernel
theorem own_d6_49 : decode prog_50_method_4_code 49 = .ok (.lstore_n 1, 1) := by decide +kernel
theorem own_d6_50 : decode prog_50_method_4_code 50 = .ok (.lload_n 1, 1) := by decide +kernel
theorem own_d6_51 : decode prog_50_method_4_code 51 = .ok (.lload_n 1, 1) := by decide +kernel
theorem own_d6_52 : decode prog_50_method_4_code 52 = .ok (.bipush 33, 2) := by decide +kernel
theorem own_d6_54 : decode prog_50_method_4_code 54 = .ok (.lushr, 1) := by decide +kernel
theorem own_d6_55 : decode prog_50_method_4_code 55 = .ok (.lxor, 1) := by decide +kernel
theorem own_d6_56 : decode prog_50_method_4_code 56 = .ok (.lstore_n 1, 1) := by decide +kernel
theorem own_d6_57 : decode prog_50_method_4_code 57 = .ok (.lload_n 1, 1) := by decide +kernel
theorem own_d6_58 : decode prog_50_method_4_code 58 = .ok (.ldc2_w 65, 3) := by decide +kernel
theorem own_d6_61 : decode prog_50_method_4_code 61 = .ok (.lmul, 1) := by decide +kernel
theorem own_d6_62 : decode prog_50_method_4_code 62 = .ok (.lstore_n 1, 1) := by decide +kernel
theorem own_d6_63 : decode prog_50_method_4_code 63 = .ok (.lload_n 1, 1) := by decide +kernel
theorem own_d6_64 : decode prog_50_method_4_code 64 = .ok (.lload_n 1, 1) := by decide +kernel
theorem own_d6_65 : decode prog_50_method_4_code 65 = .ok (.bipush 33, 2) := by decide +kernel
theorem own_d6_67 : decode prog_50_method_4_code 67 = .ok (.lushr, 1) := by decide +kernel
theorem own_d6_68 : decode prog_50_method_4_code 68 = .ok (.lxor, 1) := by decide +kernel
theorem own_d6_69 : decode prog_50_method_4_code 69 = .ok (.lstore_n 1, 1) := by decide +kernel
theorem own_d6_70 : decode prog_50_method_4_code 70 = .ok (.lload_n 1, 1) := by decide +kernel
theorem own_d6_71 : decode prog_50_method_4_code 71 = .ok (.lreturn, 1) := by decide +kernel
def own_f6  : Int64 := ((((((-3750763034362895579 : Int64) ^^^ (((-3750763034362895579 : Int64).toUInt64 >>> ((33 : Int32) &&& 0x3f).toInt64.toUInt64).toInt64)) * (-49064778989728563 : Int64)) ^^^ (((((-3750763034362895579 : Int64) ^^^ (((-3750763034362895579 : Int64).toUInt64 >>> ((33 : Int32) &&& 0x3f).toInt64.toUInt64).toInt64)) * (-49064778989728563 : Int64)).toUInt64 >>> ((33 : Int32) &&& 0x3f).toInt64.toUInt64).toInt64)) * (-4265267296055464877 : Int64)) ^^^ (((((((-3750763034362895579 : Int64) ^^^ (((-3750763034362895579 : Int64).toUInt64 >>> ((33 : Int32) &&& 0x3f).toInt64.toUInt64).toInt64)) * (-49064778989728563 : Int64)) ^^^ (((((-3750763034362895579 : Int64) ^^^ (((-3750763034362895579 : Int64).toUInt64 >>> ((33 : Int32) &&& 0x3f).toInt64.toUInt64).toInt64)) * (-49064778989728563 : Int64)).toUInt64 >>> ((33 : Int32) &&& 0x3f).toInt64.toUInt64).toInt64)) * (-4265267296055464877 : Int64)).toUInt64 >>> ((33 : Int32) &&& 0x3f).toInt64.toUInt64).toInt64))
theorem own_pn66 : plainName "com/example/all1/all1/RowFilter" = true := by first | (simp [plainName, overriddenIn]; done) | decide +kernel
theorem own_ef6 (m : MethodId) (a0 : Addr) : entryFrame m #[(.ref a0)] 4 = mkF m 0 #[.val (.ref a0), .unset, .unset, .unset] [] := by first | (simp [entryFrame, mkF, argsToLocals, Value.category]; done) | rfl
def own_Q6 (Z : State) (a0 : Addr) (ba : Addr) (kb : ClassId) (db : Value) (h0 : Heap) (n0 : Nat) (v : Option Value) (h : Heap) (L : List Loc) : Prop := v = some (.long (own_f6 )) ∧ Fr n0 L ∧ h = h0
set_option maxRecDepth 65536 in
set_option maxHeartbeats 40000000 in
theorem own_rm6 (l : Launch) (Z : State) (av : Array Value) (hw : ∀ d ∈ tables_1, d.before av Z = true) (ws : List Jvm.Cond) (a0 : Addr) (ba : Addr) (kb : ClassId) (db : Value) (h0 : Heap) (n0 : Nat) (Z0 : n0 ≤ h0.size) (pr0 : Exa Z h0 a0 "com/example/all1/all1/Bytes") (pr1 : Fld Z h0 a0 "com/example/all1/all1/Bytes" "bytes" "[B" (.ref ba)) (pr2 : Arv Z h0 ba kb .byte (0 : Int32) [] db) :
    MetFree l (⟨"com/example/all1/all1/RowFilter", "hash", "(Lcom/example/all1/all1/Bytes;)J"⟩ : MethodName) (head1 (Jvm.Cond.code (⟨"com/example/all1/all1/RowFilter", "hash", "(Lcom/example/all1/all1/Bytes;)J"⟩ : MethodName) prog_50_method_4_code 4 (some .long) :: ws) ({ frames := 1, cells := 0, slots := 0, locals := 13 } : Room)) (fun a U => a = #[(.ref a0)] ∧ Z.Warmed39 U.vm ∧ U.heap = h0) (fun _ _ _ _ _ => True) (fun _ U o U' => ∃ v L, o = .returned v ∧ own_Q6 Z a0 ba kb db h0 n0 v U'.heap L ∧ FrameEnd U o U' L ({ frames := 1, cells := 0, slots := 0, locals := 13 } : Room).cells ({ frames := 1, cells := 0, slots := 0, locals := 13 } : Room).slots) := by
  refine MetFree.of_bodySF (plainFor_of_name own_pn66) hisR ?_
  intro p e s m args below meth c s₁ Bd hml0 hP hK
  obtain ⟨rfl, hZ, hh⟩ := hP
  have hx := Bd.exec
  have hby := Bd.bytes
  have hml : c.maxLocals = 4 := hml0
  have hown : s.vm.findClass "com/example/all1/all1/RowFilter" = some m.cls := findClass_of_methodNamed Bd.named
  have hnm := (name_of_methodNamed Bd.named Bd.method).1
  have X0 : Stand p l e ({ frames := 1, cells := 0, slots := 0, locals := 13 } : Room) s m #[(.ref a0)] below meth c s₁ [] 0 0 := Stand.of_body Bd
  have e0 : s₁.heap = h0 := by rw [← hh, Bd.state]; rfl
  have N0 := Fr.nil n0
  have pre0 : ∀ t, Steps p.tables e below (s₁.setTop (mkF m 0 #[.val (.ref a0), .unset, .unset, .unset] [])) t → Steps p.tables e below (s₁.setTop (entryFrame m #[(.ref a0)] 4)) t := fun t k => castTop (own_ef6 m a0) k
  obtain ⟨cq26, kq26, q26a, q26b, q26c⟩ := isOf hZ e0 pr0
  obtain ⟨_, _, ⟨T26, L26, k26, n26⟩, -, X26, ⟨Lc26, hQ26, l26, y26, z26⟩, st26⟩ := X0.virtualBack hx (y := (⟨"com/example/all1/all1/Bytes", "length", "()I"⟩ : MethodName)) (z := (⟨"com/example/all1/all1/Bytes", "length", "()I"⟩ : MethodName)) hown (mvT hZ (hw _ (List.mem_of_getElem? (i := 37) rfl))) (mvT hZ (hw _ (List.mem_of_getElem? (i := 38) rfl))) (notFace_of_selects (args := #[]) (mvT hZ (hw _ (List.mem_of_getElem? (i := 40) rfl)))) (mvT hZ (hw _ (List.mem_of_getElem? (i := 40) rfl))) (mvT hZ (hw _ (List.mem_of_getElem? (i := 39) rfl))) (by decide) (backOf (W := 1) (own_rm7 l Z av hw [] a0 (ba) (kb) (db) h0 n0 Z0 pr1 pr2) hZ (hw _ (List.mem_of_getElem? (i := 41) rfl)) (hw _ (List.mem_of_getElem? (i := 17) rfl)) (by decide) (by decide)) q26a q26c (g := (mkF m 8 #[.val (.ref a0), .val (.long (-3750763034362895579 : Int64)), .second, .val (.int (0 : Int32))] [(.ref a0), (.int (0 : Int32))])) rfl (by rw [hml]; rfl) (Steps.refl _) (argsL := []) (rest := [(.int (0 : Int32))]) (lenOf own_pd0 rfl) rfl (by show 2 * 0 + _ ≤ _; exact Nat.le_of_eq rfl) (hb hby own_d6_8) (fun _ _ => ⟨rfl, e0, (by decide : 0 + 0 ≤ _), (by decide : 0 + 0 ≤ _)⟩)
  dsimp only [Pt.U, Pt.locs, Pt.cells, Pt.slots] at X26 l26 y26 z26 st26 hQ26
  subst l26 y26 z26
  obtain ⟨rfl, N26q, e28⟩ := hQ26
  have N27 := Fr.app N0 N26q
  obtain ⟨fs, hr, hrun, hended, hW, hsame⟩ := X26.leave (v := some (.long ((((((-3750763034362895579 : Int64) ^^^ (((-3750763034362895579 : Int64).toUInt64 >>> ((33 : Int32) &&& 0x3f).toInt64.toUInt64).toInt64)) * (-49064778989728563 : Int64)) ^^^ (((((-3750763034362895579 : Int64) ^^^ (((-3750763034362895579 : Int64).toUInt64 >>> ((33 : Int32) &&& 0x3f).toInt64.toUInt64).toInt64)) * (-49064778989728563 : Int64)).toUInt64 >>> ((33 : Int32) &&& 0x3f).toInt64.toUInt64).toInt64)) * (-4265267296055464877 : Int64)) ^^^ (((((((-3750763034362895579 : Int64) ^^^ (((-3750763034362895579 : Int64).toUInt64 >>> ((33 : Int32) &&& 0x3f).toInt64.toUInt64).toInt64)) * (-49064778989728563 : Int64)) ^^^ (((((-3750763034362895579 : Int64) ^^^ (((-3750763034362895579 : Int64).toUInt64 >>> ((33 : Int32) &&& 0x3f).toInt64.toUInt64).toInt64)) * (-49064778989728563 : Int64)).toUInt64 >>> ((33 : Int32) &&& 0x3f).toInt64.toUInt64).toInt64)) * (-4265267296055464877 : Int64)).toUInt64 >>> ((33 : Int32) &&& 0x3f).toInt64.toUInt64).toInt64)))) (fun h => by rw [Bd.returns] at h; cases h)
  refine ⟨_, _, pre0 _ ?_, hrun, hended, _, _, rfl, ?_, ⟨_, rfl⟩, hW, hsame.mono (by decide) (by decide)⟩
  · show Steps p.tables e below (s₁.setTop (mkF m 0 #[.val (.ref a0), .unset, .unset, .unset] [])) _
    refine X0.ldc2Long hx hown (mvT hZ (hw _ (List.mem_of_getElem? (i := 36) rfl))) (g := (mkF m 0 #[.val (.ref a0), .unset, .unset, .unset] [])) rfl (hb hby own_d6_0) _ ?_
    show Steps p.tables e below (s₁.setTop (mkF m 3 #[.val (.ref a0), .unset, .unset, .unset] [(.long (-3750763034362895579 : Int64))])) _
    refine XS.lstoreN X0.here hx rfl (hb hby own_d6_3) rfl (l' := #[.val (.ref a0), .val (.long (-3750763034362895579 : Int64)), .second, .unset]) rfl ?_
    show Steps p.tables e below (s₁.setTop (mkF m 4 #[.val (.ref a0), .val (.long (-3750763034362895579 : Int64)), .second, .unset] [])) _
    refine XS.iconst X0.here hx rfl (hb hby own_d6_4) ?_
    show Steps p.tables e below (s₁.setTop (mkF m 5 #[.val (.ref a0), .val (.long (-3750763034362895579 : Int64)), .second, .unset] [(.int (0 : Int32))])) _
    refine XS.istoreN X0.here hx rfl (hb hby own_d6_5) rfl (l' := #[.val (.ref a0), .val (.long (-3750763034362895579 : Int64)), .second, .val (.int (0 : Int32))]) rfl ?_
    show Steps p.tables e below (s₁.setTop (mkF m 6 #[.val (.ref a0), .val (.long (-3750763034362895579 : Int64)), .second, .val (.int (0 : Int32))] [])) _
    refine XS.iloadN X0.here hx rfl (hb hby own_d6_6) rfl ?_
    show Steps p.tables e below (s₁.setTop (mkF m 7 #[.val (.ref a0), .val (.long (-3750763034362895579 : Int64)), .second, .val (.int (0 : Int32))] [(.int (0 : Int32))])) _
    refine XS.aloadN X0.here hx rfl (hb hby own_d6_7) rfl rfl ?_
    show Steps p.tables e below (s₁.setTop (mkF m 8 #[.val (.ref a0), .val (.long (-3750763034362895579 : Int64)), .second, .val (.int (0 : Int32))] [(.ref a0), (.int (0 : Int32))])) _
    refine st26.trans ?_
    show Steps p.tables e below (T26.setTop (mkF m 11 #[.val (.ref a0), .val (.long (-3750763034362895579 : Int64)), .second, .val (.int (0 : Int32))] [(.int (0 : Int32)), (.int (0 : Int32))])) _
    refine XS.icmpYes X26.here hx rfl (pc0 := 11) (pc' := 37) rfl (hb hby own_d6_11) rfl (flt (by decide : ¬ ((0 : Int32) < (0 : Int32)))).2.1 (by decide) (by decide) ?_
    show Steps p.tables e below (T26.setTop (mkF m 37 #[.val (.ref a0), .val (.long (-3750763034362895579 : Int64)), .second, .val (.int (0 : Int32))] [])) _
    refine XS.lloadN X26.here hx rfl (hb hby own_d6_37) rfl ?_
    show Steps p.tables e below (T26.setTop (mkF m 38 #[.val (.ref a0), .val (.long (-3750763034362895579 : Int64)), .second, .val (.int (0 : Int32))] [(.long (-3750763034362895579 : Int64))])) _
    refine XS.lloadN X26.here hx rfl (hb hby own_d6_38) rfl ?_
    show Steps p.tables e below (T26.setTop (mkF m 39 #[.val (.ref a0), .val (.long (-3750763034362895579 : Int64)), .second, .val (.int (0 : Int32))] [(.long (-3750763034362895579 : Int64)), (.long (-3750763034362895579 : Int64))])) _
    refine XS.bipush X26.here hx rfl (hb hby own_d6_39) ?_
    show Steps p.tables e below (T26.setTop (mkF m 41 #[.val (.ref a0), .val (.long (-3750763034362895579 : Int64)), .second, .val (.int (0 : Int32))] [(.int (33 : Int32)), (.long (-3750763034362895579 : Int64)), (.long (-3750763034362895579 : Int64))])) _
    refine XS.lushr X26.here hx rfl (hb hby own_d6_41) rfl ?_
    show Steps p.tables e below (T26.setTop (mkF m 42 #[.val (.ref a0), .val (.long (-3750763034362895579 : Int64)), .second, .val (.int (0 : Int32))] [(.long (((-3750763034362895579 : Int64).toUInt64 >>> ((33 : Int32) &&& 0x3f).toInt64.toUInt64).toInt64)), (.long (-3750763034362895579 : Int64))])) _
    refine XS.lxor X26.here hx rfl (hb hby own_d6_42) rfl ?_
    show Steps p.tables e below (T26.setTop (mkF m 43 #[.val (.ref a0), .val (.long (-3750763034362895579 : Int64)), .second, .val (.int (0 : Int32))] [(.long ((-3750763034362895579 : Int64) ^^^ (((-3750763034362895579 : Int64).toUInt64 >>> ((33 : Int32) &&& 0x3f).toInt64.toUInt64).toInt64)))])) _
    refine XS.lstoreN X26.here hx rfl (hb hby own_d6_43) rfl (l' := #[.val (.ref a0), .val (.long ((-3750763034362895579 : Int64) ^^^ (((-3750763034362895579 : Int64).toUInt64 >>> ((33 : Int32) &&& 0x3f).toInt64.toUInt64).toInt64))), .second, .val (.int (0 : Int32))]) rfl ?_
    show Steps p.tables e below (T26.setTop (mkF m 44 #[.val (.ref a0), .val (.long ((-3750763034362895579 : Int64) ^^^ (((-3750763034362895579 : Int64).toUInt64 >>> ((33 : Int32) &&& 0x3f).toInt64.toUInt64).toInt64))), .second, .val (.int (0 : Int32))] [])) _
    refine XS.lloadN X26.here hx rfl (hb hby own_d6_44) rfl ?_
    show Steps p.tables e below (T26.setTop (mkF m 45 #[.val (.ref a0), .val (.long ((-3750763034362895579 : Int64) ^^^ (((-3750763034362895579 : Int64).toUInt64 >>> ((33 : Int32) &&& 0x3f).toInt64.toUInt64).toInt64))), .second, .val (.int (0 : Int32))] [(.long ((-3750763034362895579 : Int64) ^^^ (((-3750763034362895579 : Int64).toUInt64 >>> ((33 : Int32) &&& 0x3f).toInt64.toUInt64).toInt64)))])) _
    refine X26.ldc2Long hx hown (mvT hZ (hw _ (List.mem_of_getElem? (i := 44) rfl))) (g := (mkF m 45 #[.val (.ref a0), .val (.long ((-3750763034362895579 : Int64) ^^^ (((-3750763034362895579 : Int64).toUInt64 >>> ((33 : Int32) &&& 0x3f).toInt64.toUInt64).toInt64))), .second, .val (.int (0 : Int32))] [(.long ((-3750763034362895579 : Int64) ^^^ (((-3750763034362895579 : Int64).toUInt64 >>> ((33 : Int32) &&& 0x3f).toInt64.toUInt64).toInt64)))])) rfl (hb hby own_d6_45) _ ?_
    show Steps p.tables e below (T26.setTop (mkF m 48 #[.val (.ref a0), .val (.long ((-3750763034362895579 : Int64) ^^^ (((-3750763034362895579 : Int64).toUInt64 >>> ((33 : Int32) &&& 0x3f).toInt64.toUInt64).toInt64))), .second, .val (.int (0 : Int32))] [(.long (-49064778989728563 : Int64)), (.long ((-3750763034362895579 : Int64) ^^^ (((-3750763034362895579 : Int64).toUInt64 >>> ((33 : Int32) &&& 0x3f).toInt64.toUInt64).toInt64)))])) _
    refine XS.lmul X26.here hx rfl (hb hby own_d6_48) rfl ?_
    show Steps p.tables e below (T26.setTop (mkF m 49 #[.val (.ref a0), .val (.long ((-3750763034362895579 : Int64) ^^^ (((-3750763034362895579 : Int64).toUInt64 >>> ((33 : Int32) &&& 0x3f).toInt64.toUInt64).toInt64))), .second, .val (.int (0 : Int32))] [(.long (((-3750763034362895579 : Int64) ^^^ (((-3750763034362895579 : Int64).toUInt64 >>> ((33 : Int32) &&& 0x3f).toInt64.toUInt64).toInt64)) * (-49064778989728563 : Int64)))])) _
    refine XS.lstoreN X26.here hx rfl (hb hby own_d6_49) rfl (l' := #[.val (.ref a0), .val (.long (((-3750763034362895579 : Int64) ^^^ (((-3750763034362895579 : Int64).toUInt64 >>> ((33 : Int32) &&& 0x3f).toInt64.toUInt64).toInt64)) * (-49064778989728563 : Int64))), .second, .val (.int (0 : Int32))]) rfl ?_
    show Steps p.tables e below (T26.setTop (mkF m 50 #[.val (.ref a0), .val (.long (((-3750763034362895579 : Int64) ^^^ (((-3750763034362895579 : Int64).toUInt64 >>> ((33 : Int32) &&& 0x3f).toInt64.toUInt64).toInt64)) * (-49064778989728563 : Int64))), .second, .val (.int (0 : Int32))] [])) _
    refine XS.lloadN X26.here hx rfl (hb hby own_d6_50) rfl ?_
    show Steps p.tables e below (T26.setTop (mkF m 51 #[.val (.ref a0), .val (.long (((-3750763034362895579 : Int64) ^^^ (((-3750763034362895579 : Int64).toUInt64 >>> ((33 : Int32) &&& 0x3f).toInt64.toUInt64).toInt64)) * (-49064778989728563 : Int64))), .second, .val (.int (0 : Int32))] [(.long (((-3750763034362895579 : Int64) ^^^ (((-3750763034362895579 : Int64).toUInt64 >>> ((33 : Int32) &&& 0x3f).toInt64.toUInt64).toInt64)) * (-49064778989728563 : Int64)))])) _
    refine XS.lloadN X26.here hx rfl (hb hby own_d6_51) rfl ?_
    show Steps p.tables e below (T26.setTop (mkF m 52 #[.val (.ref a0), .val (.long (((-3750763034362895579 : Int64) ^^^ (((-3750763034362895579 : Int64).toUInt64 >>> ((33 : Int32) &&& 0x3f).toInt64.toUInt64).toInt64)) * (-49064778989728563 : Int64))), .second, .val (.int (0 : Int32))] [(.long (((-3750763034362895579 : Int64) ^^^ (((-3750763034362895579 : Int64).toUInt64 >>> ((33 : Int32) &&& 0x3f).toInt64.toUInt64).toInt64)) * (-49064778989728563 : Int64))), (.long (((-3750763034362895579 : Int64) ^^^ (((-3750763034362895579 : Int64).toUInt64 >>> ((33 : Int32) &&& 0x3f).toInt64.toUInt64).toInt64)) * (-49064778989728563 : Int64)))])) _
    refine XS.bipush X26.here hx rfl (hb hby own_d6_52) ?_
    show Steps p.tables e below (T26.setTop (mkF m 54 #[.val (.ref a0), .val (.long (((-3750763034362895579 : Int64) ^^^ (((-3750763034362895579 : Int64).toUInt64 >>> ((33 : Int32) &&& 0x3f).toInt64.toUInt64).toInt64)) * (-49064778989728563 : Int64))), .second, .val (.int (0 : Int32))] [(.int (33 : Int32)), (.long (((-3750763034362895579 : Int64) ^^^ (((-3750763034362895579 : Int64).toUInt64 >>> ((33 : Int32) &&& 0x3f).toInt64.toUInt64).toInt64)) * (-49064778989728563 : Int64))), (.long (((-3750763034362895579 : Int64) ^^^ (((-3750763034362895579 : Int64).toUInt64 >>> ((33 : Int32) &&& 0x3f).toInt64.toUInt64).toInt64)) * (-49064778989728563 : Int64)))])) _
    refine XS.lushr X26.here hx rfl (hb hby own_d6_54) rfl ?_
    show Steps p.tables e below (T26.setTop (mkF m 55 #[.val (.ref a0), .val (.long (((-3750763034362895579 : Int64) ^^^ (((-3750763034362895579 : Int64).toUInt64 >>> ((33 : Int32) &&& 0x3f).toInt64.toUInt64).toInt64)) * (-49064778989728563 : Int64))), .second, .val (.int (0 : Int32))] [(.long (((((-3750763034362895579 : Int64) ^^^ (((-3750763034362895579 : Int64).toUInt64 >>> ((33 : Int32) &&& 0x3f).toInt64.toUInt64).toInt64)) * (-49064778989728563 : Int64)).toUInt64 >>> ((33 : Int32) &&& 0x3f).toInt64.toUInt64).toInt64)), (.long (((-3750763034362895579 : Int64) ^^^ (((-3750763034362895579 : Int64).toUInt64 >>> ((33 : Int32) &&& 0x3f).toInt64.toUInt64).toInt64)) * (-49064778989728563 : Int64)))])) _
    refine XS.lxor X26.here hx rfl (hb hby own_d6_55) rfl ?_
    show Steps p.tables e below (T26.setTop (mkF m 56 #[.val (.ref a0), .val (.long (((-3750763034362895579 : Int64) ^^^ (((-3750763034362895579 : Int64).toUInt64 >>> ((33 : Int32) &&& 0x3f).toInt64.toUInt64).toInt64)) * (-49064778989728563 : Int64))), .second, .val (.int (0 : Int32))] [(.long ((((-3750763034362895579 : Int64) ^^^ (((-3750763034362895579 : Int64).toUInt64 >>> ((33 : Int32) &&& 0x3f).toInt64.toUInt64).toInt64)) * (-49064778989728563 : Int64)) ^^^ (((((-3750763034362895579 : Int64) ^^^ (((-3750763034362895579 : Int64).toUInt64 >>> ((33 : Int32) &&& 0x3f).toInt64.toUInt64).toInt64)) * (-49064778989728563 : Int64)).toUInt64 >>> ((33 : Int32) &&& 0x3f).toInt64.toUInt64).toInt64)))])) _
    refine XS.lstoreN X26.here hx rfl (hb hby own_d6_56) rfl (l' := #[.val (.ref a0), .val (.long ((((-3750763034362895579 : Int64) ^^^ (((-3750763034362895579 : Int64).toUInt64 >>> ((33 : Int32) &&& 0x3f).toInt64.toUInt64).toInt64)) * (-49064778989728563 : Int64)) ^^^ (((((-3750763034362895579 : Int64) ^^^ (((-3750763034362895579 : Int64).toUInt64 >>> ((33 : Int32) &&& 0x3f).toInt64.toUInt64).toInt64)) * (-49064778989728563 : Int64)).toUInt64 >>> ((33 : Int32) &&& 0x3f).toInt64.toUInt64).toInt64))), .second, .val (.int (0 : Int32))]) rfl ?_
    show Steps p.tables e below (T26.setTop (mkF m 57 #[.val (.ref a0), .val (.long ((((-3750763034362895579 : Int64) ^^^ (((-3750763034362895579 : Int64).toUInt64 >>> ((33 : Int32) &&& 0x3f).toInt64.toUInt64).toInt64)) * (-49064778989728563 : Int64)) ^^^ (((((-3750763034362895579 : Int64) ^^^ (((-3750763034362895579 : Int64).toUInt64 >>> ((33 : Int32) &&& 0x3f).toInt64.toUInt64).toInt64)) * (-49064778989728563 : Int64)).toUInt64 >>> ((33 : Int32) &&& 0x3f).toInt64.toUInt64).toInt64))), .second, .val (.int (0 : Int32))] [])) _
    refine XS.lloadN X26.here hx rfl (hb hby own_d6_57) rfl ?_
    show Steps p.tables e below (T26.setTop (mkF m 58 #[.val (.ref a0), .val (.long ((((-3750763034362895579 : Int64) ^^^ (((-3750763034362895579 : Int64).toUInt64 >>> ((33 : Int32) &&& 0x3f).toInt64.toUInt64).toInt64)) * (-49064778989728563 : Int64)) ^^^ (((((-3750763034362895579 : Int64) ^^^ (((-3750763034362895579 : Int64).toUInt64 >>> ((33 : Int32) &&& 0x3f).toInt64.toUInt64).toInt64)) * (-49064778989728563 : Int64)).toUInt64 >>> ((33 : Int32) &&& 0x3f).toInt64.toUInt64).toInt64))), .second, .val (.int (0 : Int32))] [(.long ((((-3750763034362895579 : Int64) ^^^ (((-3750763034362895579 : Int64).toUInt64 >>> ((33 : Int32) &&& 0x3f).toInt64.toUInt64).toInt64)) * (-49064778989728563 : Int64)) ^^^ (((((-3750763034362895579 : Int64) ^^^ (((-3750763034362895579 : Int64).toUInt64 >>> ((33 : Int32) &&& 0x3f).toInt64.toUInt64).toInt64)) * (-49064778989728563 : Int64)).toUInt64 >>> ((33 : Int32) &&& 0x3f).toInt64.toUInt64).toInt64)))])) _
    refine X26.ldc2Long hx hown (mvT hZ (hw _ (List.mem_of_getElem? (i := 45) rfl))) (g := (mkF m 58 #[.val (.ref a0), .val (.long ((((-3750763034362895579 : Int64) ^^^ (((-3750763034362895579 : Int64).toUInt64 >>> ((33 : Int32) &&& 0x3f).toInt64.toUInt64).toInt64)) * (-49064778989728563 : Int64)) ^^^ (((((-3750763034362895579 : Int64) ^^^ (((-3750763034362895579 : Int64).toUInt64 >>> ((33 : Int32) &&& 0x3f).toInt64.toUInt64).toInt64)) * (-49064778989728563 : Int64)).toUInt64 >>> ((33 : Int32) &&& 0x3f).toInt64.toUInt64).toInt64))), .second, .val (.int (0 : Int32))] [(.long ((((-3750763034362895579 : Int64) ^^^ (((-3750763034362895579 : Int64).toUInt64 >>> ((33 : Int32) &&& 0x3f).toInt64.toUInt64).toInt64)) * (-49064778989728563 : Int64)) ^^^ (((((-3750763034362895579 : Int64) ^^^ (((-3750763034362895579 : Int64).toUInt64 >>> ((33 : Int32) &&& 0x3f).toInt64.toUInt64).toInt64)) * (-49064778989728563 : Int64)).toUInt64 >>> ((33 : Int32) &&& 0x3f).toInt64.toUInt64).toInt64)))])) rfl (hb hby own_d6_58) _ ?_
    show Steps p.tables e below (T26.setTop (mkF m 61 #[.val (.ref a0), .val (.long ((((-3750763034362895579 : Int64) ^^^ (((-3750763034362895579 : Int64).toUInt64 >>> ((33 : Int32) &&& 0x3f).toInt64.toUInt64).toInt64)) * (-49064778989728563 : Int64)) ^^^ (((((-3750763034362895579 : Int64) ^^^ (((-3750763034362895579 : Int64).toUInt64 >>> ((33 : Int32) &&& 0x3f).toInt64.toUInt64).toInt64)) * (-49064778989728563 : Int64)).toUInt64 >>> ((33 : Int32) &&& 0x3f).toInt64.toUInt64).toInt64))), .second, .val (.int (0 : Int32))] [(.long (-4265267296055464877 : Int64)), (.long ((((-3750763034362895579 : Int64) ^^^ (((-3750763034362895579 : Int64).toUInt64 >>> ((33 : Int32) &&& 0x3f).toInt64.toUInt64).toInt64)) * (-49064778989728563 : Int64)) ^^^ (((((-3750763034362895579 : Int64) ^^^ (((-3750763034362895579 : Int64).toUInt64 >>> ((33 : Int32) &&& 0x3f).toInt64.toUInt64).toInt64)) * (-49064778989728563 : Int64)).toUInt64 >>> ((33 : Int32) &&& 0x3f).toInt64.toUInt64).toInt64)))])) _
    refine XS.lmul X26.here hx rfl (hb hby own_d6_61) rfl ?_
    show Steps p.tables e below (T26.setTop (mkF m 62 #[.val (.ref a0), .val (.long ((((-3750763034362895579 : Int64) ^^^ (((-3750763034362895579 : Int64).toUInt64 >>> ((33 : Int32) &&& 0x3f).toInt64.toUInt64).toInt64)) * (-49064778989728563 : Int64)) ^^^ (((((-3750763034362895579 : Int64) ^^^ (((-3750763034362895579 : Int64).toUInt64 >>> ((33 : Int32) &&& 0x3f).toInt64.toUInt64).toInt64)) * (-49064778989728563 : Int64)).toUInt64 >>> ((33 : Int32) &&& 0x3f).toInt64.toUInt64).toInt64))), .second, .val (.int (0 : Int32))] [(.long (((((-3750763034362895579 : Int64) ^^^ (((-3750763034362895579 : Int64).toUInt64 >>> ((33 : Int32) &&& 0x3f).toInt64.toUInt64).toInt64)) * (-49064778989728563 : Int64)) ^^^ (((((-3750763034362895579 : Int64) ^^^ (((-3750763034362895579 : Int64).toUInt64 >>> ((33 : Int32) &&& 0x3f).toInt64.toUInt64).toInt64)) * (-49064778989728563 : Int64)).toUInt64 >>> ((33 : Int32) &&& 0x3f).toInt64.toUInt64).toInt64)) * (-4265267296055464877 : Int64)))])) _
    refine XS.lstoreN X26.here hx rfl (hb hby own_d6_62) rfl (l' := #[.val (.ref a0), .val (.long (((((-3750763034362895579 : Int64) ^^^ (((-3750763034362895579 : Int64).toUInt64 >>> ((33 : Int32) &&& 0x3f).toInt64.toUInt64).toInt64)) * (-49064778989728563 : Int64)) ^^^ (((((-3750763034362895579 : Int64) ^^^ (((-3750763034362895579 : Int64).toUInt64 >>> ((33 : Int32) &&& 0x3f).toInt64.toUInt64).toInt64)) * (-49064778989728563 : Int64)).toUInt64 >>> ((33 : Int32) &&& 0x3f).toInt64.toUInt64).toInt64)) * (-4265267296055464877 : Int64))), .second, .val (.int (0 : Int32))]) rfl ?_
    show Steps p.tables e below (T26.setTop (mkF m 63 #[.val (.ref a0), .val (.long (((((-3750763034362895579 : Int64) ^^^ (((-3750763034362895579 : Int64).toUInt64 >>> ((33 : Int32) &&& 0x3f).toInt64.toUInt64).toInt64)) * (-49064778989728563 : Int64)) ^^^ (((((-3750763034362895579 : Int64) ^^^ (((-3750763034362895579 : Int64).toUInt64 >>> ((33 : Int32) &&& 0x3f).toInt64.toUInt64).toInt64)) * (-49064778989728563 : Int64)).toUInt64 >>> ((33 : Int32) &&& 0x3f).toInt64.toUInt64).toInt64)) * (-4265267296055464877 : Int64))), .second, .val (.int (0 : Int32))] [])) _
    refine XS.lloadN X26.here hx rfl (hb hby own_d6_63) rfl ?_
    show Steps p.tables e below (T26.setTop (mkF m 64 #[.val (.ref a0), .val (.long (((((-3750763034362895579 : Int64) ^^^ (((-3750763034362895579 : Int64).toUInt64 >>> ((33 : Int32) &&& 0x3f).toInt64.toUInt64).toInt64)) * (-49064778989728563 : Int64)) ^^^ (((((-3750763034362895579 : Int64) ^^^ (((-3750763034362895579 : Int64).toUInt64 >>> ((33 : Int32) &&& 0x3f).toInt64.toUInt64).toInt64)) * (-49064778989728563 : Int64)).toUInt64 >>> ((33 : Int32) &&& 0x3f).toInt64.toUInt64).toInt64)) * (-4265267296055464877 : Int64))), .second, .val (.int (0 : Int32))] [(.long (((((-3750763034362895579 : Int64) ^^^ (((-3750763034362895579 : Int64).toUInt64 >>> ((33 : Int32) &&& 0x3f).toInt64.toUInt64).toInt64)) * (-49064778989728563 : Int64)) ^^^ (((((-3750763034362895579 : Int64) ^^^ (((-3750763034362895579 : Int64).toUInt64 >>> ((33 : Int32) &&& 0x3f).toInt64.toUInt64).toInt64)) * (-49064778989728563 : Int64)).toUInt64 >>> ((33 : Int32) &&& 0x3f).toInt64.toUInt64).toInt64)) * (-4265267296055464877 : Int64)))])) _
    refine XS.lloadN X26.here hx rfl (hb hby own_d6_64) rfl ?_
    show Steps p.tables e below (T26.setTop (mkF m 65 #[.val (.ref a0), .val (.long (((((-3750763034362895579 : Int64) ^^^ (((-3750763034362895579 : Int64).toUInt64 >>> ((33 : Int32) &&& 0x3f).toInt64.toUInt64).toInt64)) * (-49064778989728563 : Int64)) ^^^ (((((-3750763034362895579 : Int64) ^^^ (((-3750763034362895579 : Int64).toUInt64 >>> ((33 : Int32) &&& 0x3f).toInt64.toUInt64).toInt64)) * (-49064778989728563 : Int64)).toUInt64 >>> ((33 : Int32) &&& 0x3f).toInt64.toUInt64).toInt64)) * (-4265267296055464877 : Int64))), .second, .val (.int (0 : Int32))] [(.long (((((-3750763034362895579 : Int64) ^^^ (((-3750763034362895579 : Int64).toUInt64 >>> ((33 : Int32) &&& 0x3f).toInt64.toUInt64).toInt64)) * (-49064778989728563 : Int64)) ^^^ (((((-3750763034362895579 : Int64) ^^^ (((-3750763034362895579 : Int64).toUInt64 >>> ((33 : Int32) &&& 0x3f).toInt64.toUInt64).toInt64)) * (-49064778989728563 : Int64)).toUInt64 >>> ((33 : Int32) &&& 0x3f).toInt64.toUInt64).toInt64)) * (-4265267296055464877 : Int64))), (.long (((((-3750763034362895579 : Int64) ^^^ (((-3750763034362895579 : Int64).toUInt64 >>> ((33 : Int32) &&& 0x3f).toInt64.toUInt64).toInt64)) * (-49064778989728563 : Int64)) ^^^ (((((-3750763034362895579 : Int64) ^^^ (((-3750763034362895579 : Int64).toUInt64 >>> ((33 : Int32) &&& 0x3f).toInt64.toUInt64).toInt64)) * (-49064778989728563 : Int64)).toUInt64 >>> ((33 : Int32) &&& 0x3f).toInt64.toUInt64).toInt64)) * (-4265267296055464877 : Int64)))])) _
    refine XS.bipush X26.here hx rfl (hb hby own_d6_65) ?_
    show Steps p.tables e below (T26.setTop (mkF m 67 #[.val (.ref a0), .val (.long (((((-3750763034362895579 : Int64) ^^^ (((-3750763034362895579 : Int64).toUInt64 >>> ((33 : Int32) &&& 0x3f).toInt64.toUInt64).toInt64)) * (-49064778989728563 : Int64)) ^^^ (((((-3750763034362895579 : Int64) ^^^ (((-3750763034362895579 : Int64).toUInt64 >>> ((33 : Int32) &&& 0x3f).toInt64.toUInt64).toInt64)) * (-49064778989728563 : Int64)).toUInt64 >>> ((33 : Int32) &&& 0x3f).toInt64.toUInt64).toInt64)) * (-4265267296055464877 : Int64))), .second, .val (.int (0 : Int32))] [(.int (33 : Int32)), (.long (((((-3750763034362895579 : Int64) ^^^ (((-3750763034362895579 : Int64).toUInt64 >>> ((33 : Int32) &&& 0x3f).toInt64.toUInt64).toInt64)) * (-49064778989728563 : Int64)) ^^^ (((((-3750763034362895579 : Int64) ^^^ (((-3750763034362895579 : Int64).toUInt64 >>> ((33 : Int32) &&& 0x3f).toInt64.toUInt64).toInt64)) * (-49064778989728563 : Int64)).toUInt64 >>> ((33 : Int32) &&& 0x3f).toInt64.toUInt64).toInt64)) * (-4265267296055464877 : Int64))), (.long (((((-3750763034362895579 : Int64) ^^^ (((-3750763034362895579 : Int64).toUInt64 >>> ((33 : Int32) &&& 0x3f).toInt64.toUInt64).toInt64)) * (-49064778989728563 : Int64)) ^^^ (((((-3750763034362895579 : Int64) ^^^ (((-3750763034362895579 : Int64).toUInt64 >>> ((33 : Int32) &&& 0x3f).toInt64.toUInt64).toInt64)) * (-49064778989728563 : Int64)).toUInt64 >>> ((33 : Int32) &&& 0x3f).toInt64.toUInt64).toInt64)) * (-4265267296055464877 : Int64)))])) _
    refine XS.lushr X26.here hx rfl (hb hby own_d6_67) rfl ?_
    show Steps p.tables e below (T26.setTop (mkF m 68 #[.val (.ref a0), .val (.long (((((-3750763034362895579 : Int64) ^^^ (((-3750763034362895579 : Int64).toUInt64 >>> ((33 : Int32) &&& 0x3f).toInt64.toUInt64).toInt64)) * (-49064778989728563 : Int64)) ^^^ (((((-3750763034362895579 : Int64) ^^^ (((-3750763034362895579 : Int64).toUInt64 >>> ((33 : Int32) &&& 0x3f).toInt64.toUInt64).toInt64)) * (-49064778989728563 : Int64)).toUInt64 >>> ((33 : Int32) &&& 0x3f).toInt64.toUInt64).toInt64)) * (-4265267296055464877 : Int64))), .second, .val (.int (0 : Int32))] [(.long (((((((-3750763034362895579 : Int64) ^^^ (((-3750763034362895579 : Int64).toUInt64 >>> ((33 : Int32) &&& 0x3f).toInt64.toUInt64).toInt64)) * (-49064778989728563 : Int64)) ^^^ (((((-3750763034362895579 : Int64) ^^^ (((-3750763034362895579 : Int64).toUInt64 >>> ((33 : Int32) &&& 0x3f).toInt64.toUInt64).toInt64)) * (-49064778989728563 : Int64)).toUInt64 >>> ((33 : Int32) &&& 0x3f).toInt64.toUInt64).toInt64)) * (-4265267296055464877 : Int64)).toUInt64 >>> ((33 : Int32) &&& 0x3f).toInt64.toUInt64).toInt64)), (.long (((((-3750763034362895579 : Int64) ^^^ (((-3750763034362895579 : Int64).toUInt64 >>> ((33 : Int32) &&& 0x3f).toInt64.toUInt64).toInt64)) * (-49064778989728563 : Int64)) ^^^ (((((-3750763034362895579 : Int64) ^^^ (((-3750763034362895579 : Int64).toUInt64 >>> ((33 : Int32) &&& 0x3f).toInt64.toUInt64).toInt64)) * (-49064778989728563 : Int64)).toUInt64 >>> ((33 : Int32) &&& 0x3f).toInt64.toUInt64).toInt64)) * (-4265267296055464877 : Int64)))])) _
    refine XS.lxor X26.here hx rfl (hb hby own_d6_68) rfl ?_
    show Steps p.tables e below (T26.setTop (mkF m 69 #[.val (.ref a0), .val (.long (((((-3750763034362895579 : Int64) ^^^ (((-3750763034362895579 : Int64).toUInt64 >>> ((33 : Int32) &&& 0x3f).toInt64.toUInt64).toInt64)) * (-49064778989728563 : Int64)) ^^^ (((((-3750763034362895579 : Int64) ^^^ (((-3750763034362895579 : Int64).toUInt64 >>> ((33 : Int32) &&& 0x3f).toInt64.toUInt64).toInt64)) * (-49064778989728563 : Int64)).toUInt64 >>> ((33 : Int32) &&& 0x3f).toInt64.toUInt64).toInt64)) * (-4265267296055464877 : Int64))), .second, .val (.int (0 : Int32))] [(.long ((((((-3750763034362895579 : Int64) ^^^ (((-3750763034362895579 : Int64).toUInt64 >>> ((33 : Int32) &&& 0x3f).toInt64.toUInt64).toInt64)) * (-49064778989728563 : Int64)) ^^^ (((((-3750763034362895579 : Int64) ^^^ (((-3750763034362895579 : Int64).toUInt64 >>> ((33 : Int32) &&& 0x3f).toInt64.toUInt64).toInt64)) * (-49064778989728563 : Int64)).toUInt64 >>> ((33 : Int32) &&& 0x3f).toInt64.toUInt64).toInt64)) * (-4265267296055464877 : Int64)) ^^^ (((((((-3750763034362895579 : Int64) ^^^ (((-3750763034362895579 : Int64).toUInt64 >>> ((33 : Int32) &&& 0x3f).toInt64.toUInt64).toInt64)) * (-49064778989728563 : Int64)) ^^^ (((((-3750763034362895579 : Int64) ^^^ (((-3750763034362895579 : Int64).toUInt64 >>> ((33 : Int32) &&& 0x3f).toInt64.toUInt64).toInt64)) * (-49064778989728563 : Int64)).toUInt64 >>> ((33 : Int32) &&& 0x3f).toInt64.toUInt64).toInt64)) * (-4265267296055464877 : Int64)).toUInt64 >>> ((33 : Int32) &&& 0x3f).toInt64.toUInt64).toInt64)))])) _
    refine XS.lstoreN X26.here hx rfl (hb hby own_d6_69) rfl (l' := #[.val (.ref a0), .val (.long ((((((-3750763034362895579 : Int64) ^^^ (((-3750763034362895579 : Int64).toUInt64 >>> ((33 : Int32) &&& 0x3f).toInt64.toUInt64).toInt64)) * (-49064778989728563 : Int64)) ^^^ (((((-3750763034362895579 : Int64) ^^^ (((-3750763034362895579 : Int64).toUInt64 >>> ((33 : Int32) &&& 0x3f).toInt64.toUInt64).toInt64)) * (-49064778989728563 : Int64)).toUInt64 >>> ((33 : Int32) &&& 0x3f).toInt64.toUInt64).toInt64)) * (-4265267296055464877 : Int64)) ^^^ (((((((-3750763034362895579 : Int64) ^^^ (((-3750763034362895579 : Int64).toUInt64 >>> ((33 : Int32) &&& 0x3f).toInt64.toUInt64).toInt64)) * (-49064778989728563 : Int64)) ^^^ (((((-3750763034362895579 : Int64) ^^^ (((-3750763034362895579 : Int64).toUInt64 >>> ((33 : Int32) &&& 0x3f).toInt64.toUInt64).toInt64)) * (-49064778989728563 : Int64)).toUInt64 >>> ((33 : Int32) &&& 0x3f).toInt64.toUInt64).toInt64)) * (-4265267296055464877 : Int64)).toUInt64 >>> ((33 : Int32) &&& 0x3f).toInt64.toUInt64).toInt64))), .second, .val (.int (0 : Int32))]) rfl ?_
    show Steps p.tables e below (T26.setTop (mkF m 70 #[.val (.ref a0), .val (.long ((((((-3750763034362895579 : Int64) ^^^ (((-3750763034362895579 : Int64).toUInt64 >>> ((33 : Int32) &&& 0x3f).toInt64.toUInt64).toInt64)) * (-49064778989728563 : Int64)) ^^^ (((((-3750763034362895579 : Int64) ^^^ (((-3750763034362895579 : Int64).toUInt64 >>> ((33 : Int32) &&& 0x3f).toInt64.toUInt64).toInt64)) * (-49064778989728563 : Int64)).toUInt64 >>> ((33 : Int32) &&& 0x3f).toInt64.toUInt64).toInt64)) * (-4265267296055464877 : Int64)) ^^^ (((((((-3750763034362895579 : Int64) ^^^ (((-3750763034362895579 : Int64).toUInt64 >>> ((33 : Int32) &&& 0x3f).toInt64.toUInt64).toInt64)) * (-49064778989728563 : Int64)) ^^^ (((((-3750763034362895579 : Int64) ^^^ (((-3750763034362895579 : Int64).toUInt64 >>> ((33 : Int32) &&& 0x3f).toInt64.toUInt64).toInt64)) * (-49064778989728563 : Int64)).toUInt64 >>> ((33 : Int32) &&& 0x3f).toInt64.toUInt64).toInt64)) * (-4265267296055464877 : Int64)).toUInt64 >>> ((33 : Int32) &&& 0x3f).toInt64.toUInt64).toInt64))), .second, .val (.int (0 : Int32))] [])) _
    refine XS.lloadN X26.here hx rfl (hb hby own_d6_70) rfl ?_
    show Steps p.tables e below (T26.setTop (mkF m 71 #[.val (.ref a0), .val (.long ((((((-3750763034362895579 : Int64) ^^^ (((-3750763034362895579 : Int64).toUInt64 >>> ((33 : Int32) &&& 0x3f).toInt64.toUInt64).toInt64)) * (-49064778989728563 : Int64)) ^^^ (((((-3750763034362895579 : Int64) ^^^ (((-3750763034362895579 : Int64).toUInt64 >>> ((33 : Int32) &&& 0x3f).toInt64.toUInt64).toInt64)) * (-49064778989728563 : Int64)).toUInt64 >>> ((33 : Int32) &&& 0x3f).toInt64.toUInt64).toInt64)) * (-4265267296055464877 : Int64)) ^^^ (((((((-3750763034362895579 : Int64) ^^^ (((-3750763034362895579 : Int64).toUInt64 >>> ((33 : Int32) &&& 0x3f).toInt64.toUInt64).toInt64)) * (-49064778989728563 : Int64)) ^^^ (((((-3750763034362895579 : Int64) ^^^ (((-3750763034362895579 : Int64).toUInt64 >>> ((33 : Int32) &&& 0x3f).toInt64.toUInt64).toInt64)) * (-49064778989728563 : Int64)).toUInt64 >>> ((33 : Int32) &&& 0x3f).toInt64.toUInt64).toInt64)) * (-4265267296055464877 : Int64)).toUInt64 >>> ((33 : Int32) &&& 0x3f).toInt64.toUInt64).toInt64))), .second, .val (.int (0 : Int32))] [(.long ((((((-3750763034362895579 : Int64) ^^^ (((-3750763034362895579 : Int64).toUInt64 >>> ((33 : Int32) &&& 0x3f).toInt64.toUInt64).toInt64)) * (-49064778989728563 : Int64)) ^^^ (((((-3750763034362895579 : Int64) ^^^ (((-3750763034362895579 : Int64).toUInt64 >>> ((33 : Int32) &&& 0x3f).toInt64.toUInt64).toInt64)) * (-49064778989728563 : Int64)).toUInt64 >>> ((33 : Int32) &&& 0x3f).toInt64.toUInt64).toInt64)) * (-4265267296055464877 : Int64)) ^^^ (((((((-3750763034362895579 : Int64) ^^^ (((-3750763034362895579 : Int64).toUInt64 >>> ((33 : Int32) &&& 0x3f).toInt64.toUInt64).toInt64)) * (-49064778989728563 : Int64)) ^^^ (((((-3750763034362895579 : Int64) ^^^ (((-3750763034362895579 : Int64).toUInt64 >>> ((33 : Int32) &&& 0x3f).toInt64.toUInt64).toInt64)) * (-49064778989728563 : Int64)).toUInt64 >>> ((33 : Int32) &&& 0x3f).toInt64.toUInt64).toInt64)) * (-4265267296055464877 : Int64)).toUInt64 >>> ((33 : Int32) &&& 0x3f).toInt64.toUInt64).toInt64)))])) _
    exact retOut X26 hx (t := .long) (i := .lreturn) Bd.returns rfl (Or.inr (Or.inl ⟨rfl, rfl, _, rfl⟩)) (hb hby own_d6_71) hr
  · show own_Q6 Z a0 ba kb db h0 n0 _ T26.heap _
    rw [e28]
    have hv : own_f6  = ((((((-3750763034362895579 : Int64) ^^^ (((-3750763034362895579 : Int64).toUInt64 >>> ((33 : Int32) &&& 0x3f).toInt64.toUInt64).toInt64)) * (-49064778989728563 : Int64)) ^^^ (((((-3750763034362895579 : Int64) ^^^ (((-3750763034362895579 : Int64).toUInt64 >>> ((33 : Int32) &&& 0x3f).toInt64.toUInt64).toInt64)) * (-49064778989728563 : Int64)).toUInt64 >>> ((33 : Int32) &&& 0x3f).toInt64.toUInt64).toInt64)) * (-4265267296055464877 : Int64)) ^^^ (((((((-3750763034362895579 : Int64) ^^^ (((-3750763034362895579 : Int64).toUInt64 >>> ((33 : Int32) &&& 0x3f).toInt64.toUInt64).toInt64)) * (-49064778989728563 : Int64)) ^^^ (((((-3750763034362895579 : Int64) ^^^ (((-3750763034362895579 : Int64).toUInt64 >>> ((33 : Int32) &&& 0x3f).toInt64.toUInt64).toInt64)) * (-49064778989728563 : Int64)).toUInt64 >>> ((33 : Int32) &&& 0x3f).toInt64.toUInt64).toInt64)) * (-4265267296055464877 : Int64)).toUInt64 >>> ((33 : Int32) &&& 0x3f).toInt64.toUInt64).toInt64)) := by rfl
    exact ⟨by rw [hv], N27, rfl⟩
theorem own_f6_cases  : own_f6  = ((((((-3750763034362895579 : Int64) ^^^ (((-3750763034362895579 : Int64).toUInt64 >>> ((33 : Int32) &&& 0x3f).toInt64.toUInt64).toInt64)) * (-49064778989728563 : Int64)) ^^^ (((((-3750763034362895579 : Int64) ^^^ (((-3750763034362895579 : Int64).toUInt64 >>> ((33 : Int32) &&& 0x3f).toInt64.toUInt64).toInt64)) * (-49064778989728563 : Int64)).toUInt64 >>> ((33 : Int32) &&& 0x3f).toInt64.toUInt64).toInt64)) * (-4265267296055464877 : Int64)) ^^^ (((((((-3750763034362895579 : Int64) ^^^ (((-3750763034362895579 : Int64).toUInt64 >>> ((33 : Int32) &&& 0x3f).toInt64.toUInt64).toInt64)) * (-49064778989728563 : Int64)) ^^^ (((((-3750763034362895579 : Int64) ^^^ (((-3750763034362895579 : Int64).toUInt64 >>> ((33 : Int32) &&& 0x3f).toInt64.toUInt64).toInt64)) * (-49064778989728563 : Int64)).toUInt64 >>> ((33 : Int32) &&& 0x3f).toInt64.toUInt64).toInt64)) * (-4265267296055464877 : Int64)).toUInt64 >>> ((33 : Int32) &&& 0x3f).toInt64.toUInt64).toInt64)) := by
  rfl
theorem own_d5_0 : decode prog_51_method_2_code 0 = .ok (.aload_n 0, 1) := by decide +kernel
theorem own_pd1 : parseMethodDescriptor "()Z" = some ⟨[], some .boolean⟩ := by decide +kernel
theorem own_d5_1 : decode prog_51_method_2_code 1 = .ok (.invokevirtual 15, 3) := by decide +kernel
theorem own_d5_4 : decode prog_51_method_2_code 4 = .ok (.ifCond .eq 20, 3) := by decide +kernel
theorem own_d5_24 : decode prog_51_method_2_code 24 = .ok (.aload_n 0, 1) := by decide +kernel
theorem own_d5_25 : decode prog_51_method_2_code 25 = .ok (.getfield 9, 3) := by decide +kernel
theorem own_d5_28 : decode prog_51_method_2_code 28 = .ok (.aload_n 0, 1) := by decide +kernel
theorem own_d5_29 : decode prog_51_method_2_code 29 = .ok (.dup, 1) := by decide +kernel
theorem own_d5_30 : decode prog_51_method_2_code 30 = .ok (.getfield 21, 3) := by decide +kernel
theorem own_d5_33 : decode prog_51_method_2_code 33 = .ok (.dup_x1, 1) := by decide +kernel
theorem own_d5_34 : decode prog_51_method_2_code 34 = .ok (.iconst 1, 1) := by decide +kernel
theorem own_d5_35 : decode prog_51_method_2_code 35 = .ok (.iadd, 1) := by decide +kernel
theorem own_d5_36 : decode prog_51_method_2_code 36 = .ok (.putfield 21, 3) := by decide +kernel
theorem own_d5_39 : decode prog_51_method_2_code 39 = .ok (.aload_n 1, 1) := by decide +kernel
theorem own_pd2 : parseMethodDescriptor "(Lcom/example/all1/all1/Bytes;)J" = some ⟨[(.object "com/example/all1/all1/Bytes")], some .long⟩ := by decide +kernel
theorem own_d5_40 : decode prog_51_method_2_code 40 = .ok (.invokestatic 32, 3) := by decide +kernel
theorem own_d5_43 : decode prog_51_method_2_code 43 = .ok (.lastore, 1) := by decide +kernel
theorem own_d5_44 : decode prog_51_method_2_code 44 = .ok (.return_, 1) := by decide +kernel
theorem own_ef5 (m : MethodId) (a0 : Addr) (a1 : Addr) : entryFrame m #[(.ref a0), (.ref a1)] 2 = mkF m 0 #[.val (.ref a0), .val (.ref a1)] [] := by first | (simp [entryFrame, mkF, argsToLocals, Value.category]; done) | rfl
def own_Q5 (Z : State) (a0 : Addr) (a1 : Addr) (r : Int32) (ha : Addr) (kk : ClassId) (nn : Int32) (vs : List Value) (dv : Value) (ba : Addr) (kb : ClassId) (db : Value) (h0 : Heap) (n0 : Nat) (v : Option Value) (h : Heap) (L : List Loc) : Prop := v = none ∧ Fr n0 L ∧ Keep h0 h [a0, ha] ∧ (Exa Z h a0 "com/example/all1/all1/RowFilter$Builder") ∧ (Fld Z h a0 "com/example/all1/all1/RowFilter$Builder" "rows" "I" (.int (r + (1 : Int32)))) ∧ (Fld Z h a0 "com/example/all1/all1/RowFilter$Builder" "hashes" "[J" (.ref ha)) ∧ (Arv Z h ha kk .long nn (vs.set (r).toNatClampNeg (.long (own_f6 ))) dv)
set_option maxRecDepth 65536 in
set_option maxHeartbeats 40000000 in
theorem own_rm5 (l : Launch) (Z : State) (av : Array Value) (hw : ∀ d ∈ tables_1, d.before av Z = true) (ws : List Jvm.Cond) (a0 : Addr) (a1 : Addr) (r : Int32) (ha : Addr) (kk : ClassId) (nn : Int32) (vs : List Value) (dv : Value) (ba : Addr) (kb : ClassId) (db : Value) (h0 : Heap) (n0 : Nat) (Z0 : n0 ≤ h0.size) (pr0 : Exa Z h0 a0 "com/example/all1/all1/RowFilter$Builder") (pr1 : Fld Z h0 a0 "com/example/all1/all1/RowFilter$Builder" "rows" "I" (.int r)) (pr2 : Fld Z h0 a0 "com/example/all1/all1/RowFilter$Builder" "hashes" "[J" (.ref ha)) (pr3 : Arv Z h0 ha kk .long nn vs dv) (pr4 : Exa Z h0 a1 "com/example/all1/all1/Bytes") (pr5 : Fld Z h0 a1 "com/example/all1/all1/Bytes" "bytes" "[B" (.ref ba)) (pr6 : Arv Z h0 ba kb .byte (0 : Int32) [] db) (g_a0 : n0 ≤ a0) (g_ha : n0 ≤ ha) (ne_a0_ha : a0 ≠ ha) (ne_a1_a0 : a1 ≠ a0) (ne_ba_a0 : ba ≠ a0) (ne_a1_ha : a1 ≠ ha) (ne_ba_ha : ba ≠ ha) (hy1 : ¬ (r = nn)) (hy2 : ¬ r < 0 ∧ r < nn) (hy3 : r.toNatClampNeg < vs.length) :
    MetFree l (⟨"com/example/all1/all1/RowFilter$Builder", "add", "(Lcom/example/all1/all1/Bytes;)V"⟩ : MethodName) (head1 (Jvm.Cond.code (⟨"com/example/all1/all1/RowFilter$Builder", "add", "(Lcom/example/all1/all1/Bytes;)V"⟩ : MethodName) prog_51_method_2_code 2 none :: ws) ({ frames := 2, cells := 0, slots := 0, locals := 30 } : Room)) (fun a U => a = #[(.ref a0), (.ref a1)] ∧ Z.Warmed39 U.vm ∧ U.heap = h0) (fun _ _ _ _ _ => True) (fun _ U o U' => ∃ v L, o = .returned v ∧ own_Q5 Z a0 a1 r ha kk nn vs dv ba kb db h0 n0 v U'.heap L ∧ FrameEnd U o U' L ({ frames := 2, cells := 0, slots := 0, locals := 30 } : Room).cells ({ frames := 2, cells := 0, slots := 0, locals := 30 } : Room).slots) := by
  refine MetFree.of_bodySF (plainFor_of_name own_pn14) hisR ?_
  intro p e s m args below meth c s₁ Bd hml0 hP hK
  obtain ⟨rfl, hZ, hh⟩ := hP
  have hx := Bd.exec
  have hby := Bd.bytes
  have hml : c.maxLocals = 2 := hml0
  have hown : s.vm.findClass "com/example/all1/all1/RowFilter$Builder" = some m.cls := findClass_of_methodNamed Bd.named
  have hnm := (name_of_methodNamed Bd.named Bd.method).1
  have X0 : Stand p l e ({ frames := 2, cells := 0, slots := 0, locals := 30 } : Room) s m #[(.ref a0), (.ref a1)] below meth c s₁ [] 0 0 := Stand.of_body Bd
  have e0 : s₁.heap = h0 := by rw [← hh, Bd.state]; rfl
  have N0 := Fr.nil n0
  have pre0 : ∀ t, Steps p.tables e below (s₁.setTop (mkF m 0 #[.val (.ref a0), .val (.ref a1)] [])) t → Steps p.tables e below (s₁.setTop (entryFrame m #[(.ref a0), (.ref a1)] 2)) t := fun t k => castTop (own_ef5 m a0 a1) k
  obtain ⟨cq29, kq29, q29a, q29b, q29c⟩ := isOf hZ e0 pr0
  obtain ⟨_, _, ⟨T29, L29, k29, n29⟩, -, X29, ⟨Lc29, hQ29, l29, y29, z29⟩, st29⟩ := X0.virtualBack hx (y := (⟨"com/example/all1/all1/RowFilter$Builder", "isFull", "()Z"⟩ : MethodName)) (z := (⟨"com/example/all1/all1/RowFilter$Builder", "isFull", "()Z"⟩ : MethodName)) hown (mvT hZ (hw _ (List.mem_of_getElem? (i := 31) rfl))) (mvT hZ (hw _ (List.mem_of_getElem? (i := 20) rfl))) (notFace_of_selects (args := #[]) (mvT hZ (hw _ (List.mem_of_getElem? (i := 22) rfl)))) (mvT hZ (hw _ (List.mem_of_getElem? (i := 22) rfl))) (mvT hZ (hw _ (List.mem_of_getElem? (i := 21) rfl))) (by decide) (backOf (W := 0) (own_rm4 l Z av hw [] a0 (r) (ha) (kk) (nn) (vs) (dv) h0 n0 Z0 pr1 pr2 pr3) hZ (hw _ (List.mem_of_getElem? (i := 23) rfl)) (hw _ (List.mem_of_getElem? (i := 6) rfl)) (by decide) (by decide)) q29a q29c (g := (mkF m 1 #[.val (.ref a0), .val (.ref a1)] [(.ref a0)])) rfl (by rw [hml]; rfl) (Steps.refl _) (argsL := []) (rest := []) (lenOf own_pd1 rfl) rfl (by show 2 * 0 + _ ≤ _; exact Nat.le_of_eq rfl) (hb hby own_d5_1) (fun _ _ => ⟨rfl, e0, (by decide : 0 + 0 ≤ _), (by decide : 0 + 0 ≤ _)⟩)
  dsimp only [Pt.U, Pt.locs, Pt.cells, Pt.slots] at X29 l29 y29 z29 st29 hQ29
  subst l29 y29 z29
  obtain ⟨rfl, N29q, e31⟩ := hQ29
  have N30 := Fr.app N0 N29q
  obtain ⟨T32, X32, e32, st32⟩ := getF X29 hx hZ hown (host := "") (Or.inl (hw _ (List.mem_of_getElem? (i := 14) rfl))) Via.refl e31 pr2 (g := (mkF m 25 #[.val (.ref a0), .val (.ref a1)] [(.ref a0)])) rfl rfl (hb hby own_d5_25)
  obtain ⟨T33, X33, e33, st33⟩ := getF X32 hx hZ hown (host := "") (Or.inl (hw _ (List.mem_of_getElem? (i := 24) rfl))) Via.refl e32 pr1 (g := (mkF m 30 #[.val (.ref a0), .val (.ref a1)] [(.ref a0), (.ref a0), (.ref ha)])) rfl rfl (hb hby own_d5_30)
  obtain ⟨T34, h34, X34, e34, W34, st34⟩ := putF X33 hx hZ hown (host := "") (Or.inl (hw _ (List.mem_of_getElem? (i := 24) rfl))) Via.refl e33 pr1 pr0 (Or.inl (hw _ (List.mem_of_getElem? (i := 25) rfl))) (hw _ (List.mem_of_getElem? (i := 5) rfl)) (ty := .int) (by decide) rfl rfl (g := (mkF m 36 #[.val (.ref a0), .val (.ref a1)] [(.int (r + (1 : Int32))), (.ref a0), (.int r), (.ref ha)])) rfl rfl (hb hby own_d5_36)
  have f35 := pr0.wr W34
  have f36 := pr2.other W34 (Or.inr (slot_ne (Or.inr (hw _ (List.mem_of_getElem? (i := 15) rfl))) (Or.inl (hw _ (List.mem_of_getElem? (i := 25) rfl))) (by decide) (t := (.array .long)) (t' := .int) (by decide) (by decide)))
  have f37 := pr3.other W34 (Ne.symm ne_a0_ha)
  have f38 := pr4.wr W34
  have f39 := pr5.other W34 (Or.inl ne_a1_a0)
  have f40 := pr6.other W34 ne_ba_a0
  have K41 : Keep h0 h34 [a0, ha] := (Keep.refl h0 [a0, ha]).wr W34 (Or.inl (List.mem_of_getElem? (i := 0) rfl))
  have z42 : n0 ≤ h34.size := Nat.le_trans Z0 (Keep.of_wr W34).1
  have N43 := Fr.snoc X34 N30 g_a0
  have f44 : Fld Z h34 a0 "com/example/all1/all1/RowFilter$Builder" "rows" "I" (.int (r + (1 : Int32))) := pr1.same W34
  obtain ⟨_, _, ⟨T45, L45, k45, n45⟩, -, X45, ⟨Lc45, hQ45, l45, y45, z45⟩, st45⟩ := callSN X34 hx (y := (⟨"com/example/all1/all1/RowFilter", "hash", "(Lcom/example/all1/all1/Bytes;)J"⟩ : MethodName)) hown (own_mvM hZ (hw _ (List.mem_of_getElem? (i := 32) rfl))) (mvT hZ (hw _ (List.mem_of_getElem? (i := 33) rfl))) (mvT hZ (hw _ (List.mem_of_getElem? (i := 34) rfl))) (mvT hZ (hw _ (List.mem_of_getElem? (i := 35) rfl))) (by decide) (backOf (W := 2) (own_rm6 l Z av hw [] a1 (ba) (kb) (db) h34 n0 z42 f38 f39 f40) hZ (hw _ (List.mem_of_getElem? (i := 35) rfl)) (hw _ (List.mem_of_getElem? (i := 34) rfl)) (by decide) (by decide)) (g := (mkF m 40 #[.val (.ref a0), .val (.ref a1)] [(.ref a1), (.int r), (.ref ha)])) rfl (by rw [hml]; rfl) (argsL := [(.ref a1)]) (rest := [(.int r), (.ref ha)]) (lenOf own_pd2 rfl) rfl (by show 2 * 0 + _ ≤ _; exact Nat.le_of_eq rfl) (hb hby own_d5_40) (fun _ _ => ⟨rfl, e34, (by decide : 0 + 0 ≤ _), (by decide : 0 + 0 ≤ _)⟩)
  dsimp only [Pt.U, Pt.locs, Pt.cells, Pt.slots] at X45 l45 y45 z45 st45 hQ45
  subst l45 y45 z45
  obtain ⟨rfl, N45q, e47⟩ := hQ45
  have N46 := Fr.app N43 N45q
  obtain ⟨cl48, Ar48, q48, S48, M48, H48, G48⟩ := id f37
  have hin48 : ¬ (r < 0 ∨ cl48.slots.size ≤ (r).toNatClampNeg) := inb_of S48 hy2
  obtain ⟨T49, h49, X49, e49, W49, st49⟩ := stJ X45 hx hZ e47 Ar48 (j := r) hin48 (g := (mkF m 43 #[.val (.ref a0), .val (.ref a1)] [(.long (own_f6 )), (.int r), (.ref ha)])) rfl rfl (hb hby own_d5_43)
  have f50 := f35.wr W49
  have f51 := f44.other W49 (Or.inl ne_a0_ha)
  have f52 := f36.other W49 (Or.inl ne_a0_ha)
  have f53 := f38.wr W49
  have f54 := f39.other W49 (Or.inl ne_a1_ha)
  have f55 := f40.other W49 ne_ba_ha
  have K56 : Keep h0 h49 [a0, ha] := K41.wr W49 (Or.inl (List.mem_of_getElem? (i := 1) rfl))
  have z57 : n0 ≤ h49.size := Nat.le_trans z42 (Keep.of_wr W49).1
  have N58 := Fr.snoc X49 N46 g_ha
  have f59 : Arv Z h49 ha kk .long nn (vs.set (r).toNatClampNeg (.long (own_f6 ))) dv := Arv.set Ar48 q48 S48 M48 H48 G48 rfl W49 (r).toNatClampNeg rfl hy3
  obtain ⟨fs, hr, hrun, hended, hW, hsame⟩ := X49.leave (v := none) (fun _ => rfl)
  refine ⟨_, _, pre0 _ ?_, hrun, hended, _, _, rfl, ?_, ⟨_, rfl⟩, hW, hsame.mono (by decide) (by decide)⟩
  · show Steps p.tables e below (s₁.setTop (mkF m 0 #[.val (.ref a0), .val (.ref a1)] [])) _
    refine XS.aloadN X0.here hx rfl (hb hby own_d5_0) rfl rfl ?_
    show Steps p.tables e below (s₁.setTop (mkF m 1 #[.val (.ref a0), .val (.ref a1)] [(.ref a0)])) _
    refine st29.trans ?_
    show Steps p.tables e below (T29.setTop (mkF m 4 #[.val (.ref a0), .val (.ref a1)] [(.int (own_f4 r nn))])) _
    refine XS.ifYes X29.here hx rfl (pc0 := 4) (pc' := 24) rfl (hb hby own_d5_4) rfl ((if0 _ _).trans (teq ((by unfold own_f4; rw [if_neg hy1]) : (own_f4 r nn) = (0 : Int32))).1) (by decide) (by decide) ?_
    show Steps p.tables e below (T29.setTop (mkF m 24 #[.val (.ref a0), .val (.ref a1)] [])) _
    refine XS.aloadN X29.here hx rfl (hb hby own_d5_24) rfl rfl ?_
    show Steps p.tables e below (T29.setTop (mkF m 25 #[.val (.ref a0), .val (.ref a1)] [(.ref a0)])) _
    refine st32 _ ?_
    show Steps p.tables e below (T32.setTop (mkF m 28 #[.val (.ref a0), .val (.ref a1)] [(.ref ha)])) _
    refine XS.aloadN X32.here hx rfl (hb hby own_d5_28) rfl rfl ?_
    show Steps p.tables e below (T32.setTop (mkF m 29 #[.val (.ref a0), .val (.ref a1)] [(.ref a0), (.ref ha)])) _
    refine XS.dup X32.here hx rfl (hb hby own_d5_29) rfl rfl ?_
    show Steps p.tables e below (T32.setTop (mkF m 30 #[.val (.ref a0), .val (.ref a1)] [(.ref a0), (.ref a0), (.ref ha)])) _
    refine st33 _ ?_
    show Steps p.tables e below (T33.setTop (mkF m 33 #[.val (.ref a0), .val (.ref a1)] [(.int r), (.ref a0), (.ref ha)])) _
    refine XS.dupX1 X33.here hx rfl (hb hby own_d5_33) rfl rfl rfl ?_
    show Steps p.tables e below (T33.setTop (mkF m 34 #[.val (.ref a0), .val (.ref a1)] [(.int r), (.ref a0), (.int r), (.ref ha)])) _
    refine XS.iconst X33.here hx rfl (hb hby own_d5_34) ?_
    show Steps p.tables e below (T33.setTop (mkF m 35 #[.val (.ref a0), .val (.ref a1)] [(.int (1 : Int32)), (.int r), (.ref a0), (.int r), (.ref ha)])) _
    refine XS.iadd X33.here hx rfl (hb hby own_d5_35) rfl ?_
    show Steps p.tables e below (T33.setTop (mkF m 36 #[.val (.ref a0), .val (.ref a1)] [(.int (r + (1 : Int32))), (.ref a0), (.int r), (.ref ha)])) _
    refine st34 _ ?_
    show Steps p.tables e below (T34.setTop (mkF m 39 #[.val (.ref a0), .val (.ref a1)] [(.int r), (.ref ha)])) _
    refine XS.aloadN X34.here hx rfl (hb hby own_d5_39) rfl rfl ?_
    show Steps p.tables e below (T34.setTop (mkF m 40 #[.val (.ref a0), .val (.ref a1)] [(.ref a1), (.int r), (.ref ha)])) _
    refine st45.trans ?_
    show Steps p.tables e below (T45.setTop (mkF m 43 #[.val (.ref a0), .val (.ref a1)] [(.long (own_f6 )), (.int r), (.ref ha)])) _
    refine st49 _ ?_
    show Steps p.tables e below (T49.setTop (mkF m 44 #[.val (.ref a0), .val (.ref a1)] [])) _
    exact X49.returnOut hx Bd.returns (hb hby own_d5_44) hr
  · show own_Q5 Z a0 a1 r ha kk nn vs dv ba kb db h0 n0 _ T49.heap _
    rw [e49]
    exact ⟨rfl, N58, K56, f50, f51, f52, f59⟩
theorem own_pd3 : parseMethodDescriptor "(II)I" = some ⟨[.int, .int], some .int⟩ := by decide +kernel
theorem own_pd4 : parseMethodDescriptor "(I)V" = some ⟨[.int], none⟩ := by decide +kernel
theorem own_pd5 : parseMethodDescriptor "(Lcom/example/all1/all1/Bytes;)V" = some ⟨[(.object "com/example/all1/all1/Bytes")], none⟩ := by decide +kernel
set_option maxRecDepth 65536 in
set_option maxHeartbeats 40000000 in
theorem own_side75 (p0 : Int32) (v60 : Int32) (hv60 : v60 = (p0 &&& (7 : Int32))) : ¬ (v60 < (0 : Int32)) := by
  generalize hex1 : (p0 &&& (7 : Int32)) = ex1 at *
  try simp only [Int32.reduceAdd, Int32.reduceSub, Int32.reduceMul, Int64.reduceAdd, Int64.reduceSub, Int64.reduceMul, Int32.lt_iff_toInt_lt, Int64.lt_iff_toInt_lt, ← Int32.toInt_inj, ← Int64.toInt_inj, Int32.reduceToInt, Int64.reduceToInt, not_true_eq_false, not_false_eq_true, false_and, and_false, true_and, and_true, false_or, or_false, true_or, or_true] at hv60
  try simp only [Int32.reduceAdd, Int32.reduceSub, Int32.reduceMul, Int64.reduceAdd, Int64.reduceSub, Int64.reduceMul, Int32.lt_iff_toInt_lt, Int64.lt_iff_toInt_lt, ← Int32.toInt_inj, ← Int64.toInt_inj, Int32.reduceToInt, Int64.reduceToInt, not_true_eq_false, not_false_eq_true, false_and, and_false, true_and, and_true, false_or, or_false, true_or, or_true]
  have := Int32.le_toInt p0; have := Int32.toInt_lt p0
  have := Int32.le_toInt v60; have := Int32.toInt_lt v60
  have bl1 := Int32.le_toInt ex1; have bu1 := Int32.toInt_lt ex1
  have fa1 := c_mask p0 (7 : Int32) 3 (by decide) (by decide); rw [hex1] at fa1; try simp only [Int32.reduceAdd, Int32.reduceSub, Int32.reduceToInt, Int64.reduceToInt] at fa1
  clear hex1
  all_goals omega
set_option maxRecDepth 65536 in
set_option maxHeartbeats 40000000 in
theorem own_side76 (p0 : Int32) (v60 : Int32) (hv60 : v60 = (p0 &&& (7 : Int32))) : (v60).toNatClampNeg ≤ 7 := by
  generalize hex1 : (p0 &&& (7 : Int32)) = ex1 at *
  try simp only [Int32.reduceAdd, Int32.reduceSub, Int32.reduceMul, Int64.reduceAdd, Int64.reduceSub, Int64.reduceMul, Int32.lt_iff_toInt_lt, Int64.lt_iff_toInt_lt, ← Int32.toInt_inj, ← Int64.toInt_inj, Int32.reduceToInt, Int64.reduceToInt, not_true_eq_false, not_false_eq_true, false_and, and_false, true_and, and_true, false_or, or_false, true_or, or_true] at hv60
  try simp only [Int32.reduceAdd, Int32.reduceSub, Int32.reduceMul, Int64.reduceAdd, Int64.reduceSub, Int64.reduceMul, Int32.lt_iff_toInt_lt, Int64.lt_iff_toInt_lt, ← Int32.toInt_inj, ← Int64.toInt_inj, Int32.reduceToInt, Int64.reduceToInt, not_true_eq_false, not_false_eq_true, false_and, and_false, true_and, and_true, false_or, or_false, true_or, or_true]
  have := Int32.le_toInt p0; have := Int32.toInt_lt p0
  have := Int32.le_toInt v60; have := Int32.toInt_lt v60
  have bl1 := Int32.le_toInt ex1; have bu1 := Int32.toInt_lt ex1
  have fa1 := c_mask p0 (7 : Int32) 3 (by decide) (by decide); rw [hex1] at fa1; try simp only [Int32.reduceAdd, Int32.reduceSub, Int32.reduceToInt, Int64.reduceToInt] at fa1
  clear hex1
  simp only [Int32.toNatClampNeg]; omega
set_option maxRecDepth 65536 in
set_option maxHeartbeats 40000000 in
theorem own_side98 (p0 : Int32) (v60 : Int32) (hv60 : v60 = (p0 &&& (7 : Int32))) (v96 : Int32) (hv96 : v96 = (if v60 = (0 : Int32) then (1 : Int32) else (0 : Int32))) : (own_f4 (0 : Int32) v60) = v96 := by
  have dv96 : (v60 = (0 : Int32) ∧ (v96 = (1 : Int32))) ∨ (¬ (v60 = (0 : Int32)) ∧ (v96 = (0 : Int32))) := (if cq0 : v60 = (0 : Int32) then Or.inl ⟨cq0, (by rw [hv96, if_pos cq0])⟩ else Or.inr ⟨cq0, (by rw [hv96, if_neg cq0])⟩)
  clear hv96
  generalize hex1 : (p0 &&& (7 : Int32)) = ex1 at *
  have fc2 := own_f4_cases (0 : Int32) v60
  generalize own_f4 (0 : Int32) v60 = ex2 at *
  try simp only [Int32.reduceAdd, Int32.reduceSub, Int32.reduceMul, Int64.reduceAdd, Int64.reduceSub, Int64.reduceMul, Int32.lt_iff_toInt_lt, Int64.lt_iff_toInt_lt, ← Int32.toInt_inj, ← Int64.toInt_inj, Int32.reduceToInt, Int64.reduceToInt, not_true_eq_false, not_false_eq_true, false_and, and_false, true_and, and_true, false_or, or_false, true_or, or_true] at dv96
  try simp only [Int32.reduceAdd, Int32.reduceSub, Int32.reduceMul, Int64.reduceAdd, Int64.reduceSub, Int64.reduceMul, Int32.lt_iff_toInt_lt, Int64.lt_iff_toInt_lt, ← Int32.toInt_inj, ← Int64.toInt_inj, Int32.reduceToInt, Int64.reduceToInt, not_true_eq_false, not_false_eq_true, false_and, and_false, true_and, and_true, false_or, or_false, true_or, or_true] at hv60
  try simp only [Int32.reduceAdd, Int32.reduceSub, Int32.reduceMul, Int64.reduceAdd, Int64.reduceSub, Int64.reduceMul, Int32.lt_iff_toInt_lt, Int64.lt_iff_toInt_lt, ← Int32.toInt_inj, ← Int64.toInt_inj, Int32.reduceToInt, Int64.reduceToInt, not_true_eq_false, not_false_eq_true, false_and, and_false, true_and, and_true, false_or, or_false, true_or, or_true]
  have := Int32.le_toInt p0; have := Int32.toInt_lt p0
  have := Int32.le_toInt v60; have := Int32.toInt_lt v60
  have := Int32.le_toInt v96; have := Int32.toInt_lt v96
  have bl1 := Int32.le_toInt ex1; have bu1 := Int32.toInt_lt ex1
  have fa1 := c_mask p0 (7 : Int32) 3 (by decide) (by decide); rw [hex1] at fa1; try simp only [Int32.reduceAdd, Int32.reduceSub, Int32.reduceToInt, Int64.reduceToInt] at fa1
  clear hex1
  try simp only [Int32.reduceAdd, Int32.reduceSub, Int32.reduceMul, Int64.reduceAdd, Int64.reduceSub, Int64.reduceMul, Int32.lt_iff_toInt_lt, Int64.lt_iff_toInt_lt, ← Int32.toInt_inj, ← Int64.toInt_inj, Int32.reduceToInt, Int64.reduceToInt, not_true_eq_false, not_false_eq_true, false_and, and_false, true_and, and_true, false_or, or_false, true_or, or_true] at fc2
  all_goals omega
set_option maxRecDepth 65536 in
set_option maxHeartbeats 40000000 in
theorem own_side102 (p0 : Int32) (p1 : Int32) (aE : Addr) (ba : Addr) (kb : ClassId) (db : Value) (v60 : Int32) (hv60 : v60 = (p0 &&& (7 : Int32))) (v64 : Int32) (hv64 : v64 = (own_f1 (p1 &&& (3 : Int32)) v60)) (v96 : Int32) (hv96 : v96 = (if v60 = (0 : Int32) then (1 : Int32) else (0 : Int32))) (hc100 : (0 : Int32) < v64) : ¬ ((0 : Int32) = v60) := by
  have dv96 : (v60 = (0 : Int32) ∧ (v96 = (1 : Int32))) ∨ (¬ (v60 = (0 : Int32)) ∧ (v96 = (0 : Int32))) := (if cq0 : v60 = (0 : Int32) then Or.inl ⟨cq0, (by rw [hv96, if_pos cq0])⟩ else Or.inr ⟨cq0, (by rw [hv96, if_neg cq0])⟩)
  clear hv96
  generalize hex1 : (p0 &&& (7 : Int32)) = ex1 at *
  generalize hex2 : (p1 &&& (3 : Int32)) = ex2 at *
  have fc3 := own_f1_cases ex2 v60
  generalize own_f1 ex2 v60 = ex3 at *
  try simp only [Int32.reduceAdd, Int32.reduceSub, Int32.reduceMul, Int64.reduceAdd, Int64.reduceSub, Int64.reduceMul, Int32.lt_iff_toInt_lt, Int64.lt_iff_toInt_lt, ← Int32.toInt_inj, ← Int64.toInt_inj, Int32.reduceToInt, Int64.reduceToInt, not_true_eq_false, not_false_eq_true, false_and, and_false, true_and, and_true, false_or, or_false, true_or, or_true] at dv96
  try simp only [Int32.reduceAdd, Int32.reduceSub, Int32.reduceMul, Int64.reduceAdd, Int64.reduceSub, Int64.reduceMul, Int32.lt_iff_toInt_lt, Int64.lt_iff_toInt_lt, ← Int32.toInt_inj, ← Int64.toInt_inj, Int32.reduceToInt, Int64.reduceToInt, not_true_eq_false, not_false_eq_true, false_and, and_false, true_and, and_true, false_or, or_false, true_or, or_true] at hv60
  try simp only [Int32.reduceAdd, Int32.reduceSub, Int32.reduceMul, Int64.reduceAdd, Int64.reduceSub, Int64.reduceMul, Int32.lt_iff_toInt_lt, Int64.lt_iff_toInt_lt, ← Int32.toInt_inj, ← Int64.toInt_inj, Int32.reduceToInt, Int64.reduceToInt, not_true_eq_false, not_false_eq_true, false_and, and_false, true_and, and_true, false_or, or_false, true_or, or_true] at hv64
  try simp only [Int32.reduceAdd, Int32.reduceSub, Int32.reduceMul, Int64.reduceAdd, Int64.reduceSub, Int64.reduceMul, Int32.lt_iff_toInt_lt, Int64.lt_iff_toInt_lt, ← Int32.toInt_inj, ← Int64.toInt_inj, Int32.reduceToInt, Int64.reduceToInt, not_true_eq_false, not_false_eq_true, false_and, and_false, true_and, and_true, false_or, or_false, true_or, or_true] at hc100
  try simp only [Int32.reduceAdd, Int32.reduceSub, Int32.reduceMul, Int64.reduceAdd, Int64.reduceSub, Int64.reduceMul, Int32.lt_iff_toInt_lt, Int64.lt_iff_toInt_lt, ← Int32.toInt_inj, ← Int64.toInt_inj, Int32.reduceToInt, Int64.reduceToInt, not_true_eq_false, not_false_eq_true, false_and, and_false, true_and, and_true, false_or, or_false, true_or, or_true]
  have := Int32.le_toInt p0; have := Int32.toInt_lt p0
  have := Int32.le_toInt p1; have := Int32.toInt_lt p1
  have := Int32.le_toInt v60; have := Int32.toInt_lt v60
  have := Int32.le_toInt v64; have := Int32.toInt_lt v64
  have := Int32.le_toInt v96; have := Int32.toInt_lt v96
  have bl1 := Int32.le_toInt ex1; have bu1 := Int32.toInt_lt ex1
  have fa1 := c_mask p0 (7 : Int32) 3 (by decide) (by decide); rw [hex1] at fa1; try simp only [Int32.reduceAdd, Int32.reduceSub, Int32.reduceToInt, Int64.reduceToInt] at fa1
  clear hex1
  have bl2 := Int32.le_toInt ex2; have bu2 := Int32.toInt_lt ex2
  have fa2 := c_mask p1 (3 : Int32) 2 (by decide) (by decide); rw [hex2] at fa2; try simp only [Int32.reduceAdd, Int32.reduceSub, Int32.reduceToInt, Int64.reduceToInt] at fa2
  clear hex2
  try simp only [Int32.reduceAdd, Int32.reduceSub, Int32.reduceMul, Int64.reduceAdd, Int64.reduceSub, Int64.reduceMul, Int32.lt_iff_toInt_lt, Int64.lt_iff_toInt_lt, ← Int32.toInt_inj, ← Int64.toInt_inj, Int32.reduceToInt, Int64.reduceToInt, not_true_eq_false, not_false_eq_true, false_and, and_false, true_and, and_true, false_or, or_false, true_or, or_true] at fc3
  all_goals omega
set_option maxRecDepth 65536 in
set_option maxHeartbeats 40000000 in
theorem own_side103 (p0 : Int32) (p1 : Int32) (aE : Addr) (ba : Addr) (kb : ClassId) (db : Value) (v60 : Int32) (hv60 : v60 = (p0 &&& (7 : Int32))) (v64 : Int32) (hv64 : v64 = (own_f1 (p1 &&& (3 : Int32)) v60)) (v96 : Int32) (hv96 : v96 = (if v60 = (0 : Int32) then (1 : Int32) else (0 : Int32))) (hc100 : (0 : Int32) < v64) : ¬ (0 : Int32) < (0 : Int32) ∧ (0 : Int32) < v60 := by
  have dv96 : (v60 = (0 : Int32) ∧ (v96 = (1 : Int32))) ∨ (¬ (v60 = (0 : Int32)) ∧ (v96 = (0 : Int32))) := (if cq0 : v60 = (0 : Int32) then Or.inl ⟨cq0, (by rw [hv96, if_pos cq0])⟩ else Or.inr ⟨cq0, (by rw [hv96, if_neg cq0])⟩)
  clear hv96
  generalize hex1 : (p0 &&& (7 : Int32)) = ex1 at *
  generalize hex2 : (p1 &&& (3 : Int32)) = ex2 at *
  have fc3 := own_f1_cases ex2 v60
  generalize own_f1 ex2 v60 = ex3 at *
  try simp only [Int32.reduceAdd, Int32.reduceSub, Int32.reduceMul, Int64.reduceAdd, Int64.reduceSub, Int64.reduceMul, Int32.lt_iff_toInt_lt, Int64.lt_iff_toInt_lt, ← Int32.toInt_inj, ← Int64.toInt_inj, Int32.reduceToInt, Int64.reduceToInt, not_true_eq_false, not_false_eq_true, false_and, and_false, true_and, and_true, false_or, or_false, true_or, or_true] at dv96
  try simp only [Int32.reduceAdd, Int32.reduceSub, Int32.reduceMul, Int64.reduceAdd, Int64.reduceSub, Int64.reduceMul, Int32.lt_iff_toInt_lt, Int64.lt_iff_toInt_lt, ← Int32.toInt_inj, ← Int64.toInt_inj, Int32.reduceToInt, Int64.reduceToInt, not_true_eq_false, not_false_eq_true, false_and, and_false, true_and, and_true, false_or, or_false, true_or, or_true] at hv60
  try simp only [Int32.reduceAdd, Int32.reduceSub, Int32.reduceMul, Int64.reduceAdd, Int64.reduceSub, Int64.reduceMul, Int32.lt_iff_toInt_lt, Int64.lt_iff_toInt_lt, ← Int32.toInt_inj, ← Int64.toInt_inj, Int32.reduceToInt, Int64.reduceToInt, not_true_eq_false, not_false_eq_true, false_and, and_false, true_and, and_true, false_or, or_false, true_or, or_true] at hv64
  try simp only [Int32.reduceAdd, Int32.reduceSub, Int32.reduceMul, Int64.reduceAdd, Int64.reduceSub, Int64.reduceMul, Int32.lt_iff_toInt_lt, Int64.lt_iff_toInt_lt, ← Int32.toInt_inj, ← Int64.toInt_inj, Int32.reduceToInt, Int64.reduceToInt, not_true_eq_false, not_false_eq_true, false_and, and_false, true_and, and_true, false_or, or_false, true_or, or_true] at hc100
  try simp only [Int32.reduceAdd, Int32.reduceSub, Int32.reduceMul, Int64.reduceAdd, Int64.reduceSub, Int64.reduceMul, Int32.lt_iff_toInt_lt, Int64.lt_iff_toInt_lt, ← Int32.toInt_inj, ← Int64.toInt_inj, Int32.reduceToInt, Int64.reduceToInt, not_true_eq_false, not_false_eq_true, false_and, and_false, true_and, and_true, false_or, or_false, true_or, or_true]
  have := Int32.le_toInt p0; have := Int32.toInt_lt p0
  have := Int32.le_toInt p1; have := Int32.toInt_lt p1
  have := Int32.le_toInt v60; have := Int32.toInt_lt v60
  have := Int32.le_toInt v64; have := Int32.toInt_lt v64
  have := Int32.le_toInt v96; have := Int32.toInt_lt v96
  have bl1 := Int32.le_toInt ex1; have bu1 := Int32.toInt_lt ex1
  have fa1 := c_mask p0 (7 : Int32) 3 (by decide) (by decide); rw [hex1] at fa1; try simp only [Int32.reduceAdd, Int32.reduceSub, Int32.reduceToInt, Int64.reduceToInt] at fa1
  clear hex1
  have bl2 := Int32.le_toInt ex2; have bu2 := Int32.toInt_lt ex2
  have fa2 := c_mask p1 (3 : Int32) 2 (by decide) (by decide); rw [hex2] at fa2; try simp only [Int32.reduceAdd, Int32.reduceSub, Int32.reduceToInt, Int64.reduceToInt] at fa2
  clear hex2
  try simp only [Int32.reduceAdd, Int32.reduceSub, Int32.reduceMul, Int64.reduceAdd, Int64.reduceSub, Int64.reduceMul, Int32.lt_iff_toInt_lt, Int64.lt_iff_toInt_lt, ← Int32.toInt_inj, ← Int64.toInt_inj, Int32.reduceToInt, Int64.reduceToInt, not_true_eq_false, not_false_eq_true, false_and, and_false, true_and, and_true, false_or, or_false, true_or, or_true] at fc3
  all_goals omega
set_option maxRecDepth 65536 in
set_option maxHeartbeats 40000000 in
theorem own_side122 (p0 : Int32) (v60 : Int32) (hv60 : v60 = (p0 &&& (7 : Int32))) (v120 : Int32) (hv120 : v120 = (if v60 = (1 : Int32) then (1 : Int32) else (0 : Int32))) : (own_f4 ((0 : Int32) + (1 : Int32)) v60) = v120 := by
  have dv120 : (v60 = (1 : Int32) ∧ (v120 = (1 : Int32))) ∨ (¬ (v60 = (1 : Int32)) ∧ (v120 = (0 : Int32))) := (if cq0 : v60 = (1 : Int32) then Or.inl ⟨cq0, (by rw [hv120, if_pos cq0])⟩ else Or.inr ⟨cq0, (by rw [hv120, if_neg cq0])⟩)
  clear hv120
  generalize hex1 : (p0 &&& (7 : Int32)) = ex1 at *
  have fc2 := own_f4_cases ((0 : Int32) + (1 : Int32)) v60
  generalize own_f4 ((0 : Int32) + (1 : Int32)) v60 = ex2 at *
  try simp only [Int32.reduceAdd, Int32.reduceSub, Int32.reduceMul, Int64.reduceAdd, Int64.reduceSub, Int64.reduceMul, Int32.lt_iff_toInt_lt, Int64.lt_iff_toInt_lt, ← Int32.toInt_inj, ← Int64.toInt_inj, Int32.reduceToInt, Int64.reduceToInt, not_true_eq_false, not_false_eq_true, false_and, and_false, true_and, and_true, false_or, or_false, true_or, or_true] at dv120
  try simp only [Int32.reduceAdd, Int32.reduceSub, Int32.reduceMul, Int64.reduceAdd, Int64.reduceSub, Int64.reduceMul, Int32.lt_iff_toInt_lt, Int64.lt_iff_toInt_lt, ← Int32.toInt_inj, ← Int64.toInt_inj, Int32.reduceToInt, Int64.reduceToInt, not_true_eq_false, not_false_eq_true, false_and, and_false, true_and, and_true, false_or, or_false, true_or, or_true] at hv60
  try simp only [Int32.reduceAdd, Int32.reduceSub, Int32.reduceMul, Int64.reduceAdd, Int64.reduceSub, Int64.reduceMul, Int32.lt_iff_toInt_lt, Int64.lt_iff_toInt_lt, ← Int32.toInt_inj, ← Int64.toInt_inj, Int32.reduceToInt, Int64.reduceToInt, not_true_eq_false, not_false_eq_true, false_and, and_false, true_and, and_true, false_or, or_false, true_or, or_true]
  have := Int32.le_toInt p0; have := Int32.toInt_lt p0
  have := Int32.le_toInt v60; have := Int32.toInt_lt v60
  have := Int32.le_toInt v120; have := Int32.toInt_lt v120
  have bl1 := Int32.le_toInt ex1; have bu1 := Int32.toInt_lt ex1
  have fa1 := c_mask p0 (7 : Int32) 3 (by decide) (by decide); rw [hex1] at fa1; try simp only [Int32.reduceAdd, Int32.reduceSub, Int32.reduceToInt, Int64.reduceToInt] at fa1
  clear hex1
  try simp only [Int32.reduceAdd, Int32.reduceSub, Int32.reduceMul, Int64.reduceAdd, Int64.reduceSub, Int64.reduceMul, Int32.lt_iff_toInt_lt, Int64.lt_iff_toInt_lt, ← Int32.toInt_inj, ← Int64.toInt_inj, Int32.reduceToInt, Int64.reduceToInt, not_true_eq_false, not_false_eq_true, false_and, and_false, true_and, and_true, false_or, or_false, true_or, or_true] at fc2
  all_goals omega
set_option maxRecDepth 65536 in
set_option maxHeartbeats 40000000 in
theorem own_side126 (p0 : Int32) (p1 : Int32) (aE : Addr) (ba : Addr) (kb : ClassId) (db : Value) (v60 : Int32) (hv60 : v60 = (p0 &&& (7 : Int32))) (v64 : Int32) (hv64 : v64 = (own_f1 (p1 &&& (3 : Int32)) v60)) (v96 : Int32) (hv96 : v96 = (if v60 = (0 : Int32) then (1 : Int32) else (0 : Int32))) (hc100 : (0 : Int32) < v64) (v120 : Int32) (hv120 : v120 = (if v60 = (1 : Int32) then (1 : Int32) else (0 : Int32))) (hc124 : (1 : Int32) < v64) : ¬ (((0 : Int32) + (1 : Int32)) = v60) := by
  have dv96 : (v60 = (0 : Int32) ∧ (v96 = (1 : Int32))) ∨ (¬ (v60 = (0 : Int32)) ∧ (v96 = (0 : Int32))) := (if cq0 : v60 = (0 : Int32) then Or.inl ⟨cq0, (by rw [hv96, if_pos cq0])⟩ else Or.inr ⟨cq0, (by rw [hv96, if_neg cq0])⟩)
  clear hv96
  have dv120 : (v60 = (1 : Int32) ∧ (v120 = (1 : Int32))) ∨ (¬ (v60 = (1 : Int32)) ∧ (v120 = (0 : Int32))) := (if cq0 : v60 = (1 : Int32) then Or.inl ⟨cq0, (by rw [hv120, if_pos cq0])⟩ else Or.inr ⟨cq0, (by rw [hv120, if_neg cq0])⟩)
  clear hv120
  generalize hex1 : (p0 &&& (7 : Int32)) = ex1 at *
  generalize hex2 : (p1 &&& (3 : Int32)) = ex2 at *
  have fc3 := own_f1_cases ex2 v60
  generalize own_f1 ex2 v60 = ex3 at *
  try simp only [Int32.reduceAdd, Int32.reduceSub, Int32.reduceMul, Int64.reduceAdd, Int64.reduceSub, Int64.reduceMul, Int32.lt_iff_toInt_lt, Int64.lt_iff_toInt_lt, ← Int32.toInt_inj, ← Int64.toInt_inj, Int32.reduceToInt, Int64.reduceToInt, not_true_eq_false, not_false_eq_true, false_and, and_false, true_and, and_true, false_or, or_false, true_or, or_true] at dv96
  try simp only [Int32.reduceAdd, Int32.reduceSub, Int32.reduceMul, Int64.reduceAdd, Int64.reduceSub, Int64.reduceMul, Int32.lt_iff_toInt_lt, Int64.lt_iff_toInt_lt, ← Int32.toInt_inj, ← Int64.toInt_inj, Int32.reduceToInt, Int64.reduceToInt, not_true_eq_false, not_false_eq_true, false_and, and_false, true_and, and_true, false_or, or_false, true_or, or_true] at dv120
  try simp only [Int32.reduceAdd, Int32.reduceSub, Int32.reduceMul, Int64.reduceAdd, Int64.reduceSub, Int64.reduceMul, Int32.lt_iff_toInt_lt, Int64.lt_iff_toInt_lt, ← Int32.toInt_inj, ← Int64.toInt_inj, Int32.reduceToInt, Int64.reduceToInt, not_true_eq_false, not_false_eq_true, false_and, and_false, true_and, and_true, false_or, or_false, true_or, or_true] at hv60
  try simp only [Int32.reduceAdd, Int32.reduceSub, Int32.reduceMul, Int64.reduceAdd, Int64.reduceSub, Int64.reduceMul, Int32.lt_iff_toInt_lt, Int64.lt_iff_toInt_lt, ← Int32.toInt_inj, ← Int64.toInt_inj, Int32.reduceToInt, Int64.reduceToInt, not_true_eq_false, not_false_eq_true, false_and, and_false, true_and, and_true, false_or, or_false, true_or, or_true] at hv64
  try simp only [Int32.reduceAdd, Int32.reduceSub, Int32.reduceMul, Int64.reduceAdd, Int64.reduceSub, Int64.reduceMul, Int32.lt_iff_toInt_lt, Int64.lt_iff_toInt_lt, ← Int32.toInt_inj, ← Int64.toInt_inj, Int32.reduceToInt, Int64.reduceToInt, not_true_eq_false, not_false_eq_true, false_and, and_false, true_and, and_true, false_or, or_false, true_or, or_true] at hc100
  try simp only [Int32.reduceAdd, Int32.reduceSub, Int32.reduceMul, Int64.reduceAdd, Int64.reduceSub, Int64.reduceMul, Int32.lt_iff_toInt_lt, Int64.lt_iff_toInt_lt, ← Int32.toInt_inj, ← Int64.toInt_inj, Int32.reduceToInt, Int64.reduceToInt, not_true_eq_false, not_false_eq_true, false_and, and_false, true_and, and_true, false_or, or_false, true_or, or_true] at hc124
  try simp only [Int32.reduceAdd, Int32.reduceSub, Int32.reduceMul, Int64.reduceAdd, Int64.reduceSub, Int64.reduceMul, Int32.lt_iff_toInt_lt, Int64.lt_iff_toInt_lt, ← Int32.toInt_inj, ← Int64.toInt_inj, Int32.reduceToInt, Int64.reduceToInt, not_true_eq_false, not_false_eq_true, false_and, and_false, true_and, and_true, false_or, or_false, true_or, or_true]
  have := Int32.le_toInt p0; have := Int32.toInt_lt p0
  have := Int32.le_toInt p1; have := Int32.toInt_lt p1
  have := Int32.le_toInt v60; have := Int32.toInt_lt v60
  have := Int32.le_toInt v64; have := Int32.toInt_lt v64
  have := Int32.le_toInt v96; have := Int32.toInt_lt v96
  have := Int32.le_toInt v120; have := Int32.toInt_lt v120
  have bl1 := Int32.le_toInt ex1; have bu1 := Int32.toInt_lt ex1
  have fa1 := c_mask p0 (7 : Int32) 3 (by decide) (by decide); rw [hex1] at fa1; try simp only [Int32.reduceAdd, Int32.reduceSub, Int32.reduceToInt, Int64.reduceToInt] at fa1
  clear hex1
  have bl2 := Int32.le_toInt ex2; have bu2 := Int32.toInt_lt ex2
  have fa2 := c_mask p1 (3 : Int32) 2 (by decide) (by decide); rw [hex2] at fa2; try simp only [Int32.reduceAdd, Int32.reduceSub, Int32.reduceToInt, Int64.reduceToInt] at fa2
  clear hex2
  try simp only [Int32.reduceAdd, Int32.reduceSub, Int32.reduceMul, Int64.reduceAdd, Int64.reduceSub, Int64.reduceMul, Int32.lt_iff_toInt_lt, Int64.lt_iff_toInt_lt, ← Int32.toInt_inj, ← Int64.toInt_inj, Int32.reduceToInt, Int64.reduceToInt, not_true_eq_false, not_false_eq_true, false_and, and_false, true_and, and_true, false_or, or_false, true_or, or_true] at fc3
  all_goals omega
set_option maxRecDepth 65536 in
set_option maxHeartbeats 40000000 in
theorem own_side127 (p0 : Int32) (p1 : Int32) (aE : Addr) (ba : Addr) (kb : ClassId) (db : Value) (v60 : Int32) (hv60 : v60 = (p0 &&& (7 : Int32))) (v64 : Int32) (hv64 : v64 = (own_f1 (p1 &&& (3 : Int32)) v60)) (v96 : Int32) (hv96 : v96 = (if v60 = (0 : Int32) then (1 : Int32) else (0 : Int32))) (hc100 : (0 : Int32) < v64) (v120 : Int32) (hv120 : v120 = (if v60 = (1 : Int32) then (1 : Int32) else (0 : Int32))) (hc124 : (1 : Int32) < v64) : ¬ ((0 : Int32) + (1 : Int32)) < (0 : Int32) ∧ ((0 : Int32) + (1 : Int32)) < v60 := by
  have dv96 : (v60 = (0 : Int32) ∧ (v96 = (1 : Int32))) ∨ (¬ (v60 = (0 : Int32)) ∧ (v96 = (0 : Int32))) := (if cq0 : v60 = (0 : Int32) then Or.inl ⟨cq0, (by rw [hv96, if_pos cq0])⟩ else Or.inr ⟨cq0, (by rw [hv96, if_neg cq0])⟩)
  clear hv96
  have dv120 : (v60 = (1 : Int32) ∧ (v120 = (1 : Int32))) ∨ (¬ (v60 = (1 : Int32)) ∧ (v120 = (0 : Int32))) := (if cq0 : v60 = (1 : Int32) then Or.inl ⟨cq0, (by rw [hv120, if_pos cq0])⟩ else Or.inr ⟨cq0, (by rw [hv120, if_neg cq0])⟩)
  clear hv120
  generalize hex1 : (p0 &&& (7 : Int32)) = ex1 at *
  generalize hex2 : (p1 &&& (3 : Int32)) = ex2 at *
  have fc3 := own_f1_cases ex2 v60
  generalize own_f1 ex2 v60 = ex3 at *
  try simp only [Int32.reduceAdd, Int32.reduceSub, Int32.reduceMul, Int64.reduceAdd, Int64.reduceSub, Int64.reduceMul, Int32.lt_iff_toInt_lt, Int64.lt_iff_toInt_lt, ← Int32.toInt_inj, ← Int64.toInt_inj, Int32.reduceToInt, Int64.reduceToInt, not_true_eq_false, not_false_eq_true, false_and, and_false, true_and, and_true, false_or, or_false, true_or, or_true] at dv96
  try simp only [Int32.reduceAdd, Int32.reduceSub, Int32.reduceMul, Int64.reduceAdd, Int64.reduceSub, Int64.reduceMul, Int32.lt_iff_toInt_lt, Int64.lt_iff_toInt_lt, ← Int32.toInt_inj, ← Int64.toInt_inj, Int32.reduceToInt, Int64.reduceToInt, not_true_eq_false, not_false_eq_true, false_and, and_false, true_and, and_true, false_or, or_false, true_or, or_true] at dv120
  try simp only [Int32.reduceAdd, Int32.reduceSub, Int32.reduceMul, Int64.reduceAdd, Int64.reduceSub, Int64.reduceMul, Int32.lt_iff_toInt_lt, Int64.lt_iff_toInt_lt, ← Int32.toInt_inj, ← Int64.toInt_inj, Int32.reduceToInt, Int64.reduceToInt, not_true_eq_false, not_false_eq_true, false_and, and_false, true_and, and_true, false_or, or_false, true_or, or_true] at hv60
  try simp only [Int32.reduceAdd, Int32.reduceSub, Int32.reduceMul, Int64.reduceAdd, Int64.reduceSub, Int64.reduceMul, Int32.lt_iff_toInt_lt, Int64.lt_iff_toInt_lt, ← Int32.toInt_inj, ← Int64.toInt_inj, Int32.reduceToInt, Int64.reduceToInt, not_true_eq_false, not_false_eq_true, false_and, and_false, true_and, and_true, false_or, or_false, true_or, or_true] at hv64
  try simp only [Int32.reduceAdd, Int32.reduceSub, Int32.reduceMul, Int64.reduceAdd, Int64.reduceSub, Int64.reduceMul, Int32.lt_iff_toInt_lt, Int64.lt_iff_toInt_lt, ← Int32.toInt_inj, ← Int64.toInt_inj, Int32.reduceToInt, Int64.reduceToInt, not_true_eq_false, not_false_eq_true, false_and, and_false, true_and, and_true, false_or, or_false, true_or, or_true] at hc100
  try simp only [Int32.reduceAdd, Int32.reduceSub, Int32.reduceMul, Int64.reduceAdd, Int64.reduceSub, Int64.reduceMul, Int32.lt_iff_toInt_lt, Int64.lt_iff_toInt_lt, ← Int32.toInt_inj, ← Int64.toInt_inj, Int32.reduceToInt, Int64.reduceToInt, not_true_eq_false, not_false_eq_true, false_and, and_false, true_and, and_true, false_or, or_false, true_or, or_true] at hc124
  try simp only [Int32.reduceAdd, Int32.reduceSub, Int32.reduceMul, Int64.reduceAdd, Int64.reduceSub, Int64.reduceMul, Int32.lt_iff_toInt_lt, Int64.lt_iff_toInt_lt, ← Int32.toInt_inj, ← Int64.toInt_inj, Int32.reduceToInt, Int64.reduceToInt, not_true_eq_false, not_false_eq_true, false_and, and_false, true_and, and_true, false_or, or_false, true_or, or_true]
  have := Int32.le_toInt p0; have := Int32.toInt_lt p0
  have := Int32.le_toInt p1; have := Int32.toInt_lt p1
  have := Int32.le_toInt v60; have := Int32.toInt_lt v60
  have := Int32.le_toInt v64; have := Int32.toInt_lt v64
  have := Int32.le_toInt v96; have := Int32.toInt_lt v96
  have := Int32.le_toInt v120; have := Int32.toInt_lt v120
  have bl1 := Int32.le_toInt ex1; have bu1 := Int32.toInt_lt ex1
  have fa1 := c_mask p0 (7 : Int32) 3 (by decide) (by decide); rw [hex1] at fa1; try simp only [Int32.reduceAdd, Int32.reduceSub, Int32.reduceToInt, Int64.reduceToInt] at fa1
  clear hex1
  have bl2 := Int32.le_toInt ex2; have bu2 := Int32.toInt_lt ex2
  have fa2 := c_mask p1 (3 : Int32) 2 (by decide) (by decide); rw [hex2] at fa2; try simp only [Int32.reduceAdd, Int32.reduceSub, Int32.reduceToInt, Int64.reduceToInt] at fa2
  clear hex2
  try simp only [Int32.reduceAdd, Int32.reduceSub, Int32.reduceMul, Int64.reduceAdd, Int64.reduceSub, Int64.reduceMul, Int32.lt_iff_toInt_lt, Int64.lt_iff_toInt_lt, ← Int32.toInt_inj, ← Int64.toInt_inj, Int32.reduceToInt, Int64.reduceToInt, not_true_eq_false, not_false_eq_true, false_and, and_false, true_and, and_true, false_or, or_false, true_or, or_true] at fc3
  all_goals omega
set_option maxRecDepth 65536 in
set_option maxHeartbeats 40000000 in
theorem own_side146 (p0 : Int32) (v60 : Int32) (hv60 : v60 = (p0 &&& (7 : Int32))) (v144 : Int32) (hv144 : v144 = (if v60 = (2 : Int32) then (1 : Int32) else (0 : Int32))) : (own_f4 (((0 : Int32) + (1 : Int32)) + (1 : Int32)) v60) = v144 := by
  have dv144 : (v60 = (2 : Int32) ∧ (v144 = (1 : Int32))) ∨ (¬ (v60 = (2 : Int32)) ∧ (v144 = (0 : Int32))) := (if cq0 : v60 = (2 : Int32) then Or.inl ⟨cq0, (by rw [hv144, if_pos cq0])⟩ else Or.inr ⟨cq0, (by rw [hv144, if_neg cq0])⟩)
  clear hv144
  generalize hex1 : (p0 &&& (7 : Int32)) = ex1 at *
  have fc2 := own_f4_cases (((0 : Int32) + (1 : Int32)) + (1 : Int32)) v60
  generalize own_f4 (((0 : Int32) + (1 : Int32)) + (1 : Int32)) v60 = ex2 at *
  try simp only [Int32.reduceAdd, Int32.reduceSub, Int32.reduceMul, Int64.reduceAdd, Int64.reduceSub, Int64.reduceMul, Int32.lt_iff_toInt_lt, Int64.lt_iff_toInt_lt, ← Int32.toInt_inj, ← Int64.toInt_inj, Int32.reduceToInt, Int64.reduceToInt, not_true_eq_false, not_false_eq_true, false_and, and_false, true_and, and_true, false_or, or_false, true_or, or_true] at dv144
  try simp only [Int32.reduceAdd, Int32.reduceSub, Int32.reduceMul, Int64.reduceAdd, Int64.reduceSub, Int64.reduceMul, Int32.lt_iff_toInt_lt, Int64.lt_iff_toInt_lt, ← Int32.toInt_inj, ← Int64.toInt_inj, Int32.reduceToInt, Int64.reduceToInt, not_true_eq_false, not_false_eq_true, false_and, and_false, true_and, and_true, false_or, or_false, true_or, or_true] at hv60
  try simp only [Int32.reduceAdd, Int32.reduceSub, Int32.reduceMul, Int64.reduceAdd, Int64.reduceSub, Int64.reduceMul, Int32.lt_iff_toInt_lt, Int64.lt_iff_toInt_lt, ← Int32.toInt_inj, ← Int64.toInt_inj, Int32.reduceToInt, Int64.reduceToInt, not_true_eq_false, not_false_eq_true, false_and, and_false, true_and, and_true, false_or, or_false, true_or, or_true]
  have := Int32.le_toInt p0; have := Int32.toInt_lt p0
  have := Int32.le_toInt v60; have := Int32.toInt_lt v60
  have := Int32.le_toInt v144; have := Int32.toInt_lt v144
  have bl1 := Int32.le_toInt ex1; have bu1 := Int32.toInt_lt ex1
  have fa1 := c_mask p0 (7 : Int32) 3 (by decide) (by decide); rw [hex1] at fa1; try simp only [Int32.reduceAdd, Int32.reduceSub, Int32.reduceToInt, Int64.reduceToInt] at fa1
  clear hex1
  try simp only [Int32.reduceAdd, Int32.reduceSub, Int32.reduceMul, Int64.reduceAdd, Int64.reduceSub, Int64.reduceMul, Int32.lt_iff_toInt_lt, Int64.lt_iff_toInt_lt, ← Int32.toInt_inj, ← Int64.toInt_inj, Int32.reduceToInt, Int64.reduceToInt, not_true_eq_false, not_false_eq_true, false_and, and_false, true_and, and_true, false_or, or_false, true_or, or_true] at fc2
  all_goals omega
set_option maxRecDepth 65536 in
set_option maxHeartbeats 40000000 in
theorem own_side150 (p0 : Int32) (p1 : Int32) (aE : Addr) (ba : Addr) (kb : ClassId) (db : Value) (v60 : Int32) (hv60 : v60 = (p0 &&& (7 : Int32))) (v64 : Int32) (hv64 : v64 = (own_f1 (p1 &&& (3 : Int32)) v60)) (v96 : Int32) (hv96 : v96 = (if v60 = (0 : Int32) then (1 : Int32) else (0 : Int32))) (hc100 : (0 : Int32) < v64) (v120 : Int32) (hv120 : v120 = (if v60 = (1 : Int32) then (1 : Int32) else (0 : Int32))) (hc124 : (1 : Int32) < v64) (v144 : Int32) (hv144 : v144 = (if v60 = (2 : Int32) then (1 : Int32) else (0 : Int32))) (hc148 : (2 : Int32) < v64) : ¬ ((((0 : Int32) + (1 : Int32)) + (1 : Int32)) = v60) := by
  have dv96 : (v60 = (0 : Int32) ∧ (v96 = (1 : Int32))) ∨ (¬ (v60 = (0 : Int32)) ∧ (v96 = (0 : Int32))) := (if cq0 : v60 = (0 : Int32) then Or.inl ⟨cq0, (by rw [hv96, if_pos cq0])⟩ else Or.inr ⟨cq0, (by rw [hv96, if_neg cq0])⟩)
  clear hv96
  have dv120 : (v60 = (1 : Int32) ∧ (v120 = (1 : Int32))) ∨ (¬ (v60 = (1 : Int32)) ∧ (v120 = (0 : Int32))) := (if cq0 : v60 = (1 : Int32) then Or.inl ⟨cq0, (by rw [hv120, if_pos cq0])⟩ else Or.inr ⟨cq0, (by rw [hv120, if_neg cq0])⟩)
  clear hv120
  have dv144 : (v60 = (2 : Int32) ∧ (v144 = (1 : Int32))) ∨ (¬ (v60 = (2 : Int32)) ∧ (v144 = (0 : Int32))) := (if cq0 : v60 = (2 : Int32) then Or.inl ⟨cq0, (by rw [hv144, if_pos cq0])⟩ else Or.inr ⟨cq0, (by rw [hv144, if_neg cq0])⟩)
  clear hv144
  generalize hex1 : (p0 &&& (7 : Int32)) = ex1 at *
  generalize hex2 : (p1 &&& (3 : Int32)) = ex2 at *
  have fc3 := own_f1_cases ex2 v60
  generalize own_f1 ex2 v60 = ex3 at *
  try simp only [Int32.reduceAdd, Int32.reduceSub, Int32.reduceMul, Int64.reduceAdd, Int64.reduceSub, Int64.reduceMul, Int32.lt_iff_toInt_lt, Int64.lt_iff_toInt_lt, ← Int32.toInt_inj, ← Int64.toInt_inj, Int32.reduceToInt, Int64.reduceToInt, not_true_eq_false, not_false_eq_true, false_and, and_false, true_and, and_true, false_or, or_false, true_or, or_true] at dv96
  try simp only [Int32.reduceAdd, Int32.reduceSub, Int32.reduceMul, Int64.reduceAdd, Int64.reduceSub, Int64.reduceMul, Int32.lt_iff_toInt_lt, Int64.lt_iff_toInt_lt, ← Int32.toInt_inj, ← Int64.toInt_inj, Int32.reduceToInt, Int64.reduceToInt, not_true_eq_false, not_false_eq_true, false_and, and_false, true_and, and_true, false_or, or_false, true_or, or_true] at dv120
  try simp only [Int32.reduceAdd, Int32.reduceSub, Int32.reduceMul, Int64.reduceAdd, Int64.reduceSub, Int64.reduceMul, Int32.lt_iff_toInt_lt, Int64.lt_iff_toInt_lt, ← Int32.toInt_inj, ← Int64.toInt_inj, Int32.reduceToInt, Int64.reduceToInt, not_true_eq_false, not_false_eq_true, false_and, and_false, true_and, and_true, false_or, or_false, true_or, or_true] at dv144
  try simp only [Int32.reduceAdd, Int32.reduceSub, Int32.reduceMul, Int64.reduceAdd, Int64.reduceSub, Int64.reduceMul, Int32.lt_iff_toInt_lt, Int64.lt_iff_toInt_lt, ← Int32.toInt_inj, ← Int64.toInt_inj, Int32.reduceToInt, Int64.reduceToInt, not_true_eq_false, not_false_eq_true, false_and, and_false, true_and, and_true, false_or, or_false, true_or, or_true] at hv60
  try simp only [Int32.reduceAdd, Int32.reduceSub, Int32.reduceMul, Int64.reduceAdd, Int64.reduceSub, Int64.reduceMul, Int32.lt_iff_toInt_lt, Int64.lt_iff_toInt_lt, ← Int32.toInt_inj, ← Int64.toInt_inj, Int32.reduceToInt, Int64.reduceToInt, not_true_eq_false, not_false_eq_true, false_and, and_false, true_and, and_true, false_or, or_false, true_or, or_true] at hv64
  try simp only [Int32.reduceAdd, Int32.reduceSub, Int32.reduceMul, Int64.reduceAdd, Int64.reduceSub, Int64.reduceMul, Int32.lt_iff_toInt_lt, Int64.lt_iff_toInt_lt, ← Int32.toInt_inj, ← Int64.toInt_inj, Int32.reduceToInt, Int64.reduceToInt, not_true_eq_false, not_false_eq_true, false_and, and_false, true_and, and_true, false_or, or_false, true_or, or_true] at hc100
  try simp only [Int32.reduceAdd, Int32.reduceSub, Int32.reduceMul, Int64.reduceAdd, Int64.reduceSub, Int64.reduceMul, Int32.lt_iff_toInt_lt, Int64.lt_iff_toInt_lt, ← Int32.toInt_inj, ← Int64.toInt_inj, Int32.reduceToInt, Int64.reduceToInt, not_true_eq_false, not_false_eq_true, false_and, and_false, true_and, and_true, false_or, or_false, true_or, or_true] at hc124
  try simp only [Int32.reduceAdd, Int32.reduceSub, Int32.reduceMul, Int64.reduceAdd, Int64.reduceSub, Int64.reduceMul, Int32.lt_iff_toInt_lt, Int64.lt_iff_toInt_lt, ← Int32.toInt_inj, ← Int64.toInt_inj, Int32.reduceToInt, Int64.reduceToInt, not_true_eq_false, not_false_eq_true, false_and, and_false, true_and, and_true, false_or, or_false, true_or, or_true] at hc148
  try simp only [Int32.reduceAdd, Int32.reduceSub, Int32.reduceMul, Int64.reduceAdd, Int64.reduceSub, Int64.reduceMul, Int32.lt_iff_toInt_lt, Int64.lt_iff_toInt_lt, ← Int32.toInt_inj, ← Int64.toInt_inj, Int32.reduceToInt, Int64.reduceToInt, not_true_eq_false, not_false_eq_true, false_and, and_false, true_and, and_true, false_or, or_false, true_or, or_true]
  have := Int32.le_toInt p0; have := Int32.toInt_lt p0
  have := Int32.le_toInt p1; have := Int32.toInt_lt p1
  have := Int32.le_toInt v60; have := Int32.toInt_lt v60
  have := Int32.le_toInt v64; have := Int32.toInt_lt v64
  have := Int32.le_toInt v96; have := Int32.toInt_lt v96
  have := Int32.le_toInt v120; have := Int32.toInt_lt v120
  have := Int32.le_toInt v144; have := Int32.toInt_lt v144
  have bl1 := Int32.le_toInt ex1; have bu1 := Int32.toInt_lt ex1
  have fa1 := c_mask p0 (7 : Int32) 3 (by decide) (by decide); rw [hex1] at fa1; try simp only [Int32.reduceAdd, Int32.reduceSub, Int32.reduceToInt, Int64.reduceToInt] at fa1
  clear hex1
  have bl2 := Int32.le_toInt ex2; have bu2 := Int32.toInt_lt ex2
  have fa2 := c_mask p1 (3 : Int32) 2 (by decide) (by decide); rw [hex2] at fa2; try simp only [Int32.reduceAdd, Int32.reduceSub, Int32.reduceToInt, Int64.reduceToInt] at fa2
  clear hex2
  try simp only [Int32.reduceAdd, Int32.reduceSub, Int32.reduceMul, Int64.reduceAdd, Int64.reduceSub, Int64.reduceMul, Int32.lt_iff_toInt_lt, Int64.lt_iff_toInt_lt, ← Int32.toInt_inj, ← Int64.toInt_inj, Int32.reduceToInt, Int64.reduceToInt, not_true_eq_false, not_false_eq_true, false_and, and_false, true_and, and_true, false_or, or_false, true_or, or_true] at fc3
  all_goals omega
set_option maxRecDepth 65536 in
set_option maxHeartbeats 40000000 in
theorem own_side151 (p0 : Int32) (p1 : Int32) (aE : Addr) (ba : Addr) (kb : ClassId) (db : Value) (v60 : Int32) (hv60 : v60 = (p0 &&& (7 : Int32))) (v64 : Int32) (hv64 : v64 = (own_f1 (p1 &&& (3 : Int32)) v60)) (v96 : Int32) (hv96 : v96 = (if v60 = (0 : Int32) then (1 : Int32) else (0 : Int32))) (hc100 : (0 : Int32) < v64) (v120 : Int32) (hv120 : v120 = (if v60 = (1 : Int32) then (1 : Int32) else (0 : Int32))) (hc124 : (1 : Int32) < v64) (v144 : Int32) (hv144 : v144 = (if v60 = (2 : Int32) then (1 : Int32) else (0 : Int32))) (hc148 : (2 : Int32) < v64) : ¬ (((0 : Int32) + (1 : Int32)) + (1 : Int32)) < (0 : Int32) ∧ (((0 : Int32) + (1 : Int32)) + (1 : Int32)) < v60 := by
  have dv96 : (v60 = (0 : Int32) ∧ (v96 = (1 : Int32))) ∨ (¬ (v60 = (0 : Int32)) ∧ (v96 = (0 : Int32))) := (if cq0 : v60 = (0 : Int32) then Or.inl ⟨cq0, (by rw [hv96, if_pos cq0])⟩ else Or.inr ⟨cq0, (by rw [hv96, if_neg cq0])⟩)
  clear hv96
  have dv120 : (v60 = (1 : Int32) ∧ (v120 = (1 : Int32))) ∨ (¬ (v60 = (1 : Int32)) ∧ (v120 = (0 : Int32))) := (if cq0 : v60 = (1 : Int32) then Or.inl ⟨cq0, (by rw [hv120, if_pos cq0])⟩ else Or.inr ⟨cq0, (by rw [hv120, if_neg cq0])⟩)
  clear hv120
  have dv144 : (v60 = (2 : Int32) ∧ (v144 = (1 : Int32))) ∨ (¬ (v60 = (2 : Int32)) ∧ (v144 = (0 : Int32))) := (if cq0 : v60 = (2 : Int32) then Or.inl ⟨cq0, (by rw [hv144, if_pos cq0])⟩ else Or.inr ⟨cq0, (by rw [hv144, if_neg cq0])⟩)
  clear hv144
  generalize hex1 : (p0 &&& (7 : Int32)) = ex1 at *
  generalize hex2 : (p1 &&& (3 : Int32)) = ex2 at *
  have fc3 := own_f1_cases ex2 v60
  generalize own_f1 ex2 v60 = ex3 at *
  try simp only [Int32.reduceAdd, Int32.reduceSub, Int32.reduceMul, Int64.reduceAdd, Int64.reduceSub, Int64.reduceMul, Int32.lt_iff_toInt_lt, Int64.lt_iff_toInt_lt, ← Int32.toInt_inj, ← Int64.toInt_inj, Int32.reduceToInt, Int64.reduceToInt, not_true_eq_false, not_false_eq_true, false_and, and_false, true_and, and_true, false_or, or_false, true_or, or_true] at dv96
  try simp only [Int32.reduceAdd, Int32.reduceSub, Int32.reduceMul, Int64.reduceAdd, Int64.reduceSub, Int64.reduceMul, Int32.lt_iff_toInt_lt, Int64.lt_iff_toInt_lt, ← Int32.toInt_inj, ← Int64.toInt_inj, Int32.reduceToInt, Int64.reduceToInt, not_true_eq_false, not_false_eq_true, false_and, and_false, true_and, and_true, false_or, or_false, true_or, or_true] at dv120
  try simp only [Int32.reduceAdd, Int32.reduceSub, Int32.reduceMul, Int64.reduceAdd, Int64.reduceSub, Int64.reduceMul, Int32.lt_iff_toInt_lt, Int64.lt_iff_toInt_lt, ← Int32.toInt_inj, ← Int64.toInt_inj, Int32.reduceToInt, Int64.reduceToInt, not_true_eq_false, not_false_eq_true, false_and, and_false, true_and, and_true, false_or, or_false, true_or, or_true] at dv144
  try simp only [Int32.reduceAdd, Int32.reduceSub, Int32.reduceMul, Int64.reduceAdd, Int64.reduceSub, Int64.reduceMul, Int32.lt_iff_toInt_lt, Int64.lt_iff_toInt_lt, ← Int32.toInt_inj, ← Int64.toInt_inj, Int32.reduceToInt, Int64.reduceToInt, not_true_eq_false, not_false_eq_true, false_and, and_false, true_and, and_true, false_or, or_false, true_or, or_true] at hv60
  try simp only [Int32.reduceAdd, Int32.reduceSub, Int32.reduceMul, Int64.reduceAdd, Int64.reduceSub, Int64.reduceMul, Int32.lt_iff_toInt_lt, Int64.lt_iff_toInt_lt, ← Int32.toInt_inj, ← Int64.toInt_inj, Int32.reduceToInt, Int64.reduceToInt, not_true_eq_false, not_false_eq_true, false_and, and_false, true_and, and_true, false_or, or_false, true_or, or_true] at hv64
  try simp only [Int32.reduceAdd, Int32.reduceSub, Int32.reduceMul, Int64.reduceAdd, Int64.reduceSub, Int64.reduceMul, Int32.lt_iff_toInt_lt, Int64.lt_iff_toInt_lt, ← Int32.toInt_inj, ← Int64.toInt_inj, Int32.reduceToInt, Int64.reduceToInt, not_true_eq_false, not_false_eq_true, false_and, and_false, true_and, and_true, false_or, or_false, true_or, or_true] at hc100
  try simp only [Int32.reduceAdd, Int32.reduceSub, Int32.reduceMul, Int64.reduceAdd, Int64.reduceSub, Int64.reduceMul, Int32.lt_iff_toInt_lt, Int64.lt_iff_toInt_lt, ← Int32.toInt_inj, ← Int64.toInt_inj, Int32.reduceToInt, Int64.reduceToInt, not_true_eq_false, not_false_eq_true, false_and, and_false, true_and, and_true, false_or, or_false, true_or, or_true] at hc124
  try simp only [Int32.reduceAdd, Int32.reduceSub, Int32.reduceMul, Int64.reduceAdd, Int64.reduceSub, Int64.reduceMul, Int32.lt_iff_toInt_lt, Int64.lt_iff_toInt_lt, ← Int32.toInt_inj, ← Int64.toInt_inj, Int32.reduceToInt, Int64.reduceToInt, not_true_eq_false, not_false_eq_true, false_and, and_false, true_and, and_true, false_or, or_false, true_or, or_true] at hc148
  try simp only [Int32.reduceAdd, Int32.reduceSub, Int32.reduceMul, Int64.reduceAdd, Int64.reduceSub, Int64.reduceMul, Int32.lt_iff_toInt_lt, Int64.lt_iff_toInt_lt, ← Int32.toInt_inj, ← Int64.toInt_inj, Int32.reduceToInt, Int64.reduceToInt, not_true_eq_false, not_false_eq_true, false_and, and_false, true_and, and_true, false_or, or_false, true_or, or_true]
  have := Int32.le_toInt p0; have := Int32.toInt_lt p0
  have := Int32.le_toInt p1; have := Int32.toInt_lt p1
  have := Int32.le_toInt v60; have := Int32.toInt_lt v60
  have := Int32.le_toInt v64; have := Int32.toInt_lt v64
  have := Int32.le_toInt v96; have := Int32.toInt_lt v96
  have := Int32.le_toInt v120; have := Int32.toInt_lt v120
  have := Int32.le_toInt v144; have := Int32.toInt_lt v144
  have bl1 := Int32.le_toInt ex1; have bu1 := Int32.toInt_lt ex1
  have fa1 := c_mask p0 (7 : Int32) 3 (by decide) (by decide); rw [hex1] at fa1; try simp only [Int32.reduceAdd, Int32.reduceSub, Int32.reduceToInt, Int64.reduceToInt] at fa1
  clear hex1
  have bl2 := Int32.le_toInt ex2; have bu2 := Int32.toInt_lt ex2
  have fa2 := c_mask p1 (3 : Int32) 2 (by decide) (by decide); rw [hex2] at fa2; try simp only [Int32.reduceAdd, Int32.reduceSub, Int32.reduceToInt, Int64.reduceToInt] at fa2
  clear hex2
  try simp only [Int32.reduceAdd, Int32.reduceSub, Int32.reduceMul, Int64.reduceAdd, Int64.reduceSub, Int64.reduceMul, Int32.lt_iff_toInt_lt, Int64.lt_iff_toInt_lt, ← Int32.toInt_inj, ← Int64.toInt_inj, Int32.reduceToInt, Int64.reduceToInt, not_true_eq_false, not_false_eq_true, false_and, and_false, true_and, and_true, false_or, or_false, true_or, or_true] at fc3
  all_goals omega
set_option maxRecDepth 65536 in
set_option maxHeartbeats 40000000 in
theorem own_side170 (p0 : Int32) (v60 : Int32) (hv60 : v60 = (p0 &&& (7 : Int32))) (v168 : Int32) (hv168 : v168 = (if v60 = (3 : Int32) then (1 : Int32) else (0 : Int32))) : (own_f4 ((((0 : Int32) + (1 : Int32)) + (1 : Int32)) + (1 : Int32)) v60) = v168 := by
  have dv168 : (v60 = (3 : Int32) ∧ (v168 = (1 : Int32))) ∨ (¬ (v60 = (3 : Int32)) ∧ (v168 = (0 : Int32))) := (if cq0 : v60 = (3 : Int32) then Or.inl ⟨cq0, (by rw [hv168, if_pos cq0])⟩ else Or.inr ⟨cq0, (by rw [hv168, if_neg cq0])⟩)
  clear hv168
  generalize hex1 : (p0 &&& (7 : Int32)) = ex1 at *
  have fc2 := own_f4_cases ((((0 : Int32) + (1 : Int32)) + (1 : Int32)) + (1 : Int32)) v60
  generalize own_f4 ((((0 : Int32) + (1 : Int32)) + (1 : Int32)) + (1 : Int32)) v60 = ex2 at *
  try simp only [Int32.reduceAdd, Int32.reduceSub, Int32.reduceMul, Int64.reduceAdd, Int64.reduceSub, Int64.reduceMul, Int32.lt_iff_toInt_lt, Int64.lt_iff_toInt_lt, ← Int32.toInt_inj, ← Int64.toInt_inj, Int32.reduceToInt, Int64.reduceToInt, not_true_eq_false, not_false_eq_true, false_and, and_false, true_and, and_true, false_or, or_false, true_or, or_true] at dv168
  try simp only [Int32.reduceAdd, Int32.reduceSub, Int32.reduceMul, Int64.reduceAdd, Int64.reduceSub, Int64.reduceMul, Int32.lt_iff_toInt_lt, Int64.lt_iff_toInt_lt, ← Int32.toInt_inj, ← Int64.toInt_inj, Int32.reduceToInt, Int64.reduceToInt, not_true_eq_false, not_false_eq_true, false_and, and_false, true_and, and_true, false_or, or_false, true_or, or_true] at hv60
  try simp only [Int32.reduceAdd, Int32.reduceSub, Int32.reduceMul, Int64.reduceAdd, Int64.reduceSub, Int64.reduceMul, Int32.lt_iff_toInt_lt, Int64.lt_iff_toInt_lt, ← Int32.toInt_inj, ← Int64.toInt_inj, Int32.reduceToInt, Int64.reduceToInt, not_true_eq_false, not_false_eq_true, false_and, and_false, true_and, and_true, false_or, or_false, true_or, or_true]
  have := Int32.le_toInt p0; have := Int32.toInt_lt p0
  have := Int32.le_toInt v60; have := Int32.toInt_lt v60
  have := Int32.le_toInt v168; have := Int32.toInt_lt v168
  have bl1 := Int32.le_toInt ex1; have bu1 := Int32.toInt_lt ex1
  have fa1 := c_mask p0 (7 : Int32) 3 (by decide) (by decide); rw [hex1] at fa1; try simp only [Int32.reduceAdd, Int32.reduceSub, Int32.reduceToInt, Int64.reduceToInt] at fa1
  clear hex1
  try simp only [Int32.reduceAdd, Int32.reduceSub, Int32.reduceMul, Int64.reduceAdd, Int64.reduceSub, Int64.reduceMul, Int32.lt_iff_toInt_lt, Int64.lt_iff_toInt_lt, ← Int32.toInt_inj, ← Int64.toInt_inj, Int32.reduceToInt, Int64.reduceToInt, not_true_eq_false, not_false_eq_true, false_and, and_false, true_and, and_true, false_or, or_false, true_or, or_true] at fc2
  all_goals omega
set_option maxRecDepth 65536 in
set_option maxHeartbeats 40000000 in
theorem own_side178 (p0 : Int32) (p1 : Int32) (v60 : Int32) (hv60 : v60 = (p0 &&& (7 : Int32))) (v64 : Int32) (hv64 : v64 = (own_f1 (p1 &&& (3 : Int32)) v60)) (hc100 : (0 : Int32) < v64) (hc124 : (1 : Int32) < v64) (hc148 : (2 : Int32) < v64) (v176 : Int32) (hv176 : v176 = (if v64 = v60 then (1 : Int32) else (0 : Int32))) : (own_f4 ((((0 : Int32) + (1 : Int32)) + (1 : Int32)) + (1 : Int32)) v60) = v176 := by
  have dv176 : (v64 = v60 ∧ (v176 = (1 : Int32))) ∨ (¬ (v64 = v60) ∧ (v176 = (0 : Int32))) := (if cq0 : v64 = v60 then Or.inl ⟨cq0, (by rw [hv176, if_pos cq0])⟩ else Or.inr ⟨cq0, (by rw [hv176, if_neg cq0])⟩)
  clear hv176
  generalize hex1 : (p0 &&& (7 : Int32)) = ex1 at *
  generalize hex2 : (p1 &&& (3 : Int32)) = ex2 at *
  have fc3 := own_f1_cases ex2 v60
  generalize own_f1 ex2 v60 = ex3 at *
  have fc4 := own_f4_cases ((((0 : Int32) + (1 : Int32)) + (1 : Int32)) + (1 : Int32)) v60
  generalize own_f4 ((((0 : Int32) + (1 : Int32)) + (1 : Int32)) + (1 : Int32)) v60 = ex4 at *
  try simp only [Int32.reduceAdd, Int32.reduceSub, Int32.reduceMul, Int64.reduceAdd, Int64.reduceSub, Int64.reduceMul, Int32.lt_iff_toInt_lt, Int64.lt_iff_toInt_lt, ← Int32.toInt_inj, ← Int64.toInt_inj, Int32.reduceToInt, Int64.reduceToInt, not_true_eq_false, not_false_eq_true, false_and, and_false, true_and, and_true, false_or, or_false, true_or, or_true] at dv176
  try simp only [Int32.reduceAdd, Int32.reduceSub, Int32.reduceMul, Int64.reduceAdd, Int64.reduceSub, Int64.reduceMul, Int32.lt_iff_toInt_lt, Int64.lt_iff_toInt_lt, ← Int32.toInt_inj, ← Int64.toInt_inj, Int32.reduceToInt, Int64.reduceToInt, not_true_eq_false, not_false_eq_true, false_and, and_false, true_and, and_true, false_or, or_false, true_or, or_true] at hv60
  try simp only [Int32.reduceAdd, Int32.reduceSub, Int32.reduceMul, Int64.reduceAdd, Int64.reduceSub, Int64.reduceMul, Int32.lt_iff_toInt_lt, Int64.lt_iff_toInt_lt, ← Int32.toInt_inj, ← Int64.toInt_inj, Int32.reduceToInt, Int64.reduceToInt, not_true_eq_false, not_false_eq_true, false_and, and_false, true_and, and_true, false_or, or_false, true_or, or_true] at hv64
  try simp only [Int32.reduceAdd, Int32.reduceSub, Int32.reduceMul, Int64.reduceAdd, Int64.reduceSub, Int64.reduceMul, Int32.lt_iff_toInt_lt, Int64.lt_iff_toInt_lt, ← Int32.toInt_inj, ← Int64.toInt_inj, Int32.reduceToInt, Int64.reduceToInt, not_true_eq_false, not_false_eq_true, false_and, and_false, true_and, and_true, false_or, or_false, true_or, or_true] at hc100
  try simp only [Int32.reduceAdd, Int32.reduceSub, Int32.reduceMul, Int64.reduceAdd, Int64.reduceSub, Int64.reduceMul, Int32.lt_iff_toInt_lt, Int64.lt_iff_toInt_lt, ← Int32.toInt_inj, ← Int64.toInt_inj, Int32.reduceToInt, Int64.reduceToInt, not_true_eq_false, not_false_eq_true, false_and, and_false, true_and, and_true, false_or, or_false, true_or, or_true] at hc124
  try simp only [Int32.reduceAdd, Int32.reduceSub, Int32.reduceMul, Int64.reduceAdd, Int64.reduceSub, Int64.reduceMul, Int32.lt_iff_toInt_lt, Int64.lt_iff_toInt_lt, ← Int32.toInt_inj, ← Int64.toInt_inj, Int32.reduceToInt, Int64.reduceToInt, not_true_eq_false, not_false_eq_true, false_and, and_false, true_and, and_true, false_or, or_false, true_or, or_true] at hc148
  try simp only [Int32.reduceAdd, Int32.reduceSub, Int32.reduceMul, Int64.reduceAdd, Int64.reduceSub, Int64.reduceMul, Int32.lt_iff_toInt_lt, Int64.lt_iff_toInt_lt, ← Int32.toInt_inj, ← Int64.toInt_inj, Int32.reduceToInt, Int64.reduceToInt, not_true_eq_false, not_false_eq_true, false_and, and_false, true_and, and_true, false_or, or_false, true_or, or_true]
  have := Int32.le_toInt p0; have := Int32.toInt_lt p0
  have := Int32.le_toInt p1; have := Int32.toInt_lt p1
  have := Int32.le_toInt v60; have := Int32.toInt_lt v60
  have := Int32.le_toInt v64; have := Int32.toInt_lt v64
  have := Int32.le_toInt v176; have := Int32.toInt_lt v176
  have bl1 := Int32.le_toInt ex1; have bu1 := Int32.toInt_lt ex1
  have fa1 := c_mask p0 (7 : Int32) 3 (by decide) (by decide); rw [hex1] at fa1; try simp only [Int32.reduceAdd, Int32.reduceSub, Int32.reduceToInt, Int64.reduceToInt] at fa1
  clear hex1
  have bl2 := Int32.le_toInt ex2; have bu2 := Int32.toInt_lt ex2
  have fa2 := c_mask p1 (3 : Int32) 2 (by decide) (by decide); rw [hex2] at fa2; try simp only [Int32.reduceAdd, Int32.reduceSub, Int32.reduceToInt, Int64.reduceToInt] at fa2
  clear hex2
  try simp only [Int32.reduceAdd, Int32.reduceSub, Int32.reduceMul, Int64.reduceAdd, Int64.reduceSub, Int64.reduceMul, Int32.lt_iff_toInt_lt, Int64.lt_iff_toInt_lt, ← Int32.toInt_inj, ← Int64.toInt_inj, Int32.reduceToInt, Int64.reduceToInt, not_true_eq_false, not_false_eq_true, false_and, and_false, true_and, and_true, false_or, or_false, true_or, or_true] at fc3
  try simp only [Int32.reduceAdd, Int32.reduceSub, Int32.reduceMul, Int64.reduceAdd, Int64.reduceSub, Int64.reduceMul, Int32.lt_iff_toInt_lt, Int64.lt_iff_toInt_lt, ← Int32.toInt_inj, ← Int64.toInt_inj, Int32.reduceToInt, Int64.reduceToInt, not_true_eq_false, not_false_eq_true, false_and, and_false, true_and, and_true, false_or, or_false, true_or, or_true] at fc4
  all_goals omega
set_option maxRecDepth 65536 in
set_option maxHeartbeats 40000000 in
theorem own_side186 (p0 : Int32) (p1 : Int32) (v60 : Int32) (hv60 : v60 = (p0 &&& (7 : Int32))) (v64 : Int32) (hv64 : v64 = (own_f1 (p1 &&& (3 : Int32)) v60)) (hc100 : (0 : Int32) < v64) (hc124 : (1 : Int32) < v64) (hc148 : ¬ ((2 : Int32) < v64)) (v184 : Int32) (hv184 : v184 = (if v64 = v60 then (1 : Int32) else (0 : Int32))) : (own_f4 (((0 : Int32) + (1 : Int32)) + (1 : Int32)) v60) = v184 := by
  have dv184 : (v64 = v60 ∧ (v184 = (1 : Int32))) ∨ (¬ (v64 = v60) ∧ (v184 = (0 : Int32))) := (if cq0 : v64 = v60 then Or.inl ⟨cq0, (by rw [hv184, if_pos cq0])⟩ else Or.inr ⟨cq0, (by rw [hv184, if_neg cq0])⟩)
  clear hv184
  generalize hex1 : (p0 &&& (7 : Int32)) = ex1 at *
  generalize hex2 : (p1 &&& (3 : Int32)) = ex2 at *
  have fc3 := own_f1_cases ex2 v60
  generalize own_f1 ex2 v60 = ex3 at *
  have fc4 := own_f4_cases (((0 : Int32) + (1 : Int32)) + (1 : Int32)) v60
  generalize own_f4 (((0 : Int32) + (1 : Int32)) + (1 : Int32)) v60 = ex4 at *
  try simp only [Int32.reduceAdd, Int32.reduceSub, Int32.reduceMul, Int64.reduceAdd, Int64.reduceSub, Int64.reduceMul, Int32.lt_iff_toInt_lt, Int64.lt_iff_toInt_lt, ← Int32.toInt_inj, ← Int64.toInt_inj, Int32.reduceToInt, Int64.reduceToInt, not_true_eq_false, not_false_eq_true, false_and, and_false, true_and, and_true, false_or, or_false, true_or, or_true] at dv184
  try simp only [Int32.reduceAdd, Int32.reduceSub, Int32.reduceMul, Int64.reduceAdd, Int64.reduceSub, Int64.reduceMul, Int32.lt_iff_toInt_lt, Int64.lt_iff_toInt_lt, ← Int32.toInt_inj, ← Int64.toInt_inj, Int32.reduceToInt, Int64.reduceToInt, not_true_eq_false, not_false_eq_true, false_and, and_false, true_and, and_true, false_or, or_false, true_or, or_true] at hv60
  try simp only [Int32.reduceAdd, Int32.reduceSub, Int32.reduceMul, Int64.reduceAdd, Int64.reduceSub, Int64.reduceMul, Int32.lt_iff_toInt_lt, Int64.lt_iff_toInt_lt, ← Int32.toInt_inj, ← Int64.toInt_inj, Int32.reduceToInt, Int64.reduceToInt, not_true_eq_false, not_false_eq_true, false_and, and_false, true_and, and_true, false_or, or_false, true_or, or_true] at hv64
  try simp only [Int32.reduceAdd, Int32.reduceSub, Int32.reduceMul, Int64.reduceAdd, Int64.reduceSub, Int64.reduceMul, Int32.lt_iff_toInt_lt, Int64.lt_iff_toInt_lt, ← Int32.toInt_inj, ← Int64.toInt_inj, Int32.reduceToInt, Int64.reduceToInt, not_true_eq_false, not_false_eq_true, false_and, and_false, true_and, and_true, false_or, or_false, true_or, or_true] at hc100
  try simp only [Int32.reduceAdd, Int32.reduceSub, Int32.reduceMul, Int64.reduceAdd, Int64.reduceSub, Int64.reduceMul, Int32.lt_iff_toInt_lt, Int64.lt_iff_toInt_lt, ← Int32.toInt_inj, ← Int64.toInt_inj, Int32.reduceToInt, Int64.reduceToInt, not_true_eq_false, not_false_eq_true, false_and, and_false, true_and, and_true, false_or, or_false, true_or, or_true] at hc124
  try simp only [Int32.reduceAdd, Int32.reduceSub, Int32.reduceMul, Int64.reduceAdd, Int64.reduceSub, Int64.reduceMul, Int32.lt_iff_toInt_lt, Int64.lt_iff_toInt_lt, ← Int32.toInt_inj, ← Int64.toInt_inj, Int32.reduceToInt, Int64.reduceToInt, not_true_eq_false, not_false_eq_true, false_and, and_false, true_and, and_true, false_or, or_false, true_or, or_true] at hc148
  try simp only [Int32.reduceAdd, Int32.reduceSub, Int32.reduceMul, Int64.reduceAdd, Int64.reduceSub, Int64.reduceMul, Int32.lt_iff_toInt_lt, Int64.lt_iff_toInt_lt, ← Int32.toInt_inj, ← Int64.toInt_inj, Int32.reduceToInt, Int64.reduceToInt, not_true_eq_false, not_false_eq_true, false_and, and_false, true_and, and_true, false_or, or_false, true_or, or_true]
  have := Int32.le_toInt p0; have := Int32.toInt_lt p0
  have := Int32.le_toInt p1; have := Int32.toInt_lt p1
  have := Int32.le_toInt v60; have := Int32.toInt_lt v60
  have := Int32.le_toInt v64; have := Int32.toInt_lt v64
  have := Int32.le_toInt v184; have := Int32.toInt_lt v184
  have bl1 := Int32.le_toInt ex1; have bu1 := Int32.toInt_lt ex1
  have fa1 := c_mask p0 (7 : Int32) 3 (by decide) (by decide); rw [hex1] at fa1; try simp only [Int32.reduceAdd, Int32.reduceSub, Int32.reduceToInt, Int64.reduceToInt] at fa1
  clear hex1
  have bl2 := Int32.le_toInt ex2; have bu2 := Int32.toInt_lt ex2
  have fa2 := c_mask p1 (3 : Int32) 2 (by decide) (by decide); rw [hex2] at fa2; try simp only [Int32.reduceAdd, Int32.reduceSub, Int32.reduceToInt, Int64.reduceToInt] at fa2
  clear hex2
  try simp only [Int32.reduceAdd, Int32.reduceSub, Int32.reduceMul, Int64.reduceAdd, Int64.reduceSub, Int64.reduceMul, Int32.lt_iff_toInt_lt, Int64.lt_iff_toInt_lt, ← Int32.toInt_inj, ← Int64.toInt_inj, Int32.reduceToInt, Int64.reduceToInt, not_true_eq_false, not_false_eq_true, false_and, and_false, true_and, and_true, false_or, or_false, true_or, or_true] at fc3
  try simp only [Int32.reduceAdd, Int32.reduceSub, Int32.reduceMul, Int64.reduceAdd, Int64.reduceSub, Int64.reduceMul, Int32.lt_iff_toInt_lt, Int64.lt_iff_toInt_lt, ← Int32.toInt_inj, ← Int64.toInt_inj, Int32.reduceToInt, Int64.reduceToInt, not_true_eq_false, not_false_eq_true, false_and, and_false, true_and, and_true, false_or, or_false, true_or, or_true] at fc4
  all_goals omega
set_option maxRecDepth 65536 in
set_option maxHeartbeats 40000000 in
theorem own_side187 (p0 : Int32) (p1 : Int32) (aE : Addr) (ba : Addr) (kb : ClassId) (db : Value) (v60 : Int32) (hv60 : v60 = (p0 &&& (7 : Int32))) (v64 : Int32) (hv64 : v64 = (own_f1 (p1 &&& (3 : Int32)) v60)) (v96 : Int32) (hv96 : v96 = (if v60 = (0 : Int32) then (1 : Int32) else (0 : Int32))) (hc100 : (0 : Int32) < v64) (v120 : Int32) (hv120 : v120 = (if v60 = (1 : Int32) then (1 : Int32) else (0 : Int32))) (hc124 : ¬ ((1 : Int32) < v64)) : ¬ ((2 : Int32) < v64) := by
  have dv96 : (v60 = (0 : Int32) ∧ (v96 = (1 : Int32))) ∨ (¬ (v60 = (0 : Int32)) ∧ (v96 = (0 : Int32))) := (if cq0 : v60 = (0 : Int32) then Or.inl ⟨cq0, (by rw [hv96, if_pos cq0])⟩ else Or.inr ⟨cq0, (by rw [hv96, if_neg cq0])⟩)
  clear hv96
  have dv120 : (v60 = (1 : Int32) ∧ (v120 = (1 : Int32))) ∨ (¬ (v60 = (1 : Int32)) ∧ (v120 = (0 : Int32))) := (if cq0 : v60 = (1 : Int32) then Or.inl ⟨cq0, (by rw [hv120, if_pos cq0])⟩ else Or.inr ⟨cq0, (by rw [hv120, if_neg cq0])⟩)
  clear hv120
  generalize hex1 : (p0 &&& (7 : Int32)) = ex1 at *
  generalize hex2 : (p1 &&& (3 : Int32)) = ex2 at *
  have fc3 := own_f1_cases ex2 v60
  generalize own_f1 ex2 v60 = ex3 at *
  try simp only [Int32.reduceAdd, Int32.reduceSub, Int32.reduceMul, Int64.reduceAdd, Int64.reduceSub, Int64.reduceMul, Int32.lt_iff_toInt_lt, Int64.lt_iff_toInt_lt, ← Int32.toInt_inj, ← Int64.toInt_inj, Int32.reduceToInt, Int64.reduceToInt, not_true_eq_false, not_false_eq_true, false_and, and_false, true_and, and_true, false_or, or_false, true_or, or_true] at dv96
  try simp only [Int32.reduceAdd, Int32.reduceSub, Int32.reduceMul, Int64.reduceAdd, Int64.reduceSub, Int64.reduceMul, Int32.lt_iff_toInt_lt, Int64.lt_iff_toInt_lt, ← Int32.toInt_inj, ← Int64.toInt_inj, Int32.reduceToInt, Int64.reduceToInt, not_true_eq_false, not_false_eq_true, false_and, and_false, true_and, and_true, false_or, or_false, true_or, or_true] at dv120
  try simp only [Int32.reduceAdd, Int32.reduceSub, Int32.reduceMul, Int64.reduceAdd, Int64.reduceSub, Int64.reduceMul, Int32.lt_iff_toInt_lt, Int64.lt_iff_toInt_lt, ← Int32.toInt_inj, ← Int64.toInt_inj, Int32.reduceToInt, Int64.reduceToInt, not_true_eq_false, not_false_eq_true, false_and, and_false, true_and, and_true, false_or, or_false, true_or, or_true] at hv60
  try simp only [Int32.reduceAdd, Int32.reduceSub, Int32.reduceMul, Int64.reduceAdd, Int64.reduceSub, Int64.reduceMul, Int32.lt_iff_toInt_lt, Int64.lt_iff_toInt_lt, ← Int32.toInt_inj, ← Int64.toInt_inj, Int32.reduceToInt, Int64.reduceToInt, not_true_eq_false, not_false_eq_true, false_and, and_false, true_and, and_true, false_or, or_false, true_or, or_true] at hv64
  try simp only [Int32.reduceAdd, Int32.reduceSub, Int32.reduceMul, Int64.reduceAdd, Int64.reduceSub, Int64.reduceMul, Int32.lt_iff_toInt_lt, Int64.lt_iff_toInt_lt, ← Int32.toInt_inj, ← Int64.toInt_inj, Int32.reduceToInt, Int64.reduceToInt, not_true_eq_false, not_false_eq_true, false_and, and_false, true_and, and_true, false_or, or_false, true_or, or_true] at hc100
  try simp only [Int32.reduceAdd, Int32.reduceSub, Int32.reduceMul, Int64.reduceAdd, Int64.reduceSub, Int64.reduceMul, Int32.lt_iff_toInt_lt, Int64.lt_iff_toInt_lt, ← Int32.toInt_inj, ← Int64.toInt_inj, Int32.reduceToInt, Int64.reduceToInt, not_true_eq_false, not_false_eq_true, false_and, and_false, true_and, and_true, false_or, or_false, true_or, or_true] at hc124
  try simp only [Int32.reduceAdd, Int32.reduceSub, Int32.reduceMul, Int64.reduceAdd, Int64.reduceSub, Int64.reduceMul, Int32.lt_iff_toInt_lt, Int64.lt_iff_toInt_lt, ← Int32.toInt_inj, ← Int64.toInt_inj, Int32.reduceToInt, Int64.reduceToInt, not_true_eq_false, not_false_eq_true, false_and, and_false, true_and, and_true, false_or, or_false, true_or, or_true]
  have := Int32.le_toInt p0; have := Int32.toInt_lt p0
  have := Int32.le_toInt p1; have := Int32.toInt_lt p1
  have := Int32.le_toInt v60; have := Int32.toInt_lt v60
  have := Int32.le_toInt v64; have := Int32.toInt_lt v64
  have := Int32.le_toInt v96; have := Int32.toInt_lt v96
  have := Int32.le_toInt v120; have := Int32.toInt_lt v120
  have bl1 := Int32.le_toInt ex1; have bu1 := Int32.toInt_lt ex1
  have fa1 := c_mask p0 (7 : Int32) 3 (by decide) (by decide); rw [hex1] at fa1; try simp only [Int32.reduceAdd, Int32.reduceSub, Int32.reduceToInt, Int64.reduceToInt] at fa1
  clear hex1
  have bl2 := Int32.le_toInt ex2; have bu2 := Int32.toInt_lt ex2
  have fa2 := c_mask p1 (3 : Int32) 2 (by decide) (by decide); rw [hex2] at fa2; try simp only [Int32.reduceAdd, Int32.reduceSub, Int32.reduceToInt, Int64.reduceToInt] at fa2
  clear hex2
  try simp only [Int32.reduceAdd, Int32.reduceSub, Int32.reduceMul, Int64.reduceAdd, Int64.reduceSub, Int64.reduceMul, Int32.lt_iff_toInt_lt, Int64.lt_iff_toInt_lt, ← Int32.toInt_inj, ← Int64.toInt_inj, Int32.reduceToInt, Int64.reduceToInt, not_true_eq_false, not_false_eq_true, false_and, and_false, true_and, and_true, false_or, or_false, true_or, or_true] at fc3
  all_goals omega
set_option maxRecDepth 65536 in
set_option maxHeartbeats 40000000 in
theorem own_side195 (p0 : Int32) (p1 : Int32) (v60 : Int32) (hv60 : v60 = (p0 &&& (7 : Int32))) (v64 : Int32) (hv64 : v64 = (own_f1 (p1 &&& (3 : Int32)) v60)) (hc100 : (0 : Int32) < v64) (hc124 : ¬ ((1 : Int32) < v64)) (v193 : Int32) (hv193 : v193 = (if v64 = v60 then (1 : Int32) else (0 : Int32))) : (own_f4 ((0 : Int32) + (1 : Int32)) v60) = v193 := by
  have dv193 : (v64 = v60 ∧ (v193 = (1 : Int32))) ∨ (¬ (v64 = v60) ∧ (v193 = (0 : Int32))) := (if cq0 : v64 = v60 then Or.inl ⟨cq0, (by rw [hv193, if_pos cq0])⟩ else Or.inr ⟨cq0, (by rw [hv193, if_neg cq0])⟩)
  clear hv193
  generalize hex1 : (p0 &&& (7 : Int32)) = ex1 at *
  generalize hex2 : (p1 &&& (3 : Int32)) = ex2 at *
  have fc3 := own_f1_cases ex2 v60
  generalize own_f1 ex2 v60 = ex3 at *
  have fc4 := own_f4_cases ((0 : Int32) + (1 : Int32)) v60
  generalize own_f4 ((0 : Int32) + (1 : Int32)) v60 = ex4 at *
  try simp only [Int32.reduceAdd, Int32.reduceSub, Int32.reduceMul, Int64.reduceAdd, Int64.reduceSub, Int64.reduceMul, Int32.lt_iff_toInt_lt, Int64.lt_iff_toInt_lt, ← Int32.toInt_inj, ← Int64.toInt_inj, Int32.reduceToInt, Int64.reduceToInt, not_true_eq_false, not_false_eq_true, false_and, and_false, true_and, and_true, false_or, or_false, true_or, or_true] at dv193
  try simp only [Int32.reduceAdd, Int32.reduceSub, Int32.reduceMul, Int64.reduceAdd, Int64.reduceSub, Int64.reduceMul, Int32.lt_iff_toInt_lt, Int64.lt_iff_toInt_lt, ← Int32.toInt_inj, ← Int64.toInt_inj, Int32.reduceToInt, Int64.reduceToInt, not_true_eq_false, not_false_eq_true, false_and, and_false, true_and, and_true, false_or, or_false, true_or, or_true] at hv60
  try simp only [Int32.reduceAdd, Int32.reduceSub, Int32.reduceMul, Int64.reduceAdd, Int64.reduceSub, Int64.reduceMul, Int32.lt_iff_toInt_lt, Int64.lt_iff_toInt_lt, ← Int32.toInt_inj, ← Int64.toInt_inj, Int32.reduceToInt, Int64.reduceToInt, not_true_eq_false, not_false_eq_true, false_and, and_false, true_and, and_true, false_or, or_false, true_or, or_true] at hv64
  try simp only [Int32.reduceAdd, Int32.reduceSub, Int32.reduceMul, Int64.reduceAdd, Int64.reduceSub, Int64.reduceMul, Int32.lt_iff_toInt_lt, Int64.lt_iff_toInt_lt, ← Int32.toInt_inj, ← Int64.toInt_inj, Int32.reduceToInt, Int64.reduceToInt, not_true_eq_false, not_false_eq_true, false_and, and_false, true_and, and_true, false_or, or_false, true_or, or_true] at hc100
  try simp only [Int32.reduceAdd, Int32.reduceSub, Int32.reduceMul, Int64.reduceAdd, Int64.reduceSub, Int64.reduceMul, Int32.lt_iff_toInt_lt, Int64.lt_iff_toInt_lt, ← Int32.toInt_inj, ← Int64.toInt_inj, Int32.reduceToInt, Int64.reduceToInt, not_true_eq_false, not_false_eq_true, false_and, and_false, true_and, and_true, false_or, or_false, true_or, or_true] at hc124
  try simp only [Int32.reduceAdd, Int32.reduceSub, Int32.reduceMul, Int64.reduceAdd, Int64.reduceSub, Int64.reduceMul, Int32.lt_iff_toInt_lt, Int64.lt_iff_toInt_lt, ← Int32.toInt_inj, ← Int64.toInt_inj, Int32.reduceToInt, Int64.reduceToInt, not_true_eq_false, not_false_eq_true, false_and, and_false, true_and, and_true, false_or, or_false, true_or, or_true]
  have := Int32.le_toInt p0; have := Int32.toInt_lt p0
  have := Int32.le_toInt p1; have := Int32.toInt_lt p1
  have := Int32.le_toInt v60; have := Int32.toInt_lt v60
  have := Int32.le_toInt v64; have := Int32.toInt_lt v64
  have := Int32.le_toInt v193; have := Int32.toInt_lt v193
  have bl1 := Int32.le_toInt ex1; have bu1 := Int32.toInt_lt ex1
  have fa1 := c_mask p0 (7 : Int32) 3 (by decide) (by decide); rw [hex1] at fa1; try simp only [Int32.reduceAdd, Int32.reduceSub, Int32.reduceToInt, Int64.reduceToInt] at fa1
  clear hex1
  have bl2 := Int32.le_toInt ex2; have bu2 := Int32.toInt_lt ex2
  have fa2 := c_mask p1 (3 : Int32) 2 (by decide) (by decide); rw [hex2] at fa2; try simp only [Int32.reduceAdd, Int32.reduceSub, Int32.reduceToInt, Int64.reduceToInt] at fa2
  clear hex2
  try simp only [Int32.reduceAdd, Int32.reduceSub, Int32.reduceMul, Int64.reduceAdd, Int64.reduceSub, Int64.reduceMul, Int32.lt_iff_toInt_lt, Int64.lt_iff_toInt_lt, ← Int32.toInt_inj, ← Int64.toInt_inj, Int32.reduceToInt, Int64.reduceToInt, not_true_eq_false, not_false_eq_true, false_and, and_false, true_and, and_true, false_or, or_false, true_or, or_true] at fc3
  try simp only [Int32.reduceAdd, Int32.reduceSub, Int32.reduceMul, Int64.reduceAdd, Int64.reduceSub, Int64.reduceMul, Int32.lt_iff_toInt_lt, Int64.lt_iff_toInt_lt, ← Int32.toInt_inj, ← Int64.toInt_inj, Int32.reduceToInt, Int64.reduceToInt, not_true_eq_false, not_false_eq_true, false_and, and_false, true_and, and_true, false_or, or_false, true_or, or_true] at fc4
  all_goals omega
set_option maxRecDepth 65536 in
set_option maxHeartbeats 40000000 in
theorem own_side196 (p0 : Int32) (p1 : Int32) (aE : Addr) (ba : Addr) (kb : ClassId) (db : Value) (v60 : Int32) (hv60 : v60 = (p0 &&& (7 : Int32))) (v64 : Int32) (hv64 : v64 = (own_f1 (p1 &&& (3 : Int32)) v60)) (v96 : Int32) (hv96 : v96 = (if v60 = (0 : Int32) then (1 : Int32) else (0 : Int32))) (hc100 : ¬ ((0 : Int32) < v64)) : ¬ ((1 : Int32) < v64) := by
  have dv96 : (v60 = (0 : Int32) ∧ (v96 = (1 : Int32))) ∨ (¬ (v60 = (0 : Int32)) ∧ (v96 = (0 : Int32))) := (if cq0 : v60 = (0 : Int32) then Or.inl ⟨cq0, (by rw [hv96, if_pos cq0])⟩ else Or.inr ⟨cq0, (by rw [hv96, if_neg cq0])⟩)
  clear hv96
  generalize hex1 : (p0 &&& (7 : Int32)) = ex1 at *
  generalize hex2 : (p1 &&& (3 : Int32)) = ex2 at *
  have fc3 := own_f1_cases ex2 v60
  generalize own_f1 ex2 v60 = ex3 at *
  try simp only [Int32.reduceAdd, Int32.reduceSub, Int32.reduceMul, Int64.reduceAdd, Int64.reduceSub, Int64.reduceMul, Int32.lt_iff_toInt_lt, Int64.lt_iff_toInt_lt, ← Int32.toInt_inj, ← Int64.toInt_inj, Int32.reduceToInt, Int64.reduceToInt, not_true_eq_false, not_false_eq_true, false_and, and_false, true_and, and_true, false_or, or_false, true_or, or_true] at dv96
  try simp only [Int32.reduceAdd, Int32.reduceSub, Int32.reduceMul, Int64.reduceAdd, Int64.reduceSub, Int64.reduceMul, Int32.lt_iff_toInt_lt, Int64.lt_iff_toInt_lt, ← Int32.toInt_inj, ← Int64.toInt_inj, Int32.reduceToInt, Int64.reduceToInt, not_true_eq_false, not_false_eq_true, false_and, and_false, true_and, and_true, false_or, or_false, true_or, or_true] at hv60
  try simp only [Int32.reduceAdd, Int32.reduceSub, Int32.reduceMul, Int64.reduceAdd, Int64.reduceSub, Int64.reduceMul, Int32.lt_iff_toInt_lt, Int64.lt_iff_toInt_lt, ← Int32.toInt_inj, ← Int64.toInt_inj, Int32.reduceToInt, Int64.reduceToInt, not_true_eq_false, not_false_eq_true, false_and, and_false, true_and, and_true, false_or, or_false, true_or, or_true] at hv64
  try simp only [Int32.reduceAdd, Int32.reduceSub, Int32.reduceMul, Int64.reduceAdd, Int64.reduceSub, Int64.reduceMul, Int32.lt_iff_toInt_lt, Int64.lt_iff_toInt_lt, ← Int32.toInt_inj, ← Int64.toInt_inj, Int32.reduceToInt, Int64.reduceToInt, not_true_eq_false, not_false_eq_true, false_and, and_false, true_and, and_true, false_or, or_false, true_or, or_true] at hc100
  try simp only [Int32.reduceAdd, Int32.reduceSub, Int32.reduceMul, Int64.reduceAdd, Int64.reduceSub, Int64.reduceMul, Int32.lt_iff_toInt_lt, Int64.lt_iff_toInt_lt, ← Int32.toInt_inj, ← Int64.toInt_inj, Int32.reduceToInt, Int64.reduceToInt, not_true_eq_false, not_false_eq_true, false_and, and_false, true_and, and_true, false_or, or_false, true_or, or_true]
  have := Int32.le_toInt p0; have := Int32.toInt_lt p0
  have := Int32.le_toInt p1; have := Int32.toInt_lt p1
  have := Int32.le_toInt v60; have := Int32.toInt_lt v60
  have := Int32.le_toInt v64; have := Int32.toInt_lt v64
  have := Int32.le_toInt v96; have := Int32.toInt_lt v96
  have bl1 := Int32.le_toInt ex1; have bu1 := Int32.toInt_lt ex1
  have fa1 := c_mask p0 (7 : Int32) 3 (by decide) (by decide); rw [hex1] at fa1; try simp only [Int32.reduceAdd, Int32.reduceSub, Int32.reduceToInt, Int64.reduceToInt] at fa1
  clear hex1
  have bl2 := Int32.le_toInt ex2; have bu2 := Int32.toInt_lt ex2
  have fa2 := c_mask p1 (3 : Int32) 2 (by decide) (by decide); rw [hex2] at fa2; try simp only [Int32.reduceAdd, Int32.reduceSub, Int32.reduceToInt, Int64.reduceToInt] at fa2
  clear hex2
  try simp only [Int32.reduceAdd, Int32.reduceSub, Int32.reduceMul, Int64.reduceAdd, Int64.reduceSub, Int64.reduceMul, Int32.lt_iff_toInt_lt, Int64.lt_iff_toInt_lt, ← Int32.toInt_inj, ← Int64.toInt_inj, Int32.reduceToInt, Int64.reduceToInt, not_true_eq_false, not_false_eq_true, false_and, and_false, true_and, and_true, false_or, or_false, true_or, or_true] at fc3
  all_goals omega
set_option maxRecDepth 65536 in
set_option maxHeartbeats 40000000 in
theorem own_side197 (p0 : Int32) (p1 : Int32) (aE : Addr) (ba : Addr) (kb : ClassId) (db : Value) (v60 : Int32) (hv60 : v60 = (p0 &&& (7 : Int32))) (v64 : Int32) (hv64 : v64 = (own_f1 (p1 &&& (3 : Int32)) v60)) (v96 : Int32) (hv96 : v96 = (if v60 = (0 : Int32) then (1 : Int32) else (0 : Int32))) (hc100 : ¬ ((0 : Int32) < v64)) : ¬ ((2 : Int32) < v64) := by
  have dv96 : (v60 = (0 : Int32) ∧ (v96 = (1 : Int32))) ∨ (¬ (v60 = (0 : Int32)) ∧ (v96 = (0 : Int32))) := (if cq0 : v60 = (0 : Int32) then Or.inl ⟨cq0, (by rw [hv96, if_pos cq0])⟩ else Or.inr ⟨cq0, (by rw [hv96, if_neg cq0])⟩)
  clear hv96
  generalize hex1 : (p0 &&& (7 : Int32)) = ex1 at *
  generalize hex2 : (p1 &&& (3 : Int32)) = ex2 at *
  have fc3 := own_f1_cases ex2 v60
  generalize own_f1 ex2 v60 = ex3 at *
  try simp only [Int32.reduceAdd, Int32.reduceSub, Int32.reduceMul, Int64.reduceAdd, Int64.reduceSub, Int64.reduceMul, Int32.lt_iff_toInt_lt, Int64.lt_iff_toInt_lt, ← Int32.toInt_inj, ← Int64.toInt_inj, Int32.reduceToInt, Int64.reduceToInt, not_true_eq_false, not_false_eq_true, false_and, and_false, true_and, and_true, false_or, or_false, true_or, or_true] at dv96
  try simp only [Int32.reduceAdd, Int32.reduceSub, Int32.reduceMul, Int64.reduceAdd, Int64.reduceSub, Int64.reduceMul, Int32.lt_iff_toInt_lt, Int64.lt_iff_toInt_lt, ← Int32.toInt_inj, ← Int64.toInt_inj, Int32.reduceToInt, Int64.reduceToInt, not_true_eq_false, not_false_eq_true, false_and, and_false, true_and, and_true, false_or, or_false, true_or, or_true] at hv60
  try simp only [Int32.reduceAdd, Int32.reduceSub, Int32.reduceMul, Int64.reduceAdd, Int64.reduceSub, Int64.reduceMul, Int32.lt_iff_toInt_lt, Int64.lt_iff_toInt_lt, ← Int32.toInt_inj, ← Int64.toInt_inj, Int32.reduceToInt, Int64.reduceToInt, not_true_eq_false, not_false_eq_true, false_and, and_false, true_and, and_true, false_or, or_false, true_or, or_true] at hv64
  try simp only [Int32.reduceAdd, Int32.reduceSub, Int32.reduceMul, Int64.reduceAdd, Int64.reduceSub, Int64.reduceMul, Int32.lt_iff_toInt_lt, Int64.lt_iff_toInt_lt, ← Int32.toInt_inj, ← Int64.toInt_inj, Int32.reduceToInt, Int64.reduceToInt, not_true_eq_false, not_false_eq_true, false_and, and_false, true_and, and_true, false_or, or_false, true_or, or_true] at hc100
  try simp only [Int32.reduceAdd, Int32.reduceSub, Int32.reduceMul, Int64.reduceAdd, Int64.reduceSub, Int64.reduceMul, Int32.lt_iff_toInt_lt, Int64.lt_iff_toInt_lt, ← Int32.toInt_inj, ← Int64.toInt_inj, Int32.reduceToInt, Int64.reduceToInt, not_true_eq_false, not_false_eq_true, false_and, and_false, true_and, and_true, false_or, or_false, true_or, or_true]
  have := Int32.le_toInt p0; have := Int32.toInt_lt p0
  have := Int32.le_toInt p1; have := Int32.toInt_lt p1
  have := Int32.le_toInt v60; have := Int32.toInt_lt v60
  have := Int32.le_toInt v64; have := Int32.toInt_lt v64
  have := Int32.le_toInt v96; have := Int32.toInt_lt v96
  have bl1 := Int32.le_toInt ex1; have bu1 := Int32.toInt_lt ex1
  have fa1 := c_mask p0 (7 : Int32) 3 (by decide) (by decide); rw [hex1] at fa1; try simp only [Int32.reduceAdd, Int32.reduceSub, Int32.reduceToInt, Int64.reduceToInt] at fa1
  clear hex1
  have bl2 := Int32.le_toInt ex2; have bu2 := Int32.toInt_lt ex2
  have fa2 := c_mask p1 (3 : Int32) 2 (by decide) (by decide); rw [hex2] at fa2; try simp only [Int32.reduceAdd, Int32.reduceSub, Int32.reduceToInt, Int64.reduceToInt] at fa2
  clear hex2
  try simp only [Int32.reduceAdd, Int32.reduceSub, Int32.reduceMul, Int64.reduceAdd, Int64.reduceSub, Int64.reduceMul, Int32.lt_iff_toInt_lt, Int64.lt_iff_toInt_lt, ← Int32.toInt_inj, ← Int64.toInt_inj, Int32.reduceToInt, Int64.reduceToInt, not_true_eq_false, not_false_eq_true, false_and, and_false, true_and, and_true, false_or, or_false, true_or, or_true] at fc3
  all_goals omega
set_option maxRecDepth 65536 in
set_option maxHeartbeats 40000000 in
theorem own_side205 (p0 : Int32) (p1 : Int32) (v60 : Int32) (hv60 : v60 = (p0 &&& (7 : Int32))) (v64 : Int32) (hv64 : v64 = (own_f1 (p1 &&& (3 : Int32)) v60)) (hc100 : ¬ ((0 : Int32) < v64)) (v203 : Int32) (hv203 : v203 = (if v64 = v60 then (1 : Int32) else (0 : Int32))) : (own_f4 (0 : Int32) v60) = v203 := by
  have dv203 : (v64 = v60 ∧ (v203 = (1 : Int32))) ∨ (¬ (v64 = v60) ∧ (v203 = (0 : Int32))) := (if cq0 : v64 = v60 then Or.inl ⟨cq0, (by rw [hv203, if_pos cq0])⟩ else Or.inr ⟨cq0, (by rw [hv203, if_neg cq0])⟩)
  clear hv203
  generalize hex1 : (p0 &&& (7 : Int32)) = ex1 at *
  generalize hex2 : (p1 &&& (3 : Int32)) = ex2 at *
  have fc3 := own_f1_cases ex2 v60
  generalize own_f1 ex2 v60 = ex3 at *
  have fc4 := own_f4_cases (0 : Int32) v60
  generalize own_f4 (0 : Int32) v60 = ex4 at *
  try simp only [Int32.reduceAdd, Int32.reduceSub, Int32.reduceMul, Int64.reduceAdd, Int64.reduceSub, Int64.reduceMul, Int32.lt_iff_toInt_lt, Int64.lt_iff_toInt_lt, ← Int32.toInt_inj, ← Int64.toInt_inj, Int32.reduceToInt, Int64.reduceToInt, not_true_eq_false, not_false_eq_true, false_and, and_false, true_and, and_true, false_or, or_false, true_or, or_true] at dv203
  try simp only [Int32.reduceAdd, Int32.reduceSub, Int32.reduceMul, Int64.reduceAdd, Int64.reduceSub, Int64.reduceMul, Int32.lt_iff_toInt_lt, Int64.lt_iff_toInt_lt, ← Int32.toInt_inj, ← Int64.toInt_inj, Int32.reduceToInt, Int64.reduceToInt, not_true_eq_false, not_false_eq_true, false_and, and_false, true_and, and_true, false_or, or_false, true_or, or_true] at hv60
  try simp only [Int32.reduceAdd, Int32.reduceSub, Int32.reduceMul, Int64.reduceAdd, Int64.reduceSub, Int64.reduceMul, Int32.lt_iff_toInt_lt, Int64.lt_iff_toInt_lt, ← Int32.toInt_inj, ← Int64.toInt_inj, Int32.reduceToInt, Int64.reduceToInt, not_true_eq_false, not_false_eq_true, false_and, and_false, true_and, and_true, false_or, or_false, true_or, or_true] at hv64
  try simp only [Int32.reduceAdd, Int32.reduceSub, Int32.reduceMul, Int64.reduceAdd, Int64.reduceSub, Int64.reduceMul, Int32.lt_iff_toInt_lt, Int64.lt_iff_toInt_lt, ← Int32.toInt_inj, ← Int64.toInt_inj, Int32.reduceToInt, Int64.reduceToInt, not_true_eq_false, not_false_eq_true, false_and, and_false, true_and, and_true, false_or, or_false, true_or, or_true] at hc100
  try simp only [Int32.reduceAdd, Int32.reduceSub, Int32.reduceMul, Int64.reduceAdd, Int64.reduceSub, Int64.reduceMul, Int32.lt_iff_toInt_lt, Int64.lt_iff_toInt_lt, ← Int32.toInt_inj, ← Int64.toInt_inj, Int32.reduceToInt, Int64.reduceToInt, not_true_eq_false, not_false_eq_true, false_and, and_false, true_and, and_true, false_or, or_false, true_or, or_true]
  have := Int32.le_toInt p0; have := Int32.toInt_lt p0
  have := Int32.le_toInt p1; have := Int32.toInt_lt p1
  have := Int32.le_toInt v60; have := Int32.toInt_lt v60
  have := Int32.le_toInt v64; have := Int32.toInt_lt v64
  have := Int32.le_toInt v203; have := Int32.toInt_lt v203
  have bl1 := Int32.le_toInt ex1; have bu1 := Int32.toInt_lt ex1
  have fa1 := c_mask p0 (7 : Int32) 3 (by decide) (by decide); rw [hex1] at fa1; try simp only [Int32.reduceAdd, Int32.reduceSub, Int32.reduceToInt, Int64.reduceToInt] at fa1
  clear hex1
  have bl2 := Int32.le_toInt ex2; have bu2 := Int32.toInt_lt ex2
  have fa2 := c_mask p1 (3 : Int32) 2 (by decide) (by decide); rw [hex2] at fa2; try simp only [Int32.reduceAdd, Int32.reduceSub, Int32.reduceToInt, Int64.reduceToInt] at fa2
  clear hex2
  try simp only [Int32.reduceAdd, Int32.reduceSub, Int32.reduceMul, Int64.reduceAdd, Int64.reduceSub, Int64.reduceMul, Int32.lt_iff_toInt_lt, Int64.lt_iff_toInt_lt, ← Int32.toInt_inj, ← Int64.toInt_inj, Int32.reduceToInt, Int64.reduceToInt, not_true_eq_false, not_false_eq_true, false_and, and_false, true_and, and_true, false_or, or_false, true_or, or_true] at fc3
  try simp only [Int32.reduceAdd, Int32.reduceSub, Int32.reduceMul, Int64.reduceAdd, Int64.reduceSub, Int64.reduceMul, Int32.lt_iff_toInt_lt, Int64.lt_iff_toInt_lt, ← Int32.toInt_inj, ← Int64.toInt_inj, Int32.reduceToInt, Int64.reduceToInt, not_true_eq_false, not_false_eq_true, false_and, and_false, true_and, and_true, false_or, or_false, true_or, or_true] at fc4
  all_goals omega
theorem own_pn83 : plainName "com/example/all1/all1/BuilderIsFullPinLaw" = true := by first | (simp [plainName, overriddenIn]; done) | decide +kernel
theorem own_ef0 (m : MethodId) (p0 : Int32) (p1 : Int32) : entryFrame m #[(.int p0), (.int p1)] maxLocals = mkF m 0 #[.val (.int p0), .val (.int p1), .unset, .unset, .unset, .unset, .unset] [] := by first | (simp [entryFrame, mkF, argsToLocals, Value.category, maxLocals]; done) | rfl
def own_Q0 (Z : State) (p0 : Int32) (p1 : Int32) (aE : Addr) (ba : Addr) (kb : ClassId) (db : Value) (h0 : Heap) (n0 : Nat) (v : Option Value) (h : Heap) (L : List Loc) : Prop := v = some (.int 1) ∧ Fr n0 L
set_option maxRecDepth 65536 in
set_option maxHeartbeats 40000000 in
theorem own_rm0 (l : Launch) (Z : State) (av : Array Value) (hw : ∀ d ∈ tables_1, d.before av Z = true) (ws : List Jvm.Cond) (p0 : Int32) (p1 : Int32) (aE : Addr) (ba : Addr) (kb : ClassId) (db : Value) (h0 : Heap) (n0 : Nat) (Z0 : n0 ≤ h0.size) (pr0 : Sta Z h0 "com/example/all1/all1/Bytes" "EMPTY" "Lcom/example/all1/all1/Bytes;" (.ref aE)) (pr1 : Exa Z h0 aE "com/example/all1/all1/Bytes") (pr2 : Fld Z h0 aE "com/example/all1/all1/Bytes" "bytes" "[B" (.ref ba)) (pr3 : Arv Z h0 ba kb .byte (0 : Int32) [] db) :
    MetFree l x (head1 (Jvm.Cond.code x code maxLocals ret :: ws) room_1) (fun a U => a = #[(.int p0), (.int p1)] ∧ Z.Warmed39 U.vm ∧ U.heap = h0) (fun _ _ _ _ _ => True) (fun _ U o U' => ∃ v L, o = .returned v ∧ own_Q0 Z p0 p1 aE ba kb db h0 n0 v U'.heap L ∧ FrameEnd U o U' L room_1.cells room_1.slots) := by
  refine MetFree.of_bodySF (plainFor_of_name own_pn83) hisR ?_
  intro p e s m args below meth c s₁ Bd hml0 hP hK
  obtain ⟨rfl, hZ, hh⟩ := hP
  have hx := Bd.exec
  have hby := Bd.bytes
  have hml : c.maxLocals = 7 := hml0
  have hown : s.vm.findClass "com/example/all1/all1/BuilderIsFullPinLaw" = some m.cls := findClass_of_methodNamed Bd.named
  have hnm := (name_of_methodNamed Bd.named Bd.method).1
  have X0 : Stand p l e room_1 s m #[(.int p0), (.int p1)] below meth c s₁ [] 0 0 := Stand.of_body Bd
  have e0 : s₁.heap = h0 := by rw [← hh, Bd.state]; rfl
  have N0 := Fr.nil n0
  have pre0 : ∀ t, Steps p.tables e below (s₁.setTop (mkF m 0 #[.val (.int p0), .val (.int p1), .unset, .unset, .unset, .unset, .unset] [])) t → Steps p.tables e below (s₁.setTop (entryFrame m #[(.int p0), (.int p1)] maxLocals)) t := fun t k => castTop (own_ef0 m p0 p1) k
  obtain ⟨v60, hv60⟩ : ∃ z : Int32, z = (p0 &&& (7 : Int32)) := ⟨_, rfl⟩
  obtain ⟨_, _, ⟨T61, L61, k61, n61⟩, -, X61, ⟨Lc61, hQ61, l61, y61, z61⟩, st61⟩ := Jvm.LawKit.callS X0 hx (y := (⟨"java/lang/Math", "min", "(II)I"⟩ : MethodName)) hown (mvT hZ (hw _ (List.mem_of_getElem? (i := 0) rfl))) (mvT hZ (hw _ (List.mem_of_getElem? (i := 1) rfl))) (mvT hZ (hw _ (List.mem_of_getElem? (i := 2) rfl))) (mvT hZ (hw _ (List.mem_of_getElem? (i := 3) rfl))) (by decide) (backOf (W := 0) (own_rm1 l Z av hw [] (p1 &&& (3 : Int32)) v60 h0 n0 Z0 ) hZ (hw _ (List.mem_of_getElem? (i := 3) rfl)) (hw _ (List.mem_of_getElem? (i := 2) rfl)) (by decide) (by decide)) (g := (mkF m 9 #[.val (.int p0), .val (.int p1), .val (.int v60), .unset, .unset, .unset, .unset] [(.int v60), (.int (p1 &&& (3 : Int32)))])) rfl (by rw [hml]; rfl) (argsL := [(.int (p1 &&& (3 : Int32))), (.int v60)]) (rest := []) (lenOf own_pd3 rfl) rfl (by show 2 * 0 + _ ≤ _; exact Nat.le_of_eq rfl) (hb hby at_9) (fun _ _ => ⟨rfl, e0, (by decide : 0 + 0 ≤ _), (by decide : 0 + 0 ≤ _)⟩)
  dsimp only [Pt.U, Pt.locs, Pt.cells, Pt.slots] at X61 l61 y61 z61 st61 hQ61
  subst l61 y61 z61
  obtain ⟨rfl, N61q, e63⟩ := hQ61
  have N62 := Fr.app N0 N61q
  obtain ⟨v64, hv64⟩ : ∃ z : Int32, z = (own_f1 (p1 &&& (3 : Int32)) v60) := ⟨_, rfl⟩
  obtain ⟨T65, h65, X65, e65, E65, A65, D65, -, st65⟩ := newO X61 hx hZ hown (hw _ (List.mem_of_getElem? (i := 4) rfl)) (hw _ (List.mem_of_getElem? (i := 5) rfl)) (hw _ (List.mem_of_getElem? (i := 6) rfl)) e63 (g := (mkF m 13 #[.val (.int p0), .val (.int p1), .val (.int v60), .val (.int v64), .unset, .unset, .unset] [])) rfl (hb hby at_13) (by decide) (by decide)
  obtain ⟨b65, g65⟩ : ∃ z, z = h0.size := ⟨_, rfl⟩
  have ne_aE_b65 : aE ≠ b65 := Nat.ne_of_lt (Nat.lt_of_lt_of_le pr1.lt (Nat.le_of_eq g65.symm))
  have ne_ba_b65 : ba ≠ b65 := Nat.ne_of_lt (Nat.lt_of_lt_of_le pr3.lt (Nat.le_of_eq g65.symm))
  have g_b65 : n0 ≤ b65 := Nat.le_trans Z0 (Nat.le_of_eq g65.symm)
  have sz_b65 : h0.size ≤ b65 := Nat.le_trans (Keep.refl h0 []).1 (Nat.le_of_eq g65.symm)
  rw [← g65] at A65 D65 st65
  have f66 := pr0.ext E65
  have f67 := pr1.ext E65
  have f68 := pr2.ext E65
  have f69 := pr3.ext E65
  have z70 : n0 ≤ h65.size := Nat.le_trans Z0 E65.1
  have K71 : Keep h0 h65 [] := (Keep.refl h0 []).ext E65
  have f72 : Fld Z h65 b65 "com/example/all1/all1/RowFilter$Builder" "hashes" "[J" .null := D65 (Or.inr (hw _ (List.mem_of_getElem? (i := 15) rfl))) (ty := (.array .long)) (by decide)
  have f73 : Fld Z h65 b65 "com/example/all1/all1/RowFilter$Builder" "rows" "I" (.int (0 : Int32)) := D65 (Or.inl (hw _ (List.mem_of_getElem? (i := 25) rfl))) (ty := .int) (by decide)
  obtain ⟨_, _, ⟨T74, L74, k74, n74⟩, -, X74, ⟨Lc74, hQ74, l74, y74, z74⟩, st74⟩ := X65.specialBack hx (y := (⟨"com/example/all1/all1/RowFilter$Builder", "<init>", "(I)V"⟩ : MethodName)) rfl hown (mvT hZ (hw _ (List.mem_of_getElem? (i := 7) rfl))) (mvT hZ (hw _ (List.mem_of_getElem? (i := 8) rfl))) (mvT hZ (hw _ (List.mem_of_getElem? (i := 9) rfl))) (by decide) (backOf (W := 1) (own_rm2 l Z av hw [] b65 v60 h65 n0 z70 A65 f72 f73 g_b65 ((own_side75 p0 v60 hv60)) ((own_side76 p0 v60 hv60))) hZ (hw _ (List.mem_of_getElem? (i := 9) rfl)) (hw _ (List.mem_of_getElem? (i := 6) rfl)) (by decide) (by decide)) (g := (mkF m 18 #[.val (.int p0), .val (.int p1), .val (.int v60), .val (.int v64), .unset, .unset, .unset] [(.int v60), (.ref b65), (.ref b65)])) rfl (by rw [hml]; rfl) (Steps.refl _) (a := b65) (argsL := [(.int v60)]) (rest := [(.ref b65)]) (lenOf own_pd4 rfl) rfl (by show 2 * 0 + _ ≤ _; exact Nat.le_of_eq rfl) (hb hby at_18) (fun _ _ => ⟨rfl, e65, (by decide : 1 + 1 ≤ _), (by decide : 2 + 7 ≤ _)⟩)
  dsimp only [Pt.U, Pt.locs, Pt.cells, Pt.slots] at X74 l74 y74 z74 st74 hQ74
  subst l74 y74 z74
  obtain ⟨b77, kk78, rfl, N74q, K74, g_b77, sz74_b77, f80, f81, f82, f83⟩ := hQ74
  have ne_aE_b77 : aE ≠ b77 := Nat.ne_of_lt (Nat.lt_of_lt_of_le f67.lt sz74_b77)
  have ne_ba_b77 : ba ≠ b77 := Nat.ne_of_lt (Nat.lt_of_lt_of_le f69.lt sz74_b77)
  have ne_b65_b77 : b65 ≠ b77 := Nat.ne_of_lt (Nat.lt_of_lt_of_le A65.lt sz74_b77)
  have sz_b77 : h0.size ≤ b77 := Nat.le_trans K71.1 sz74_b77
  have f84 := own_staKeep f66 K74 (allS (own_nsE A65) all0)
  have f85 := f67.keep K74
  have f86 := f68.keep K74 (ninS ne_aE_b65 nin0)
  have f87 := f69.keep K74 (ninS ne_ba_b65 nin0)
  have K88 : Keep h0 T74.heap [] := K71.trans K74 (allS (Or.inr sz_b65) all0)
  have z89 : n0 ≤ T74.heap.size := Nat.le_trans z70 K74.1
  have N79 := Fr.app N62 N74q
  obtain ⟨T90, X90, e90, st90⟩ := getS2 X74 hx hZ hown (host := "") (Or.inl (hw _ (List.mem_of_getElem? (i := 16) rfl))) Via.refl rfl f84 (g := (mkF m 23 #[.val (.int p0), .val (.int p1), .val (.int v60), .val (.int v64), .val (.ref b65), .unset, .unset] [])) rfl (hb hby at_23)
  obtain ⟨cq91, kq91, q91a, q91b, q91c⟩ := isOf hZ e90 f80
  obtain ⟨_, _, ⟨T91, L91, k91, n91⟩, -, X91, ⟨Lc91, hQ91, l91, y91, z91⟩, st91⟩ := X90.virtualBack hx (y := (⟨"com/example/all1/all1/RowFilter$Builder", "isFull", "()Z"⟩ : MethodName)) (z := (⟨"com/example/all1/all1/RowFilter$Builder", "isFull", "()Z"⟩ : MethodName)) hown (mvT hZ (hw _ (List.mem_of_getElem? (i := 19) rfl))) (mvT hZ (hw _ (List.mem_of_getElem? (i := 20) rfl))) (notFace_of_selects (args := #[]) (mvT hZ (hw _ (List.mem_of_getElem? (i := 22) rfl)))) (mvT hZ (hw _ (List.mem_of_getElem? (i := 22) rfl))) (mvT hZ (hw _ (List.mem_of_getElem? (i := 21) rfl))) (by decide) (backOf (W := 0) (own_rm4 l Z av hw [] b65 ((0 : Int32)) (b77) (kk78) (v60) ([(.long (0 : Int64)), (.long (0 : Int64)), (.long (0 : Int64)), (.long (0 : Int64)), (.long (0 : Int64)), (.long (0 : Int64)), (.long (0 : Int64))]) ((.long (0 : Int64))) T74.heap n0 z89 f82 f81 f83) hZ (hw _ (List.mem_of_getElem? (i := 23) rfl)) (hw _ (List.mem_of_getElem? (i := 6) rfl)) (by decide) (by decide)) q91a q91c (g := (mkF m 30 #[.val (.int p0), .val (.int p1), .val (.int v60), .val (.int v64), .val (.ref b65), .val (.ref aE), .unset] [(.ref b65)])) rfl (by rw [hml]; rfl) (Steps.refl _) (argsL := []) (rest := []) (lenOf own_pd1 rfl) rfl (by show 2 * 0 + _ ≤ _; exact Nat.le_of_eq rfl) (hb hby at_30) (fun _ _ => ⟨rfl, e90, (by decide : 2 + 0 ≤ _), (by decide : 9 + 0 ≤ _)⟩)
  dsimp only [Pt.U, Pt.locs, Pt.cells, Pt.slots] at X91 l91 y91 z91 st91 hQ91
  subst l91 y91 z91
  obtain ⟨rfl, N91q, e93⟩ := hQ91
  have N92 := Fr.app N79 N91q
  have pre94 : ∀ t, Steps p.tables e below (T91.setTop (mkF m 34 #[.val (.int p0), .val (.int p1), .val (.int v60), .val (.int v64), .val (.ref b65), .val (.ref aE), .unset] [(.int v60), (.int (own_f4 (0 : Int32) v60))])) t → Steps p.tables e below (s₁.setTop (entryFrame m #[(.int p0), (.int p1)] maxLocals)) t := fun t kk => pre0 t (by
    show Steps p.tables e below (s₁.setTop (mkF m 0 #[.val (.int p0), .val (.int p1), .unset, .unset, .unset, .unset, .unset] [])) _
    refine XS.iloadN X0.here hx rfl (hb hby at_0) rfl ?_
    show Steps p.tables e below (s₁.setTop (mkF m 1 #[.val (.int p0), .val (.int p1), .unset, .unset, .unset, .unset, .unset] [(.int p0)])) _
    refine XS.bipush X0.here hx rfl (hb hby at_1) ?_
    show Steps p.tables e below (s₁.setTop (mkF m 3 #[.val (.int p0), .val (.int p1), .unset, .unset, .unset, .unset, .unset] [(.int (7 : Int32)), (.int p0)])) _
    refine XS.iand X0.here hx rfl (hb hby at_3) rfl ?_
    show Steps p.tables e below (s₁.setTop (mkF m 4 #[.val (.int p0), .val (.int p1), .unset, .unset, .unset, .unset, .unset] [(.int (p0 &&& (7 : Int32)))])) _
    refine castTop (congrArg (fun z : Int32 => mkF m 4 #[.val (.int p0), .val (.int p1), .unset, .unset, .unset, .unset, .unset] [(.int z)]) hv60.symm) ?_
    show Steps p.tables e below (s₁.setTop (mkF m 4 #[.val (.int p0), .val (.int p1), .unset, .unset, .unset, .unset, .unset] [(.int v60)])) _
    refine XS.istoreN X0.here hx rfl (hb hby at_4) rfl (l' := #[.val (.int p0), .val (.int p1), .val (.int v60), .unset, .unset, .unset, .unset]) rfl ?_
    show Steps p.tables e below (s₁.setTop (mkF m 5 #[.val (.int p0), .val (.int p1), .val (.int v60), .unset, .unset, .unset, .unset] [])) _
    refine XS.iloadN X0.here hx rfl (hb hby at_5) rfl ?_
    show Steps p.tables e below (s₁.setTop (mkF m 6 #[.val (.int p0), .val (.int p1), .val (.int v60), .unset, .unset, .unset, .unset] [(.int p1)])) _
    refine XS.iconst X0.here hx rfl (hb hby at_6) ?_
    show Steps p.tables e below (s₁.setTop (mkF m 7 #[.val (.int p0), .val (.int p1), .val (.int v60), .unset, .unset, .unset, .unset] [(.int (3 : Int32)), (.int p1)])) _
    refine XS.iand X0.here hx rfl (hb hby at_7) rfl ?_
    show Steps p.tables e below (s₁.setTop (mkF m 8 #[.val (.int p0), .val (.int p1), .val (.int v60), .unset, .unset, .unset, .unset] [(.int (p1 &&& (3 : Int32)))])) _
    refine XS.iloadN X0.here hx rfl (hb hby at_8) rfl ?_
    show Steps p.tables e below (s₁.setTop (mkF m 9 #[.val (.int p0), .val (.int p1), .val (.int v60), .unset, .unset, .unset, .unset] [(.int v60), (.int (p1 &&& (3 : Int32)))])) _
    refine st61 _ ?_
    show Steps p.tables e below (T61.setTop (mkF m 12 #[.val (.int p0), .val (.int p1), .val (.int v60), .unset, .unset, .unset, .unset] [(.int (own_f1 (p1 &&& (3 : Int32)) v60))])) _
    refine castTop (congrArg (fun z : Int32 => mkF m 12 #[.val (.int p0), .val (.int p1), .val (.int v60), .unset, .unset, .unset, .unset] [(.int z)]) hv64.symm) ?_
    show Steps p.tables e below (T61.setTop (mkF m 12 #[.val (.int p0), .val (.int p1), .val (.int v60), .unset, .unset, .unset, .unset] [(.int v64)])) _
    refine XS.istoreN X61.here hx rfl (hb hby at_12) rfl (l' := #[.val (.int p0), .val (.int p1), .val (.int v60), .val (.int v64), .unset, .unset, .unset]) rfl ?_
    show Steps p.tables e below (T61.setTop (mkF m 13 #[.val (.int p0), .val (.int p1), .val (.int v60), .val (.int v64), .unset, .unset, .unset] [])) _
    refine st65 _ ?_
    show Steps p.tables e below (T65.setTop (mkF m 16 #[.val (.int p0), .val (.int p1), .val (.int v60), .val (.int v64), .unset, .unset, .unset] [(.ref b65)])) _
    refine XS.dup X65.here hx rfl (hb hby at_16) rfl rfl ?_
    show Steps p.tables e below (T65.setTop (mkF m 17 #[.val (.int p0), .val (.int p1), .val (.int v60), .val (.int v64), .unset, .unset, .unset] [(.ref b65), (.ref b65)])) _
    refine XS.iloadN X65.here hx rfl (hb hby at_17) rfl ?_
    show Steps p.tables e below (T65.setTop (mkF m 18 #[.val (.int p0), .val (.int p1), .val (.int v60), .val (.int v64), .unset, .unset, .unset] [(.int v60), (.ref b65), (.ref b65)])) _
    refine st74.trans ?_
    show Steps p.tables e below (T74.setTop (mkF m 21 #[.val (.int p0), .val (.int p1), .val (.int v60), .val (.int v64), .unset, .unset, .unset] [(.ref b65)])) _
    refine XS.astore X74.here hx rfl (hb hby at_21) rfl rfl (l' := #[.val (.int p0), .val (.int p1), .val (.int v60), .val (.int v64), .val (.ref b65), .unset, .unset]) rfl ?_
    show Steps p.tables e below (T74.setTop (mkF m 23 #[.val (.int p0), .val (.int p1), .val (.int v60), .val (.int v64), .val (.ref b65), .unset, .unset] [])) _
    refine st90 _ ?_
    show Steps p.tables e below (T90.setTop (mkF m 26 #[.val (.int p0), .val (.int p1), .val (.int v60), .val (.int v64), .val (.ref b65), .unset, .unset] [(.ref aE)])) _
    refine XS.astore X90.here hx rfl (hb hby at_26) rfl rfl (l' := #[.val (.int p0), .val (.int p1), .val (.int v60), .val (.int v64), .val (.ref b65), .val (.ref aE), .unset]) rfl ?_
    show Steps p.tables e below (T90.setTop (mkF m 28 #[.val (.int p0), .val (.int p1), .val (.int v60), .val (.int v64), .val (.ref b65), .val (.ref aE), .unset] [])) _
    refine XS.aload X90.here hx rfl (hb hby at_28) rfl rfl ?_
    show Steps p.tables e below (T90.setTop (mkF m 30 #[.val (.int p0), .val (.int p1), .val (.int v60), .val (.int v64), .val (.ref b65), .val (.ref aE), .unset] [(.ref b65)])) _
    refine st91.trans ?_
    show Steps p.tables e below (T91.setTop (mkF m 33 #[.val (.int p0), .val (.int p1), .val (.int v60), .val (.int v64), .val (.ref b65), .val (.ref aE), .unset] [(.int (own_f4 (0 : Int32) v60))])) _
    refine XS.iloadN X91.here hx rfl (hb hby at_33) rfl ?_
    show Steps p.tables e below (T91.setTop (mkF m 34 #[.val (.int p0), .val (.int p1), .val (.int v60), .val (.int v64), .val (.ref b65), .val (.ref aE), .unset] [(.int v60), (.int (own_f4 (0 : Int32) v60))])) _
    exact kk)
  obtain ⟨v96, hv96⟩ : ∃ z : Int32, z = (if v60 = (0 : Int32) then (1 : Int32) else (0 : Int32)) := ⟨_, rfl⟩
  have pre97 : ∀ t, Steps p.tables e below (T91.setTop (mkF m 42 #[.val (.int p0), .val (.int p1), .val (.int v60), .val (.int v64), .val (.ref b65), .val (.ref aE), .unset] [(.int v96), (.int (own_f4 (0 : Int32) v60))])) t → Steps p.tables e below (s₁.setTop (entryFrame m #[(.int p0), (.int p1)] maxLocals)) t := fun t kk => pre94 t (by
    show Steps p.tables e below (T91.setTop (mkF m 34 #[.val (.int p0), .val (.int p1), .val (.int v60), .val (.int v64), .val (.ref b65), .val (.ref aE), .unset] [(.int v60), (.int (own_f4 (0 : Int32) v60))])) _
    by_cases hc95 : v60 = (0 : Int32)
    · refine XS.ifNo X91.here hx rfl (hb hby at_34) rfl ((if0 _ _).trans (teq hc95).2) ?_
      show Steps p.tables e below (T91.setTop (mkF m 37 #[.val (.int p0), .val (.int p1), .val (.int v60), .val (.int v64), .val (.ref b65), .val (.ref aE), .unset] [(.int (own_f4 (0 : Int32) v60))])) _
      refine XS.iconst X91.here hx rfl (hb hby at_37) ?_
      show Steps p.tables e below (T91.setTop (mkF m 38 #[.val (.int p0), .val (.int p1), .val (.int v60), .val (.int v64), .val (.ref b65), .val (.ref aE), .unset] [(.int (1 : Int32)), (.int (own_f4 (0 : Int32) v60))])) _
      refine XS.goto X91.here hx rfl (pc0 := 38) (pc' := 42) rfl (hb hby at_38) (by decide) (by decide) ?_
      rw [show v96 = (1 : Int32) by rw [hv96, if_pos hc95]] at kk
      exact kk
    · refine XS.ifYes X91.here hx rfl (pc0 := 34) (pc' := 41) rfl (hb hby at_34) rfl ((if0 _ _).trans (feq hc95).2) (by decide) (by decide) ?_
      show Steps p.tables e below (T91.setTop (mkF m 41 #[.val (.int p0), .val (.int p1), .val (.int v60), .val (.int v64), .val (.ref b65), .val (.ref aE), .unset] [(.int (own_f4 (0 : Int32) v60))])) _
      refine XS.iconst X91.here hx rfl (hb hby at_41) ?_
      rw [show v96 = (0 : Int32) by rw [hv96, if_neg hc95]] at kk
      exact kk)
  have pre99 : ∀ t, Steps p.tables e below (T91.setTop (mkF m 53 #[.val (.int p0), .val (.int p1), .val (.int v60), .val (.int v64), .val (.ref b65), .val (.ref aE), .val (.int (1 : Int32))] [(.int v64)])) t → Steps p.tables e below (s₁.setTop (entryFrame m #[(.int p0), (.int p1)] maxLocals)) t := fun t kk => pre97 t (by
    show Steps p.tables e below (T91.setTop (mkF m 42 #[.val (.int p0), .val (.int p1), .val (.int v60), .val (.int v64), .val (.ref b65), .val (.ref aE), .unset] [(.int v96), (.int (own_f4 (0 : Int32) v60))])) _
    refine XS.icmpNo X91.here hx rfl (hb hby at_42) rfl (teq ((own_side98 p0 v60 hv60 v96 hv96) : (own_f4 (0 : Int32) v60) = v96)).2 ?_
    show Steps p.tables e below (T91.setTop (mkF m 45 #[.val (.int p0), .val (.int p1), .val (.int v60), .val (.int v64), .val (.ref b65), .val (.ref aE), .unset] [])) _
    refine XS.iconst X91.here hx rfl (hb hby at_45) ?_
    show Steps p.tables e below (T91.setTop (mkF m 46 #[.val (.int p0), .val (.int p1), .val (.int v60), .val (.int v64), .val (.ref b65), .val (.ref aE), .unset] [(.int (1 : Int32))])) _
    refine XS.goto X91.here hx rfl (pc0 := 46) (pc' := 50) rfl (hb hby at_46) (by decide) (by decide) ?_
    show Steps p.tables e below (T91.setTop (mkF m 50 #[.val (.int p0), .val (.int p1), .val (.int v60), .val (.int v64), .val (.ref b65), .val (.ref aE), .unset] [(.int (1 : Int32))])) _
    refine XS.istore X91.here hx rfl (hb hby at_50) rfl (l' := #[.val (.int p0), .val (.int p1), .val (.int v60), .val (.int v64), .val (.ref b65), .val (.ref aE), .val (.int (1 : Int32))]) rfl ?_
    show Steps p.tables e below (T91.setTop (mkF m 52 #[.val (.int p0), .val (.int p1), .val (.int v60), .val (.int v64), .val (.ref b65), .val (.ref aE), .val (.int (1 : Int32))] [])) _
    refine XS.iloadN X91.here hx rfl (hb hby at_52) rfl ?_
    show Steps p.tables e below (T91.setTop (mkF m 53 #[.val (.int p0), .val (.int p1), .val (.int v60), .val (.int v64), .val (.ref b65), .val (.ref aE), .val (.int (1 : Int32))] [(.int v64)])) _
    exact kk)
  by_cases hc100 : (0 : Int32) < v64
  · obtain ⟨cq101, kq101, q101a, q101b, q101c⟩ := isOf hZ e93 f80
    obtain ⟨_, _, ⟨T101, L101, k101, n101⟩, -, X101, ⟨Lc101, hQ101, l101, y101, z101⟩, st101⟩ := X91.virtualBack hx (y := (⟨"com/example/all1/all1/RowFilter$Builder", "add", "(Lcom/example/all1/all1/Bytes;)V"⟩ : MethodName)) (z := (⟨"com/example/all1/all1/RowFilter$Builder", "add", "(Lcom/example/all1/all1/Bytes;)V"⟩ : MethodName)) hown (mvT hZ (hw _ (List.mem_of_getElem? (i := 26) rfl))) (mvT hZ (hw _ (List.mem_of_getElem? (i := 27) rfl))) (notFace_of_selects (args := #[]) (mvT hZ (hw _ (List.mem_of_getElem? (i := 29) rfl)))) (mvT hZ (hw _ (List.mem_of_getElem? (i := 29) rfl))) (mvT hZ (hw _ (List.mem_of_getElem? (i := 28) rfl))) (by decide) (backOf (W := 0) (own_rm5 l Z av hw [] b65 aE ((0 : Int32)) (b77) (kk78) (v60) ([(.long (0 : Int64)), (.long (0 : Int64)), (.long (0 : Int64)), (.long (0 : Int64)), (.long (0 : Int64)), (.long (0 : Int64)), (.long (0 : Int64))]) ((.long (0 : Int64))) (ba) (kb) (db) T74.heap n0 z89 f80 f82 f81 f83 f85 f86 f87 g_b65 g_b77 ne_b65_b77 ne_aE_b65 ne_ba_b65 ne_aE_b77 ne_ba_b77 ((own_side102 p0 p1 aE ba kb db v60 hv60 v64 hv64 v96 hv96 hc100)) ((own_side103 p0 p1 aE ba kb db v60 hv60 v64 hv64 v96 hv96 hc100)) ((by decide))) hZ (hw _ (List.mem_of_getElem? (i := 30) rfl)) (hw _ (List.mem_of_getElem? (i := 6) rfl)) (by decide) (by decide)) q101a q101c (g := (mkF m 60 #[.val (.int p0), .val (.int p1), .val (.int v60), .val (.int v64), .val (.ref b65), .val (.ref aE), .val (.int (1 : Int32))] [(.ref aE), (.ref b65)])) rfl (by rw [hml]; rfl) (Steps.refl _) (argsL := [(.ref aE)]) (rest := []) (lenOf own_pd5 rfl) rfl (by show 2 * 0 + _ ≤ _; exact Nat.le_of_eq rfl) (hb hby at_60) (fun _ _ => ⟨rfl, e93, (by decide : 2 + 0 ≤ _), (by decide : 9 + 0 ≤ _)⟩)
    dsimp only [Pt.U, Pt.locs, Pt.cells, Pt.slots] at X101 l101 y101 z101 st101 hQ101
    subst l101 y101 z101
    obtain ⟨rfl, N101q, K101, f105, f106, f107, f108⟩ := hQ101
    have f109 := own_staKeep f84 K101 (allS (own_nsE f80) (allS (own_nsA f83) all0))
    have f110 := f85.keep K101
    have f111 := f86.keep K101 (ninS ne_aE_b65 (ninS ne_aE_b77 nin0))
    have f112 := f87.keep K101 (ninS ne_ba_b65 (ninS ne_ba_b77 nin0))
    have K113 : Keep h0 T101.heap [] := K88.trans K101 (allS (Or.inr sz_b65) (allS (Or.inr sz_b77) all0))
    have z114 : n0 ≤ T101.heap.size := Nat.le_trans z89 K101.1
    have N104 := Fr.app N92 N101q
    obtain ⟨cq115, kq115, q115a, q115b, q115c⟩ := isOf hZ rfl f105
    obtain ⟨_, _, ⟨T115, L115, k115, n115⟩, -, X115, ⟨Lc115, hQ115, l115, y115, z115⟩, st115⟩ := X101.virtualBack hx (y := (⟨"com/example/all1/all1/RowFilter$Builder", "isFull", "()Z"⟩ : MethodName)) (z := (⟨"com/example/all1/all1/RowFilter$Builder", "isFull", "()Z"⟩ : MethodName)) hown (mvT hZ (hw _ (List.mem_of_getElem? (i := 19) rfl))) (mvT hZ (hw _ (List.mem_of_getElem? (i := 20) rfl))) (notFace_of_selects (args := #[]) (mvT hZ (hw _ (List.mem_of_getElem? (i := 22) rfl)))) (mvT hZ (hw _ (List.mem_of_getElem? (i := 22) rfl))) (mvT hZ (hw _ (List.mem_of_getElem? (i := 21) rfl))) (by decide) (backOf (W := 0) (own_rm4 l Z av hw [] b65 (((0 : Int32) + (1 : Int32))) (b77) (kk78) (v60) (([(.long (0 : Int64)), (.long (0 : Int64)), (.long (0 : Int64)), (.long (0 : Int64)), (.long (0 : Int64)), (.long (0 : Int64)), (.long (0 : Int64))].set ((0 : Int32)).toNatClampNeg (.long (own_f6 )))) ((.long (0 : Int64))) T101.heap n0 z114 f106 f107 f108) hZ (hw _ (List.mem_of_getElem? (i := 23) rfl)) (hw _ (List.mem_of_getElem? (i := 6) rfl)) (by decide) (by decide)) q115a q115c (g := (mkF m 70 #[.val (.int p0), .val (.int p1), .val (.int v60), .val (.int v64), .val (.ref b65), .val (.ref aE), .val (.int (1 : Int32))] [(.ref b65)])) rfl (by rw [hml]; rfl) (Steps.refl _) (argsL := []) (rest := []) (lenOf own_pd1 rfl) rfl (by show 2 * 0 + _ ≤ _; exact Nat.le_of_eq rfl) (hb hby at_70) (fun _ _ => ⟨rfl, rfl, (by decide : 2 + 0 ≤ _), (by decide : 9 + 0 ≤ _)⟩)
    dsimp only [Pt.U, Pt.locs, Pt.cells, Pt.slots] at X115 l115 y115 z115 st115 hQ115
    subst l115 y115 z115
    obtain ⟨rfl, N115q, e117⟩ := hQ115
    have N116 := Fr.app N104 N115q
    have pre118 : ∀ t, Steps p.tables e below (T115.setTop (mkF m 75 #[.val (.int p0), .val (.int p1), .val (.int v60), .val (.int v64), .val (.ref b65), .val (.ref aE), .val (.int (1 : Int32))] [(.int (1 : Int32)), (.int v60), (.int (own_f4 ((0 : Int32) + (1 : Int32)) v60))])) t → Steps p.tables e below (s₁.setTop (entryFrame m #[(.int p0), (.int p1)] maxLocals)) t := fun t kk => pre99 t (by
      show Steps p.tables e below (T91.setTop (mkF m 53 #[.val (.int p0), .val (.int p1), .val (.int v60), .val (.int v64), .val (.ref b65), .val (.ref aE), .val (.int (1 : Int32))] [(.int v64)])) _
      refine XS.ifNo X91.here hx rfl (hb hby at_53) rfl ((if0 _ _).trans (tlt hc100).2.2.2) ?_
      show Steps p.tables e below (T91.setTop (mkF m 56 #[.val (.int p0), .val (.int p1), .val (.int v60), .val (.int v64), .val (.ref b65), .val (.ref aE), .val (.int (1 : Int32))] [])) _
      refine XS.aload X91.here hx rfl (hb hby at_56) rfl rfl ?_
      show Steps p.tables e below (T91.setTop (mkF m 58 #[.val (.int p0), .val (.int p1), .val (.int v60), .val (.int v64), .val (.ref b65), .val (.ref aE), .val (.int (1 : Int32))] [(.ref b65)])) _
      refine XS.aload X91.here hx rfl (hb hby at_58) rfl rfl ?_
      show Steps p.tables e below (T91.setTop (mkF m 60 #[.val (.int p0), .val (.int p1), .val (.int v60), .val (.int v64), .val (.ref b65), .val (.ref aE), .val (.int (1 : Int32))] [(.ref aE), (.ref b65)])) _
      refine st101.trans ?_
      show Steps p.tables e below (T101.setTop (mkF m 63 #[.val (.int p0), .val (.int p1), .val (.int v60), .val (.int v64), .val (.ref b65), .val (.ref aE), .val (.int (1 : Int32))] [])) _
      refine XS.iload X101.here hx rfl (hb hby at_63) rfl ?_
      show Steps p.tables e below (T101.setTop (mkF m 65 #[.val (.int p0), .val (.int p1), .val (.int v60), .val (.int v64), .val (.ref b65), .val (.ref aE), .val (.int (1 : Int32))] [(.int (1 : Int32))])) _
      refine XS.ifNo X101.here hx rfl (hb hby at_65) rfl ((if0 _ _).trans (feq (by decide : ¬ ((1 : Int32) = (0 : Int32)))).1) ?_
      show Steps p.tables e below (T101.setTop (mkF m 68 #[.val (.int p0), .val (.int p1), .val (.int v60), .val (.int v64), .val (.ref b65), .val (.ref aE), .val (.int (1 : Int32))] [])) _
      refine XS.aload X101.here hx rfl (hb hby at_68) rfl rfl ?_
      show Steps p.tables e below (T101.setTop (mkF m 70 #[.val (.int p0), .val (.int p1), .val (.int v60), .val (.int v64), .val (.ref b65), .val (.ref aE), .val (.int (1 : Int32))] [(.ref b65)])) _
      refine st115.trans ?_
      show Steps p.tables e below (T115.setTop (mkF m 73 #[.val (.int p0), .val (.int p1), .val (.int v60), .val (.int v64), .val (.ref b65), .val (.ref aE), .val (.int (1 : Int32))] [(.int (own_f4 ((0 : Int32) + (1 : Int32)) v60))])) _
      refine XS.iloadN X115.here hx rfl (hb hby at_73) rfl ?_
      show Steps p.tables e below (T115.setTop (mkF m 74 #[.val (.int p0), .val (.int p1), .val (.int v60), .val (.int v64), .val (.ref b65), .val (.ref aE), .val (.int (1 : Int32))] [(.int v60), (.int (own_f4 ((0 : Int32) + (1 : Int32)) v60))])) _
      refine XS.iconst X115.here hx rfl (hb hby at_74) ?_
      show Steps p.tables e below (T115.setTop (mkF m 75 #[.val (.int p0), .val (.int p1), .val (.int v60), .val (.int v64), .val (.ref b65), .val (.ref aE), .val (.int (1 : Int32))] [(.int (1 : Int32)), (.int v60), (.int (own_f4 ((0 : Int32) + (1 : Int32)) v60))])) _
      exact kk)
    obtain ⟨v120, hv120⟩ : ∃ z : Int32, z = (if v60 = (1 : Int32) then (1 : Int32) else (0 : Int32)) := ⟨_, rfl⟩
    have pre121 : ∀ t, Steps p.tables e below (T115.setTop (mkF m 83 #[.val (.int p0), .val (.int p1), .val (.int v60), .val (.int v64), .val (.ref b65), .val (.ref aE), .val (.int (1 : Int32))] [(.int v120), (.int (own_f4 ((0 : Int32) + (1 : Int32)) v60))])) t → Steps p.tables e below (s₁.setTop (entryFrame m #[(.int p0), (.int p1)] maxLocals)) t := fun t kk => pre118 t (by
      show Steps p.tables e below (T115.setTop (mkF m 75 #[.val (.int p0), .val (.int p1), .val (.int v60), .val (.int v64), .val (.ref b65), .val (.ref aE), .val (.int (1 : Int32))] [(.int (1 : Int32)), (.int v60), (.int (own_f4 ((0 : Int32) + (1 : Int32)) v60))])) _
      by_cases hc119 : v60 = (1 : Int32)
      · refine XS.icmpNo X115.here hx rfl (hb hby at_75) rfl (teq hc119).2 ?_
        show Steps p.tables e below (T115.setTop (mkF m 78 #[.val (.int p0), .val (.int p1), .val (.int v60), .val (.int v64), .val (.ref b65), .val (.ref aE), .val (.int (1 : Int32))] [(.int (own_f4 ((0 : Int32) + (1 : Int32)) v60))])) _
        refine XS.iconst X115.here hx rfl (hb hby at_78) ?_
        show Steps p.tables e below (T115.setTop (mkF m 79 #[.val (.int p0), .val (.int p1), .val (.int v60), .val (.int v64), .val (.ref b65), .val (.ref aE), .val (.int (1 : Int32))] [(.int (1 : Int32)), (.int (own_f4 ((0 : Int32) + (1 : Int32)) v60))])) _
        refine XS.goto X115.here hx rfl (pc0 := 79) (pc' := 83) rfl (hb hby at_79) (by decide) (by decide) ?_
        rw [show v120 = (1 : Int32) by rw [hv120, if_pos hc119]] at kk
        exact kk
      · refine XS.icmpYes X115.here hx rfl (pc0 := 75) (pc' := 82) rfl (hb hby at_75) rfl (feq hc119).2 (by decide) (by decide) ?_
        show Steps p.tables e below (T115.setTop (mkF m 82 #[.val (.int p0), .val (.int p1), .val (.int v60), .val (.int v64), .val (.ref b65), .val (.ref aE), .val (.int (1 : Int32))] [(.int (own_f4 ((0 : Int32) + (1 : Int32)) v60))])) _
        refine XS.iconst X115.here hx rfl (hb hby at_82) ?_
        rw [show v120 = (0 : Int32) by rw [hv120, if_neg hc119]] at kk
        exact kk)
    have pre123 : ∀ t, Steps p.tables e below (T115.setTop (mkF m 95 #[.val (.int p0), .val (.int p1), .val (.int v60), .val (.int v64), .val (.ref b65), .val (.ref aE), .val (.int (1 : Int32))] [(.int (1 : Int32)), (.int v64)])) t → Steps p.tables e below (s₁.setTop (entryFrame m #[(.int p0), (.int p1)] maxLocals)) t := fun t kk => pre121 t (by
      show Steps p.tables e below (T115.setTop (mkF m 83 #[.val (.int p0), .val (.int p1), .val (.int v60), .val (.int v64), .val (.ref b65), .val (.ref aE), .val (.int (1 : Int32))] [(.int v120), (.int (own_f4 ((0 : Int32) + (1 : Int32)) v60))])) _
      refine XS.icmpNo X115.here hx rfl (hb hby at_83) rfl (teq ((own_side122 p0 v60 hv60 v120 hv120) : (own_f4 ((0 : Int32) + (1 : Int32)) v60) = v120)).2 ?_
      show Steps p.tables e below (T115.setTop (mkF m 86 #[.val (.int p0), .val (.int p1), .val (.int v60), .val (.int v64), .val (.ref b65), .val (.ref aE), .val (.int (1 : Int32))] [])) _
      refine XS.iconst X115.here hx rfl (hb hby at_86) ?_
      show Steps p.tables e below (T115.setTop (mkF m 87 #[.val (.int p0), .val (.int p1), .val (.int v60), .val (.int v64), .val (.ref b65), .val (.ref aE), .val (.int (1 : Int32))] [(.int (1 : Int32))])) _
      refine XS.goto X115.here hx rfl (pc0 := 87) (pc' := 91) rfl (hb hby at_87) (by decide) (by decide) ?_
      show Steps p.tables e below (T115.setTop (mkF m 91 #[.val (.int p0), .val (.int p1), .val (.int v60), .val (.int v64), .val (.ref b65), .val (.ref aE), .val (.int (1 : Int32))] [(.int (1 : Int32))])) _
      refine XS.istore X115.here hx rfl (hb hby at_91) rfl (l' := #[.val (.int p0), .val (.int p1), .val (.int v60), .val (.int v64), .val (.ref b65), .val (.ref aE), .val (.int (1 : Int32))]) rfl ?_
      show Steps p.tables e below (T115.setTop (mkF m 93 #[.val (.int p0), .val (.int p1), .val (.int v60), .val (.int v64), .val (.ref b65), .val (.ref aE), .val (.int (1 : Int32))] [])) _
      refine XS.iloadN X115.here hx rfl (hb hby at_93) rfl ?_
      show Steps p.tables e below (T115.setTop (mkF m 94 #[.val (.int p0), .val (.int p1), .val (.int v60), .val (.int v64), .val (.ref b65), .val (.ref aE), .val (.int (1 : Int32))] [(.int v64)])) _
      refine XS.iconst X115.here hx rfl (hb hby at_94) ?_
      show Steps p.tables e below (T115.setTop (mkF m 95 #[.val (.int p0), .val (.int p1), .val (.int v60), .val (.int v64), .val (.ref b65), .val (.ref aE), .val (.int (1 : Int32))] [(.int (1 : Int32)), (.int v64)])) _
      exact kk)
    by_cases hc124 : (1 : Int32) < v64
    · obtain ⟨cq125, kq125, q125a, q125b, q125c⟩ := isOf hZ e117 f105
      obtain ⟨_, _, ⟨T125, L125, k125, n125⟩, -, X125, ⟨Lc125, hQ125, l125, y125, z125⟩, st125⟩ := X115.virtualBack hx (y := (⟨"com/example/all1/all1/RowFilter$Builder", "add", "(Lcom/example/all1/all1/Bytes;)V"⟩ : MethodName)) (z := (⟨"com/example/all1/all1/RowFilter$Builder", "add", "(Lcom/example/all1/all1/Bytes;)V"⟩ : MethodName)) hown (mvT hZ (hw _ (List.mem_of_getElem? (i := 26) rfl))) (mvT hZ (hw _ (List.mem_of_getElem? (i := 27) rfl))) (notFace_of_selects (args := #[]) (mvT hZ (hw _ (List.mem_of_getElem? (i := 29) rfl)))) (mvT hZ (hw _ (List.mem_of_getElem? (i := 29) rfl))) (mvT hZ (hw _ (List.mem_of_getElem? (i := 28) rfl))) (by decide) (backOf (W := 0) (own_rm5 l Z av hw [] b65 aE (((0 : Int32) + (1 : Int32))) (b77) (kk78) (v60) (([(.long (0 : Int64)), (.long (0 : Int64)), (.long (0 : Int64)), (.long (0 : Int64)), (.long (0 : Int64)), (.long (0 : Int64)), (.long (0 : Int64))].set ((0 : Int32)).toNatClampNeg (.long (own_f6 )))) ((.long (0 : Int64))) (ba) (kb) (db) T101.heap n0 z114 f105 f106 f107 f108 f110 f111 f112 g_b65 g_b77 ne_b65_b77 ne_aE_b65 ne_ba_b65 ne_aE_b77 ne_ba_b77 ((own_side126 p0 p1 aE ba kb db v60 hv60 v64 hv64 v96 hv96 hc100 v120 hv120 hc124)) ((own_side127 p0 p1 aE ba kb db v60 hv60 v64 hv64 v96 hv96 hc100 v120 hv120 hc124)) ((by decide))) hZ (hw _ (List.mem_of_getElem? (i := 30) rfl)) (hw _ (List.mem_of_getElem? (i := 6) rfl)) (by decide) (by decide)) q125a q125c (g := (mkF m 102 #[.val (.int p0), .val (.int p1), .val (.int v60), .val (.int v64), .val (.ref b65), .val (.ref aE), .val (.int (1 : Int32))] [(.ref aE), (.ref b65)])) rfl (by rw [hml]; rfl) (Steps.refl _) (argsL := [(.ref aE)]) (rest := []) (lenOf own_pd5 rfl) rfl (by show 2 * 0 + _ ≤ _; exact Nat.le_of_eq rfl) (hb hby at_102) (fun _ _ => ⟨rfl, e117, (by decide : 2 + 0 ≤ _), (by decide : 9 + 0 ≤ _)⟩)
      dsimp only [Pt.U, Pt.locs, Pt.cells, Pt.slots] at X125 l125 y125 z125 st125 hQ125
      subst l125 y125 z125
      obtain ⟨rfl, N125q, K125, f129, f130, f131, f132⟩ := hQ125
      have f133 := own_staKeep f109 K125 (allS (own_nsE f105) (allS (own_nsA f108) all0))
      have f134 := f110.keep K125
      have f135 := f111.keep K125 (ninS ne_aE_b65 (ninS ne_aE_b77 nin0))
      have f136 := f112.keep K125 (ninS ne_ba_b65 (ninS ne_ba_b77 nin0))
      have K137 : Keep h0 T125.heap [] := K113.trans K125 (allS (Or.inr sz_b65) (allS (Or.inr sz_b77) all0))
      have z138 : n0 ≤ T125.heap.size := Nat.le_trans z114 K125.1
      have N128 := Fr.app N116 N125q
      obtain ⟨cq139, kq139, q139a, q139b, q139c⟩ := isOf hZ rfl f129
      obtain ⟨_, _, ⟨T139, L139, k139, n139⟩, -, X139, ⟨Lc139, hQ139, l139, y139, z139⟩, st139⟩ := X125.virtualBack hx (y := (⟨"com/example/all1/all1/RowFilter$Builder", "isFull", "()Z"⟩ : MethodName)) (z := (⟨"com/example/all1/all1/RowFilter$Builder", "isFull", "()Z"⟩ : MethodName)) hown (mvT hZ (hw _ (List.mem_of_getElem? (i := 19) rfl))) (mvT hZ (hw _ (List.mem_of_getElem? (i := 20) rfl))) (notFace_of_selects (args := #[]) (mvT hZ (hw _ (List.mem_of_getElem? (i := 22) rfl)))) (mvT hZ (hw _ (List.mem_of_getElem? (i := 22) rfl))) (mvT hZ (hw _ (List.mem_of_getElem? (i := 21) rfl))) (by decide) (backOf (W := 0) (own_rm4 l Z av hw [] b65 ((((0 : Int32) + (1 : Int32)) + (1 : Int32))) (b77) (kk78) (v60) ((([(.long (0 : Int64)), (.long (0 : Int64)), (.long (0 : Int64)), (.long (0 : Int64)), (.long (0 : Int64)), (.long (0 : Int64)), (.long (0 : Int64))].set ((0 : Int32)).toNatClampNeg (.long (own_f6 ))).set (((0 : Int32) + (1 : Int32))).toNatClampNeg (.long (own_f6 )))) ((.long (0 : Int64))) T125.heap n0 z138 f130 f131 f132) hZ (hw _ (List.mem_of_getElem? (i := 23) rfl)) (hw _ (List.mem_of_getElem? (i := 6) rfl)) (by decide) (by decide)) q139a q139c (g := (mkF m 112 #[.val (.int p0), .val (.int p1), .val (.int v60), .val (.int v64), .val (.ref b65), .val (.ref aE), .val (.int (1 : Int32))] [(.ref b65)])) rfl (by rw [hml]; rfl) (Steps.refl _) (argsL := []) (rest := []) (lenOf own_pd1 rfl) rfl (by show 2 * 0 + _ ≤ _; exact Nat.le_of_eq rfl) (hb hby at_112) (fun _ _ => ⟨rfl, rfl, (by decide : 2 + 0 ≤ _), (by decide : 9 + 0 ≤ _)⟩)
      dsimp only [Pt.U, Pt.locs, Pt.cells, Pt.slots] at X139 l139 y139 z139 st139 hQ139
      subst l139 y139 z139
      obtain ⟨rfl, N139q, e141⟩ := hQ139
      have N140 := Fr.app N128 N139q
      have pre142 : ∀ t, Steps p.tables e below (T139.setTop (mkF m 117 #[.val (.int p0), .val (.int p1), .val (.int v60), .val (.int v64), .val (.ref b65), .val (.ref aE), .val (.int (1 : Int32))] [(.int (2 : Int32)), (.int v60), (.int (own_f4 (((0 : Int32) + (1 : Int32)) + (1 : Int32)) v60))])) t → Steps p.tables e below (s₁.setTop (entryFrame m #[(.int p0), (.int p1)] maxLocals)) t := fun t kk => pre123 t (by
        show Steps p.tables e below (T115.setTop (mkF m 95 #[.val (.int p0), .val (.int p1), .val (.int v60), .val (.int v64), .val (.ref b65), .val (.ref aE), .val (.int (1 : Int32))] [(.int (1 : Int32)), (.int v64)])) _
        refine XS.icmpNo X115.here hx rfl (hb hby at_95) rfl (tlt hc124).2.2.2 ?_
        show Steps p.tables e below (T115.setTop (mkF m 98 #[.val (.int p0), .val (.int p1), .val (.int v60), .val (.int v64), .val (.ref b65), .val (.ref aE), .val (.int (1 : Int32))] [])) _
        refine XS.aload X115.here hx rfl (hb hby at_98) rfl rfl ?_
        show Steps p.tables e below (T115.setTop (mkF m 100 #[.val (.int p0), .val (.int p1), .val (.int v60), .val (.int v64), .val (.ref b65), .val (.ref aE), .val (.int (1 : Int32))] [(.ref b65)])) _
        refine XS.aload X115.here hx rfl (hb hby at_100) rfl rfl ?_
        show Steps p.tables e below (T115.setTop (mkF m 102 #[.val (.int p0), .val (.int p1), .val (.int v60), .val (.int v64), .val (.ref b65), .val (.ref aE), .val (.int (1 : Int32))] [(.ref aE), (.ref b65)])) _
        refine st125.trans ?_
        show Steps p.tables e below (T125.setTop (mkF m 105 #[.val (.int p0), .val (.int p1), .val (.int v60), .val (.int v64), .val (.ref b65), .val (.ref aE), .val (.int (1 : Int32))] [])) _
        refine XS.iload X125.here hx rfl (hb hby at_105) rfl ?_
        show Steps p.tables e below (T125.setTop (mkF m 107 #[.val (.int p0), .val (.int p1), .val (.int v60), .val (.int v64), .val (.ref b65), .val (.ref aE), .val (.int (1 : Int32))] [(.int (1 : Int32))])) _
        refine XS.ifNo X125.here hx rfl (hb hby at_107) rfl ((if0 _ _).trans (feq (by decide : ¬ ((1 : Int32) = (0 : Int32)))).1) ?_
        show Steps p.tables e below (T125.setTop (mkF m 110 #[.val (.int p0), .val (.int p1), .val (.int v60), .val (.int v64), .val (.ref b65), .val (.ref aE), .val (.int (1 : Int32))] [])) _
        refine XS.aload X125.here hx rfl (hb hby at_110) rfl rfl ?_
        show Steps p.tables e below (T125.setTop (mkF m 112 #[.val (.int p0), .val (.int p1), .val (.int v60), .val (.int v64), .val (.ref b65), .val (.ref aE), .val (.int (1 : Int32))] [(.ref b65)])) _
        refine st139.trans ?_
        show Steps p.tables e below (T139.setTop (mkF m 115 #[.val (.int p0), .val (.int p1), .val (.int v60), .val (.int v64), .val (.ref b65), .val (.ref aE), .val (.int (1 : Int32))] [(.int (own_f4 (((0 : Int32) + (1 : Int32)) + (1 : Int32)) v60))])) _
        refine XS.iloadN X139.here hx rfl (hb hby at_115) rfl ?_
        show Steps p.tables e below (T139.setTop (mkF m 116 #[.val (.int p0), .val (.int p1), .val (.int v60), .val (.int v64), .val (.ref b65), .val (.ref aE), .val (.int (1 : Int32))] [(.int v60), (.int (own_f4 (((0 : Int32) + (1 : Int32)) + (1 : Int32)) v60))])) _
        refine XS.iconst X139.here hx rfl (hb hby at_116) ?_
        show Steps p.tables e below (T139.setTop (mkF m 117 #[.val (.int p0), .val (.int p1), .val (.int v60), .val (.int v64), .val (.ref b65), .val (.ref aE), .val (.int (1 : Int32))] [(.int (2 : Int32)), (.int v60), (.int (own_f4 (((0 : Int32) + (1 : Int32)) + (1 : Int32)) v60))])) _
        exact kk)
      obtain ⟨v144, hv144⟩ : ∃ z : Int32, z = (if v60 = (2 : Int32) then (1 : Int32) else (0 : Int32)) := ⟨_, rfl⟩
      have pre145 : ∀ t, Steps p.tables e below (T139.setTop (mkF m 125 #[.val (.int p0), .val (.int p1), .val (.int v60), .val (.int v64), .val (.ref b65), .val (.ref aE), .val (.int (1 : Int32))] [(.int v144), (.int (own_f4 (((0 : Int32) + (1 : Int32)) + (1 : Int32)) v60))])) t → Steps p.tables e below (s₁.setTop (entryFrame m #[(.int p0), (.int p1)] maxLocals)) t := fun t kk => pre142 t (by
        show Steps p.tables e below (T139.setTop (mkF m 117 #[.val (.int p0), .val (.int p1), .val (.int v60), .val (.int v64), .val (.ref b65), .val (.ref aE), .val (.int (1 : Int32))] [(.int (2 : Int32)), (.int v60), (.int (own_f4 (((0 : Int32) + (1 : Int32)) + (1 : Int32)) v60))])) _
        by_cases hc143 : v60 = (2 : Int32)
        · refine XS.icmpNo X139.here hx rfl (hb hby at_117) rfl (teq hc143).2 ?_
          show Steps p.tables e below (T139.setTop (mkF m 120 #[.val (.int p0), .val (.int p1), .val (.int v60), .val (.int v64), .val (.ref b65), .val (.ref aE), .val (.int (1 : Int32))] [(.int (own_f4 (((0 : Int32) + (1 : Int32)) + (1 : Int32)) v60))])) _
          refine XS.iconst X139.here hx rfl (hb hby at_120) ?_
          show Steps p.tables e below (T139.setTop (mkF m 121 #[.val (.int p0), .val (.int p1), .val (.int v60), .val (.int v64), .val (.ref b65), .val (.ref aE), .val (.int (1 : Int32))] [(.int (1 : Int32)), (.int (own_f4 (((0 : Int32) + (1 : Int32)) + (1 : Int32)) v60))])) _
          refine XS.goto X139.here hx rfl (pc0 := 121) (pc' := 125) rfl (hb hby at_121) (by decide) (by decide) ?_
          rw [show v144 = (1 : Int32) by rw [hv144, if_pos hc143]] at kk
          exact kk
        · refine XS.icmpYes X139.here hx rfl (pc0 := 117) (pc' := 124) rfl (hb hby at_117) rfl (feq hc143).2 (by decide) (by decide) ?_
          show Steps p.tables e below (T139.setTop (mkF m 124 #[.val (.int p0), .val (.int p1), .val (.int v60), .val (.int v64), .val (.ref b65), .val (.ref aE), .val (.int (1 : Int32))] [(.int (own_f4 (((0 : Int32) + (1 : Int32)) + (1 : Int32)) v60))])) _
          refine XS.iconst X139.here hx rfl (hb hby at_124) ?_
          rw [show v144 = (0 : Int32) by rw [hv144, if_neg hc143]] at kk
          exact kk)
      have pre147 : ∀ t, Steps p.tables e below (T139.setTop (mkF m 137 #[.val (.int p0), .val (.int p1), .val (.int v60), .val (.int v64), .val (.ref b65), .val (.ref aE), .val (.int (1 : Int32))] [(.int (2 : Int32)), (.int v64)])) t → Steps p.tables e below (s₁.setTop (entryFrame m #[(.int p0), (.int p1)] maxLocals)) t := fun t kk => pre145 t (by
        show Steps p.tables e below (T139.setTop (mkF m 125 #[.val (.int p0), .val (.int p1), .val (.int v60), .val (.int v64), .val (.ref b65), .val (.ref aE), .val (.int (1 : Int32))] [(.int v144), (.int (own_f4 (((0 : Int32) + (1 : Int32)) + (1 : Int32)) v60))])) _
        refine XS.icmpNo X139.here hx rfl (hb hby at_125) rfl (teq ((own_side146 p0 v60 hv60 v144 hv144) : (own_f4 (((0 : Int32) + (1 : Int32)) + (1 : Int32)) v60) = v144)).2 ?_
        show Steps p.tables e below (T139.setTop (mkF m 128 #[.val (.int p0), .val (.int p1), .val (.int v60), .val (.int v64), .val (.ref b65), .val (.ref aE), .val (.int (1 : Int32))] [])) _
        refine XS.iconst X139.here hx rfl (hb hby at_128) ?_
        show Steps p.tables e below (T139.setTop (mkF m 129 #[.val (.int p0), .val (.int p1), .val (.int v60), .val (.int v64), .val (.ref b65), .val (.ref aE), .val (.int (1 : Int32))] [(.int (1 : Int32))])) _
        refine XS.goto X139.here hx rfl (pc0 := 129) (pc' := 133) rfl (hb hby at_129) (by decide) (by decide) ?_
        show Steps p.tables e below (T139.setTop (mkF m 133 #[.val (.int p0), .val (.int p1), .val (.int v60), .val (.int v64), .val (.ref b65), .val (.ref aE), .val (.int (1 : Int32))] [(.int (1 : Int32))])) _
        refine XS.istore X139.here hx rfl (hb hby at_133) rfl (l' := #[.val (.int p0), .val (.int p1), .val (.int v60), .val (.int v64), .val (.ref b65), .val (.ref aE), .val (.int (1 : Int32))]) rfl ?_
        show Steps p.tables e below (T139.setTop (mkF m 135 #[.val (.int p0), .val (.int p1), .val (.int v60), .val (.int v64), .val (.ref b65), .val (.ref aE), .val (.int (1 : Int32))] [])) _
        refine XS.iloadN X139.here hx rfl (hb hby at_135) rfl ?_
        show Steps p.tables e below (T139.setTop (mkF m 136 #[.val (.int p0), .val (.int p1), .val (.int v60), .val (.int v64), .val (.ref b65), .val (.ref aE), .val (.int (1 : Int32))] [(.int v64)])) _
        refine XS.iconst X139.here hx rfl (hb hby at_136) ?_
        show Steps p.tables e below (T139.setTop (mkF m 137 #[.val (.int p0), .val (.int p1), .val (.int v60), .val (.int v64), .val (.ref b65), .val (.ref aE), .val (.int (1 : Int32))] [(.int (2 : Int32)), (.int v64)])) _
        exact kk)
      by_cases hc148 : (2 : Int32) < v64
      · obtain ⟨cq149, kq149, q149a, q149b, q149c⟩ := isOf hZ e141 f129
        obtain ⟨_, _, ⟨T149, L149, k149, n149⟩, -, X149, ⟨Lc149, hQ149, l149, y149, z149⟩, st149⟩ := X139.virtualBack hx (y := (⟨"com/example/all1/all1/RowFilter$Builder", "add", "(Lcom/example/all1/all1/Bytes;)V"⟩ : MethodName)) (z := (⟨"com/example/all1/all1/RowFilter$Builder", "add", "(Lcom/example/all1/all1/Bytes;)V"⟩ : MethodName)) hown (mvT hZ (hw _ (List.mem_of_getElem? (i := 26) rfl))) (mvT hZ (hw _ (List.mem_of_getElem? (i := 27) rfl))) (notFace_of_selects (args := #[]) (mvT hZ (hw _ (List.mem_of_getElem? (i := 29) rfl)))) (mvT hZ (hw _ (List.mem_of_getElem? (i := 29) rfl))) (mvT hZ (hw _ (List.mem_of_getElem? (i := 28) rfl))) (by decide) (backOf (W := 0) (own_rm5 l Z av hw [] b65 aE ((((0 : Int32) + (1 : Int32)) + (1 : Int32))) (b77) (kk78) (v60) ((([(.long (0 : Int64)), (.long (0 : Int64)), (.long (0 : Int64)), (.long (0 : Int64)), (.long (0 : Int64)), (.long (0 : Int64)), (.long (0 : Int64))].set ((0 : Int32)).toNatClampNeg (.long (own_f6 ))).set (((0 : Int32) + (1 : Int32))).toNatClampNeg (.long (own_f6 )))) ((.long (0 : Int64))) (ba) (kb) (db) T125.heap n0 z138 f129 f130 f131 f132 f134 f135 f136 g_b65 g_b77 ne_b65_b77 ne_aE_b65 ne_ba_b65 ne_aE_b77 ne_ba_b77 ((own_side150 p0 p1 aE ba kb db v60 hv60 v64 hv64 v96 hv96 hc100 v120 hv120 hc124 v144 hv144 hc148)) ((own_side151 p0 p1 aE ba kb db v60 hv60 v64 hv64 v96 hv96 hc100 v120 hv120 hc124 v144 hv144 hc148)) ((by decide))) hZ (hw _ (List.mem_of_getElem? (i := 30) rfl)) (hw _ (List.mem_of_getElem? (i := 6) rfl)) (by decide) (by decide)) q149a q149c (g := (mkF m 144 #[.val (.int p0), .val (.int p1), .val (.int v60), .val (.int v64), .val (.ref b65), .val (.ref aE), .val (.int (1 : Int32))] [(.ref aE), (.ref b65)])) rfl (by rw [hml]; rfl) (Steps.refl _) (argsL := [(.ref aE)]) (rest := []) (lenOf own_pd5 rfl) rfl (by show 2 * 0 + _ ≤ _; exact Nat.le_of_eq rfl) (hb hby at_144) (fun _ _ => ⟨rfl, e141, (by decide : 2 + 0 ≤ _), (by decide : 9 + 0 ≤ _)⟩)
        dsimp only [Pt.U, Pt.locs, Pt.cells, Pt.slots] at X149 l149 y149 z149 st149 hQ149
        subst l149 y149 z149
        obtain ⟨rfl, N149q, K149, f153, f154, f155, f156⟩ := hQ149
        have f157 := own_staKeep f133 K149 (allS (own_nsE f129) (allS (own_nsA f132) all0))
        have f158 := f134.keep K149
        have f159 := f135.keep K149 (ninS ne_aE_b65 (ninS ne_aE_b77 nin0))
        have f160 := f136.keep K149 (ninS ne_ba_b65 (ninS ne_ba_b77 nin0))
        have K161 : Keep h0 T149.heap [] := K137.trans K149 (allS (Or.inr sz_b65) (allS (Or.inr sz_b77) all0))
        have z162 : n0 ≤ T149.heap.size := Nat.le_trans z138 K149.1
        have N152 := Fr.app N140 N149q
        obtain ⟨cq163, kq163, q163a, q163b, q163c⟩ := isOf hZ rfl f153
        obtain ⟨_, _, ⟨T163, L163, k163, n163⟩, -, X163, ⟨Lc163, hQ163, l163, y163, z163⟩, st163⟩ := X149.virtualBack hx (y := (⟨"com/example/all1/all1/RowFilter$Builder", "isFull", "()Z"⟩ : MethodName)) (z := (⟨"com/example/all1/all1/RowFilter$Builder", "isFull", "()Z"⟩ : MethodName)) hown (mvT hZ (hw _ (List.mem_of_getElem? (i := 19) rfl))) (mvT hZ (hw _ (List.mem_of_getElem? (i := 20) rfl))) (notFace_of_selects (args := #[]) (mvT hZ (hw _ (List.mem_of_getElem? (i := 22) rfl)))) (mvT hZ (hw _ (List.mem_of_getElem? (i := 22) rfl))) (mvT hZ (hw _ (List.mem_of_getElem? (i := 21) rfl))) (by decide) (backOf (W := 0) (own_rm4 l Z av hw [] b65 (((((0 : Int32) + (1 : Int32)) + (1 : Int32)) + (1 : Int32))) (b77) (kk78) (v60) (((([(.long (0 : Int64)), (.long (0 : Int64)), (.long (0 : Int64)), (.long (0 : Int64)), (.long (0 : Int64)), (.long (0 : Int64)), (.long (0 : Int64))].set ((0 : Int32)).toNatClampNeg (.long (own_f6 ))).set (((0 : Int32) + (1 : Int32))).toNatClampNeg (.long (own_f6 ))).set ((((0 : Int32) + (1 : Int32)) + (1 : Int32))).toNatClampNeg (.long (own_f6 )))) ((.long (0 : Int64))) T149.heap n0 z162 f154 f155 f156) hZ (hw _ (List.mem_of_getElem? (i := 23) rfl)) (hw _ (List.mem_of_getElem? (i := 6) rfl)) (by decide) (by decide)) q163a q163c (g := (mkF m 154 #[.val (.int p0), .val (.int p1), .val (.int v60), .val (.int v64), .val (.ref b65), .val (.ref aE), .val (.int (1 : Int32))] [(.ref b65)])) rfl (by rw [hml]; rfl) (Steps.refl _) (argsL := []) (rest := []) (lenOf own_pd1 rfl) rfl (by show 2 * 0 + _ ≤ _; exact Nat.le_of_eq rfl) (hb hby at_154) (fun _ _ => ⟨rfl, rfl, (by decide : 2 + 0 ≤ _), (by decide : 9 + 0 ≤ _)⟩)
        dsimp only [Pt.U, Pt.locs, Pt.cells, Pt.slots] at X163 l163 y163 z163 st163 hQ163
        subst l163 y163 z163
        obtain ⟨rfl, N163q, e165⟩ := hQ163
        have N164 := Fr.app N152 N163q
        have pre166 : ∀ t, Steps p.tables e below (T163.setTop (mkF m 159 #[.val (.int p0), .val (.int p1), .val (.int v60), .val (.int v64), .val (.ref b65), .val (.ref aE), .val (.int (1 : Int32))] [(.int (3 : Int32)), (.int v60), (.int (own_f4 ((((0 : Int32) + (1 : Int32)) + (1 : Int32)) + (1 : Int32)) v60))])) t → Steps p.tables e below (s₁.setTop (entryFrame m #[(.int p0), (.int p1)] maxLocals)) t := fun t kk => pre147 t (by
          show Steps p.tables e below (T139.setTop (mkF m 137 #[.val (.int p0), .val (.int p1), .val (.int v60), .val (.int v64), .val (.ref b65), .val (.ref aE), .val (.int (1 : Int32))] [(.int (2 : Int32)), (.int v64)])) _
          refine XS.icmpNo X139.here hx rfl (hb hby at_137) rfl (tlt hc148).2.2.2 ?_
          show Steps p.tables e below (T139.setTop (mkF m 140 #[.val (.int p0), .val (.int p1), .val (.int v60), .val (.int v64), .val (.ref b65), .val (.ref aE), .val (.int (1 : Int32))] [])) _
          refine XS.aload X139.here hx rfl (hb hby at_140) rfl rfl ?_
          show Steps p.tables e below (T139.setTop (mkF m 142 #[.val (.int p0), .val (.int p1), .val (.int v60), .val (.int v64), .val (.ref b65), .val (.ref aE), .val (.int (1 : Int32))] [(.ref b65)])) _
          refine XS.aload X139.here hx rfl (hb hby at_142) rfl rfl ?_
          show Steps p.tables e below (T139.setTop (mkF m 144 #[.val (.int p0), .val (.int p1), .val (.int v60), .val (.int v64), .val (.ref b65), .val (.ref aE), .val (.int (1 : Int32))] [(.ref aE), (.ref b65)])) _
          refine st149.trans ?_
          show Steps p.tables e below (T149.setTop (mkF m 147 #[.val (.int p0), .val (.int p1), .val (.int v60), .val (.int v64), .val (.ref b65), .val (.ref aE), .val (.int (1 : Int32))] [])) _
          refine XS.iload X149.here hx rfl (hb hby at_147) rfl ?_
          show Steps p.tables e below (T149.setTop (mkF m 149 #[.val (.int p0), .val (.int p1), .val (.int v60), .val (.int v64), .val (.ref b65), .val (.ref aE), .val (.int (1 : Int32))] [(.int (1 : Int32))])) _
          refine XS.ifNo X149.here hx rfl (hb hby at_149) rfl ((if0 _ _).trans (feq (by decide : ¬ ((1 : Int32) = (0 : Int32)))).1) ?_
          show Steps p.tables e below (T149.setTop (mkF m 152 #[.val (.int p0), .val (.int p1), .val (.int v60), .val (.int v64), .val (.ref b65), .val (.ref aE), .val (.int (1 : Int32))] [])) _
          refine XS.aload X149.here hx rfl (hb hby at_152) rfl rfl ?_
          show Steps p.tables e below (T149.setTop (mkF m 154 #[.val (.int p0), .val (.int p1), .val (.int v60), .val (.int v64), .val (.ref b65), .val (.ref aE), .val (.int (1 : Int32))] [(.ref b65)])) _
          refine st163.trans ?_
          show Steps p.tables e below (T163.setTop (mkF m 157 #[.val (.int p0), .val (.int p1), .val (.int v60), .val (.int v64), .val (.ref b65), .val (.ref aE), .val (.int (1 : Int32))] [(.int (own_f4 ((((0 : Int32) + (1 : Int32)) + (1 : Int32)) + (1 : Int32)) v60))])) _
          refine XS.iloadN X163.here hx rfl (hb hby at_157) rfl ?_
          show Steps p.tables e below (T163.setTop (mkF m 158 #[.val (.int p0), .val (.int p1), .val (.int v60), .val (.int v64), .val (.ref b65), .val (.ref aE), .val (.int (1 : Int32))] [(.int v60), (.int (own_f4 ((((0 : Int32) + (1 : Int32)) + (1 : Int32)) + (1 : Int32)) v60))])) _
          refine XS.iconst X163.here hx rfl (hb hby at_158) ?_
          show Steps p.tables e below (T163.setTop (mkF m 159 #[.val (.int p0), .val (.int p1), .val (.int v60), .val (.int v64), .val (.ref b65), .val (.ref aE), .val (.int (1 : Int32))] [(.int (3 : Int32)), (.int v60), (.int (own_f4 ((((0 : Int32) + (1 : Int32)) + (1 : Int32)) + (1 : Int32)) v60))])) _
          exact kk)
        obtain ⟨v168, hv168⟩ : ∃ z : Int32, z = (if v60 = (3 : Int32) then (1 : Int32) else (0 : Int32)) := ⟨_, rfl⟩
        have pre169 : ∀ t, Steps p.tables e below (T163.setTop (mkF m 167 #[.val (.int p0), .val (.int p1), .val (.int v60), .val (.int v64), .val (.ref b65), .val (.ref aE), .val (.int (1 : Int32))] [(.int v168), (.int (own_f4 ((((0 : Int32) + (1 : Int32)) + (1 : Int32)) + (1 : Int32)) v60))])) t → Steps p.tables e below (s₁.setTop (entryFrame m #[(.int p0), (.int p1)] maxLocals)) t := fun t kk => pre166 t (by
          show Steps p.tables e below (T163.setTop (mkF m 159 #[.val (.int p0), .val (.int p1), .val (.int v60), .val (.int v64), .val (.ref b65), .val (.ref aE), .val (.int (1 : Int32))] [(.int (3 : Int32)), (.int v60), (.int (own_f4 ((((0 : Int32) + (1 : Int32)) + (1 : Int32)) + (1 : Int32)) v60))])) _
          by_cases hc167 : v60 = (3 : Int32)
          · refine XS.icmpNo X163.here hx rfl (hb hby at_159) rfl (teq hc167).2 ?_
            show Steps p.tables e below (T163.setTop (mkF m 162 #[.val (.int p0), .val (.int p1), .val (.int v60), .val (.int v64), .val (.ref b65), .val (.ref aE), .val (.int (1 : Int32))] [(.int (own_f4 ((((0 : Int32) + (1 : Int32)) + (1 : Int32)) + (1 : Int32)) v60))])) _
            refine XS.iconst X163.here hx rfl (hb hby at_162) ?_
            show Steps p.tables e below (T163.setTop (mkF m 163 #[.val (.int p0), .val (.int p1), .val (.int v60), .val (.int v64), .val (.ref b65), .val (.ref aE), .val (.int (1 : Int32))] [(.int (1 : Int32)), (.int (own_f4 ((((0 : Int32) + (1 : Int32)) + (1 : Int32)) + (1 : Int32)) v60))])) _
            refine XS.goto X163.here hx rfl (pc0 := 163) (pc' := 167) rfl (hb hby at_163) (by decide) (by decide) ?_
            rw [show v168 = (1 : Int32) by rw [hv168, if_pos hc167]] at kk
            exact kk
          · refine XS.icmpYes X163.here hx rfl (pc0 := 159) (pc' := 166) rfl (hb hby at_159) rfl (feq hc167).2 (by decide) (by decide) ?_
            show Steps p.tables e below (T163.setTop (mkF m 166 #[.val (.int p0), .val (.int p1), .val (.int v60), .val (.int v64), .val (.ref b65), .val (.ref aE), .val (.int (1 : Int32))] [(.int (own_f4 ((((0 : Int32) + (1 : Int32)) + (1 : Int32)) + (1 : Int32)) v60))])) _
            refine XS.iconst X163.here hx rfl (hb hby at_166) ?_
            rw [show v168 = (0 : Int32) by rw [hv168, if_neg hc167]] at kk
            exact kk)
        obtain ⟨cq171, kq171, q171a, q171b, q171c⟩ := isOf hZ e165 f153
        obtain ⟨_, _, ⟨T171, L171, k171, n171⟩, -, X171, ⟨Lc171, hQ171, l171, y171, z171⟩, st171⟩ := X163.virtualBack hx (y := (⟨"com/example/all1/all1/RowFilter$Builder", "isFull", "()Z"⟩ : MethodName)) (z := (⟨"com/example/all1/all1/RowFilter$Builder", "isFull", "()Z"⟩ : MethodName)) hown (mvT hZ (hw _ (List.mem_of_getElem? (i := 19) rfl))) (mvT hZ (hw _ (List.mem_of_getElem? (i := 20) rfl))) (notFace_of_selects (args := #[]) (mvT hZ (hw _ (List.mem_of_getElem? (i := 22) rfl)))) (mvT hZ (hw _ (List.mem_of_getElem? (i := 22) rfl))) (mvT hZ (hw _ (List.mem_of_getElem? (i := 21) rfl))) (by decide) (backOf (W := 0) (own_rm4 l Z av hw [] b65 (((((0 : Int32) + (1 : Int32)) + (1 : Int32)) + (1 : Int32))) (b77) (kk78) (v60) (((([(.long (0 : Int64)), (.long (0 : Int64)), (.long (0 : Int64)), (.long (0 : Int64)), (.long (0 : Int64)), (.long (0 : Int64)), (.long (0 : Int64))].set ((0 : Int32)).toNatClampNeg (.long (own_f6 ))).set (((0 : Int32) + (1 : Int32))).toNatClampNeg (.long (own_f6 ))).set ((((0 : Int32) + (1 : Int32)) + (1 : Int32))).toNatClampNeg (.long (own_f6 )))) ((.long (0 : Int64))) T149.heap n0 z162 f154 f155 f156) hZ (hw _ (List.mem_of_getElem? (i := 23) rfl)) (hw _ (List.mem_of_getElem? (i := 6) rfl)) (by decide) (by decide)) q171a q171c (g := (mkF m 184 #[.val (.int p0), .val (.int p1), .val (.int v60), .val (.int v64), .val (.ref b65), .val (.ref aE), .val (.int (1 : Int32))] [(.ref b65)])) rfl (by rw [hml]; rfl) (Steps.refl _) (argsL := []) (rest := []) (lenOf own_pd1 rfl) rfl (by show 2 * 0 + _ ≤ _; exact Nat.le_of_eq rfl) (hb hby at_184) (fun _ _ => ⟨rfl, e165, (by decide : 2 + 0 ≤ _), (by decide : 9 + 0 ≤ _)⟩)
        dsimp only [Pt.U, Pt.locs, Pt.cells, Pt.slots] at X171 l171 y171 z171 st171 hQ171
        subst l171 y171 z171
        obtain ⟨rfl, N171q, e173⟩ := hQ171
        have N172 := Fr.app N164 N171q
        have pre174 : ∀ t, Steps p.tables e below (T171.setTop (mkF m 189 #[.val (.int p0), .val (.int p1), .val (.int v60), .val (.int v64), .val (.ref b65), .val (.ref aE), .val (.int (1 : Int32))] [(.int v60), (.int v64), (.int (own_f4 ((((0 : Int32) + (1 : Int32)) + (1 : Int32)) + (1 : Int32)) v60))])) t → Steps p.tables e below (s₁.setTop (entryFrame m #[(.int p0), (.int p1)] maxLocals)) t := fun t kk => pre169 t (by
          show Steps p.tables e below (T163.setTop (mkF m 167 #[.val (.int p0), .val (.int p1), .val (.int v60), .val (.int v64), .val (.ref b65), .val (.ref aE), .val (.int (1 : Int32))] [(.int v168), (.int (own_f4 ((((0 : Int32) + (1 : Int32)) + (1 : Int32)) + (1 : Int32)) v60))])) _
          refine XS.icmpNo X163.here hx rfl (hb hby at_167) rfl (teq ((own_side170 p0 v60 hv60 v168 hv168) : (own_f4 ((((0 : Int32) + (1 : Int32)) + (1 : Int32)) + (1 : Int32)) v60) = v168)).2 ?_
          show Steps p.tables e below (T163.setTop (mkF m 170 #[.val (.int p0), .val (.int p1), .val (.int v60), .val (.int v64), .val (.ref b65), .val (.ref aE), .val (.int (1 : Int32))] [])) _
          refine XS.iconst X163.here hx rfl (hb hby at_170) ?_
          show Steps p.tables e below (T163.setTop (mkF m 171 #[.val (.int p0), .val (.int p1), .val (.int v60), .val (.int v64), .val (.ref b65), .val (.ref aE), .val (.int (1 : Int32))] [(.int (1 : Int32))])) _
          refine XS.goto X163.here hx rfl (pc0 := 171) (pc' := 175) rfl (hb hby at_171) (by decide) (by decide) ?_
          show Steps p.tables e below (T163.setTop (mkF m 175 #[.val (.int p0), .val (.int p1), .val (.int v60), .val (.int v64), .val (.ref b65), .val (.ref aE), .val (.int (1 : Int32))] [(.int (1 : Int32))])) _
          refine XS.istore X163.here hx rfl (hb hby at_175) rfl (l' := #[.val (.int p0), .val (.int p1), .val (.int v60), .val (.int v64), .val (.ref b65), .val (.ref aE), .val (.int (1 : Int32))]) rfl ?_
          show Steps p.tables e below (T163.setTop (mkF m 177 #[.val (.int p0), .val (.int p1), .val (.int v60), .val (.int v64), .val (.ref b65), .val (.ref aE), .val (.int (1 : Int32))] [])) _
          refine XS.iload X163.here hx rfl (hb hby at_177) rfl ?_
          show Steps p.tables e below (T163.setTop (mkF m 179 #[.val (.int p0), .val (.int p1), .val (.int v60), .val (.int v64), .val (.ref b65), .val (.ref aE), .val (.int (1 : Int32))] [(.int (1 : Int32))])) _
          refine XS.ifNo X163.here hx rfl (hb hby at_179) rfl ((if0 _ _).trans (feq (by decide : ¬ ((1 : Int32) = (0 : Int32)))).1) ?_
          show Steps p.tables e below (T163.setTop (mkF m 182 #[.val (.int p0), .val (.int p1), .val (.int v60), .val (.int v64), .val (.ref b65), .val (.ref aE), .val (.int (1 : Int32))] [])) _
          refine XS.aload X163.here hx rfl (hb hby at_182) rfl rfl ?_
          show Steps p.tables e below (T163.setTop (mkF m 184 #[.val (.int p0), .val (.int p1), .val (.int v60), .val (.int v64), .val (.ref b65), .val (.ref aE), .val (.int (1 : Int32))] [(.ref b65)])) _
          refine st171.trans ?_
          show Steps p.tables e below (T171.setTop (mkF m 187 #[.val (.int p0), .val (.int p1), .val (.int v60), .val (.int v64), .val (.ref b65), .val (.ref aE), .val (.int (1 : Int32))] [(.int (own_f4 ((((0 : Int32) + (1 : Int32)) + (1 : Int32)) + (1 : Int32)) v60))])) _
          refine XS.iloadN X171.here hx rfl (hb hby at_187) rfl ?_
          show Steps p.tables e below (T171.setTop (mkF m 188 #[.val (.int p0), .val (.int p1), .val (.int v60), .val (.int v64), .val (.ref b65), .val (.ref aE), .val (.int (1 : Int32))] [(.int v64), (.int (own_f4 ((((0 : Int32) + (1 : Int32)) + (1 : Int32)) + (1 : Int32)) v60))])) _
          refine XS.iloadN X171.here hx rfl (hb hby at_188) rfl ?_
          show Steps p.tables e below (T171.setTop (mkF m 189 #[.val (.int p0), .val (.int p1), .val (.int v60), .val (.int v64), .val (.ref b65), .val (.ref aE), .val (.int (1 : Int32))] [(.int v60), (.int v64), (.int (own_f4 ((((0 : Int32) + (1 : Int32)) + (1 : Int32)) + (1 : Int32)) v60))])) _
          exact kk)
        obtain ⟨v176, hv176⟩ : ∃ z : Int32, z = (if v64 = v60 then (1 : Int32) else (0 : Int32)) := ⟨_, rfl⟩
        have pre177 : ∀ t, Steps p.tables e below (T171.setTop (mkF m 197 #[.val (.int p0), .val (.int p1), .val (.int v60), .val (.int v64), .val (.ref b65), .val (.ref aE), .val (.int (1 : Int32))] [(.int v176), (.int (own_f4 ((((0 : Int32) + (1 : Int32)) + (1 : Int32)) + (1 : Int32)) v60))])) t → Steps p.tables e below (s₁.setTop (entryFrame m #[(.int p0), (.int p1)] maxLocals)) t := fun t kk => pre174 t (by
          show Steps p.tables e below (T171.setTop (mkF m 189 #[.val (.int p0), .val (.int p1), .val (.int v60), .val (.int v64), .val (.ref b65), .val (.ref aE), .val (.int (1 : Int32))] [(.int v60), (.int v64), (.int (own_f4 ((((0 : Int32) + (1 : Int32)) + (1 : Int32)) + (1 : Int32)) v60))])) _
          by_cases hc175 : v64 = v60
          · refine XS.icmpNo X171.here hx rfl (hb hby at_189) rfl (teq hc175).2 ?_
            show Steps p.tables e below (T171.setTop (mkF m 192 #[.val (.int p0), .val (.int p1), .val (.int v60), .val (.int v64), .val (.ref b65), .val (.ref aE), .val (.int (1 : Int32))] [(.int (own_f4 ((((0 : Int32) + (1 : Int32)) + (1 : Int32)) + (1 : Int32)) v60))])) _
            refine XS.iconst X171.here hx rfl (hb hby at_192) ?_
            show Steps p.tables e below (T171.setTop (mkF m 193 #[.val (.int p0), .val (.int p1), .val (.int v60), .val (.int v64), .val (.ref b65), .val (.ref aE), .val (.int (1 : Int32))] [(.int (1 : Int32)), (.int (own_f4 ((((0 : Int32) + (1 : Int32)) + (1 : Int32)) + (1 : Int32)) v60))])) _
            refine XS.goto X171.here hx rfl (pc0 := 193) (pc' := 197) rfl (hb hby at_193) (by decide) (by decide) ?_
            rw [show v176 = (1 : Int32) by rw [hv176, if_pos hc175]] at kk
            exact kk
          · refine XS.icmpYes X171.here hx rfl (pc0 := 189) (pc' := 196) rfl (hb hby at_189) rfl (feq hc175).2 (by decide) (by decide) ?_
            show Steps p.tables e below (T171.setTop (mkF m 196 #[.val (.int p0), .val (.int p1), .val (.int v60), .val (.int v64), .val (.ref b65), .val (.ref aE), .val (.int (1 : Int32))] [(.int (own_f4 ((((0 : Int32) + (1 : Int32)) + (1 : Int32)) + (1 : Int32)) v60))])) _
            refine XS.iconst X171.here hx rfl (hb hby at_196) ?_
            rw [show v176 = (0 : Int32) by rw [hv176, if_neg hc175]] at kk
            exact kk)
        obtain ⟨fs, hr, hrun, hended, hW, hsame⟩ := X171.leave (v := some (.int (1 : Int32))) (fun h => by rw [Bd.returns] at h; cases h)
        refine ⟨_, _, pre177 _ ?_, hrun, hended, _, _, rfl, ?_, ⟨_, rfl⟩, hW, hsame.mono (by decide) (by decide)⟩
        · show Steps p.tables e below (T171.setTop (mkF m 197 #[.val (.int p0), .val (.int p1), .val (.int v60), .val (.int v64), .val (.ref b65), .val (.ref aE), .val (.int (1 : Int32))] [(.int v176), (.int (own_f4 ((((0 : Int32) + (1 : Int32)) + (1 : Int32)) + (1 : Int32)) v60))])) _
          refine XS.icmpNo X171.here hx rfl (hb hby at_197) rfl (teq ((own_side178 p0 p1 v60 hv60 v64 hv64 hc100 hc124 hc148 v176 hv176) : (own_f4 ((((0 : Int32) + (1 : Int32)) + (1 : Int32)) + (1 : Int32)) v60) = v176)).2 ?_
          show Steps p.tables e below (T171.setTop (mkF m 200 #[.val (.int p0), .val (.int p1), .val (.int v60), .val (.int v64), .val (.ref b65), .val (.ref aE), .val (.int (1 : Int32))] [])) _
          refine XS.iconst X171.here hx rfl (hb hby at_200) ?_
          show Steps p.tables e below (T171.setTop (mkF m 201 #[.val (.int p0), .val (.int p1), .val (.int v60), .val (.int v64), .val (.ref b65), .val (.ref aE), .val (.int (1 : Int32))] [(.int (1 : Int32))])) _
          refine XS.goto X171.here hx rfl (pc0 := 201) (pc' := 205) rfl (hb hby at_201) (by decide) (by decide) ?_
          show Steps p.tables e below (T171.setTop (mkF m 205 #[.val (.int p0), .val (.int p1), .val (.int v60), .val (.int v64), .val (.ref b65), .val (.ref aE), .val (.int (1 : Int32))] [(.int (1 : Int32))])) _
          refine XS.istore X171.here hx rfl (hb hby at_205) rfl (l' := #[.val (.int p0), .val (.int p1), .val (.int v60), .val (.int v64), .val (.ref b65), .val (.ref aE), .val (.int (1 : Int32))]) rfl ?_
          show Steps p.tables e below (T171.setTop (mkF m 207 #[.val (.int p0), .val (.int p1), .val (.int v60), .val (.int v64), .val (.ref b65), .val (.ref aE), .val (.int (1 : Int32))] [])) _
          refine XS.iload X171.here hx rfl (hb hby at_207) rfl ?_
          show Steps p.tables e below (T171.setTop (mkF m 209 #[.val (.int p0), .val (.int p1), .val (.int v60), .val (.int v64), .val (.ref b65), .val (.ref aE), .val (.int (1 : Int32))] [(.int (1 : Int32))])) _
          exact retN X171 hx (t := .boolean) Bd.returns (by simp) (hb hby at_209) hr
        · show own_Q0 Z p0 p1 aE ba kb db h0 n0 _ T171.heap _
          rw [e173]
          exact ⟨rfl, N172⟩
      · obtain ⟨cq179, kq179, q179a, q179b, q179c⟩ := isOf hZ e141 f129
        obtain ⟨_, _, ⟨T179, L179, k179, n179⟩, -, X179, ⟨Lc179, hQ179, l179, y179, z179⟩, st179⟩ := X139.virtualBack hx (y := (⟨"com/example/all1/all1/RowFilter$Builder", "isFull", "()Z"⟩ : MethodName)) (z := (⟨"com/example/all1/all1/RowFilter$Builder", "isFull", "()Z"⟩ : MethodName)) hown (mvT hZ (hw _ (List.mem_of_getElem? (i := 19) rfl))) (mvT hZ (hw _ (List.mem_of_getElem? (i := 20) rfl))) (notFace_of_selects (args := #[]) (mvT hZ (hw _ (List.mem_of_getElem? (i := 22) rfl)))) (mvT hZ (hw _ (List.mem_of_getElem? (i := 22) rfl))) (mvT hZ (hw _ (List.mem_of_getElem? (i := 21) rfl))) (by decide) (backOf (W := 0) (own_rm4 l Z av hw [] b65 ((((0 : Int32) + (1 : Int32)) + (1 : Int32))) (b77) (kk78) (v60) ((([(.long (0 : Int64)), (.long (0 : Int64)), (.long (0 : Int64)), (.long (0 : Int64)), (.long (0 : Int64)), (.long (0 : Int64)), (.long (0 : Int64))].set ((0 : Int32)).toNatClampNeg (.long (own_f6 ))).set (((0 : Int32) + (1 : Int32))).toNatClampNeg (.long (own_f6 )))) ((.long (0 : Int64))) T125.heap n0 z138 f130 f131 f132) hZ (hw _ (List.mem_of_getElem? (i := 23) rfl)) (hw _ (List.mem_of_getElem? (i := 6) rfl)) (by decide) (by decide)) q179a q179c (g := (mkF m 184 #[.val (.int p0), .val (.int p1), .val (.int v60), .val (.int v64), .val (.ref b65), .val (.ref aE), .val (.int (1 : Int32))] [(.ref b65)])) rfl (by rw [hml]; rfl) (Steps.refl _) (argsL := []) (rest := []) (lenOf own_pd1 rfl) rfl (by show 2 * 0 + _ ≤ _; exact Nat.le_of_eq rfl) (hb hby at_184) (fun _ _ => ⟨rfl, e141, (by decide : 2 + 0 ≤ _), (by decide : 9 + 0 ≤ _)⟩)
        dsimp only [Pt.U, Pt.locs, Pt.cells, Pt.slots] at X179 l179 y179 z179 st179 hQ179
        subst l179 y179 z179
        obtain ⟨rfl, N179q, e181⟩ := hQ179
        have N180 := Fr.app N140 N179q
        have pre182 : ∀ t, Steps p.tables e below (T179.setTop (mkF m 189 #[.val (.int p0), .val (.int p1), .val (.int v60), .val (.int v64), .val (.ref b65), .val (.ref aE), .val (.int (1 : Int32))] [(.int v60), (.int v64), (.int (own_f4 (((0 : Int32) + (1 : Int32)) + (1 : Int32)) v60))])) t → Steps p.tables e below (s₁.setTop (entryFrame m #[(.int p0), (.int p1)] maxLocals)) t := fun t kk => pre147 t (by
          show Steps p.tables e below (T139.setTop (mkF m 137 #[.val (.int p0), .val (.int p1), .val (.int v60), .val (.int v64), .val (.ref b65), .val (.ref aE), .val (.int (1 : Int32))] [(.int (2 : Int32)), (.int v64)])) _
          refine XS.icmpYes X139.here hx rfl (pc0 := 137) (pc' := 177) rfl (hb hby at_137) rfl (flt hc148).2.2.2 (by decide) (by decide) ?_
          show Steps p.tables e below (T139.setTop (mkF m 177 #[.val (.int p0), .val (.int p1), .val (.int v60), .val (.int v64), .val (.ref b65), .val (.ref aE), .val (.int (1 : Int32))] [])) _
          refine XS.iload X139.here hx rfl (hb hby at_177) rfl ?_
          show Steps p.tables e below (T139.setTop (mkF m 179 #[.val (.int p0), .val (.int p1), .val (.int v60), .val (.int v64), .val (.ref b65), .val (.ref aE), .val (.int (1 : Int32))] [(.int (1 : Int32))])) _
          refine XS.ifNo X139.here hx rfl (hb hby at_179) rfl ((if0 _ _).trans (feq (by decide : ¬ ((1 : Int32) = (0 : Int32)))).1) ?_
          show Steps p.tables e below (T139.setTop (mkF m 182 #[.val (.int p0), .val (.int p1), .val (.int v60), .val (.int v64), .val (.ref b65), .val (.ref aE), .val (.int (1 : Int32))] [])) _
          refine XS.aload X139.here hx rfl (hb hby at_182) rfl rfl ?_
          show Steps p.tables e below (T139.setTop (mkF m 184 #[.val (.int p0), .val (.int p1), .val (.int v60), .val (.int v64), .val (.ref b65), .val (.ref aE), .val (.int (1 : Int32))] [(.ref b65)])) _
          refine st179.trans ?_
          show Steps p.tables e below (T179.setTop (mkF m 187 #[.val (.int p0), .val (.int p1), .val (.int v60), .val (.int v64), .val (.ref b65), .val (.ref aE), .val (.int (1 : Int32))] [(.int (own_f4 (((0 : Int32) + (1 : Int32)) + (1 : Int32)) v60))])) _
          refine XS.iloadN X179.here hx rfl (hb hby at_187) rfl ?_
          show Steps p.tables e below (T179.setTop (mkF m 188 #[.val (.int p0), .val (.int p1), .val (.int v60), .val (.int v64), .val (.ref b65), .val (.ref aE), .val (.int (1 : Int32))] [(.int v64), (.int (own_f4 (((0 : Int32) + (1 : Int32)) + (1 : Int32)) v60))])) _
          refine XS.iloadN X179.here hx rfl (hb hby at_188) rfl ?_
          show Steps p.tables e below (T179.setTop (mkF m 189 #[.val (.int p0), .val (.int p1), .val (.int v60), .val (.int v64), .val (.ref b65), .val (.ref aE), .val (.int (1 : Int32))] [(.int v60), (.int v64), (.int (own_f4 (((0 : Int32) + (1 : Int32)) + (1 : Int32)) v60))])) _
          exact kk)
        obtain ⟨v184, hv184⟩ : ∃ z : Int32, z = (if v64 = v60 then (1 : Int32) else (0 : Int32)) := ⟨_, rfl⟩
        have pre185 : ∀ t, Steps p.tables e below (T179.setTop (mkF m 197 #[.val (.int p0), .val (.int p1), .val (.int v60), .val (.int v64), .val (.ref b65), .val (.ref aE), .val (.int (1 : Int32))] [(.int v184), (.int (own_f4 (((0 : Int32) + (1 : Int32)) + (1 : Int32)) v60))])) t → Steps p.tables e below (s₁.setTop (entryFrame m #[(.int p0), (.int p1)] maxLocals)) t := fun t kk => pre182 t (by
          show Steps p.tables e below (T179.setTop (mkF m 189 #[.val (.int p0), .val (.int p1), .val (.int v60), .val (.int v64), .val (.ref b65), .val (.ref aE), .val (.int (1 : Int32))] [(.int v60), (.int v64), (.int (own_f4 (((0 : Int32) + (1 : Int32)) + (1 : Int32)) v60))])) _
          by_cases hc183 : v64 = v60
          · refine XS.icmpNo X179.here hx rfl (hb hby at_189) rfl (teq hc183).2 ?_
            show Steps p.tables e below (T179.setTop (mkF m 192 #[.val (.int p0), .val (.int p1), .val (.int v60), .val (.int v64), .val (.ref b65), .val (.ref aE), .val (.int (1 : Int32))] [(.int (own_f4 (((0 : Int32) + (1 : Int32)) + (1 : Int32)) v60))])) _
            refine XS.iconst X179.here hx rfl (hb hby at_192) ?_
            show Steps p.tables e below (T179.setTop (mkF m 193 #[.val (.int p0), .val (.int p1), .val (.int v60), .val (.int v64), .val (.ref b65), .val (.ref aE), .val (.int (1 : Int32))] [(.int (1 : Int32)), (.int (own_f4 (((0 : Int32) + (1 : Int32)) + (1 : Int32)) v60))])) _
            refine XS.goto X179.here hx rfl (pc0 := 193) (pc' := 197) rfl (hb hby at_193) (by decide) (by decide) ?_
            rw [show v184 = (1 : Int32) by rw [hv184, if_pos hc183]] at kk
            exact kk
          · refine XS.icmpYes X179.here hx rfl (pc0 := 189) (pc' := 196) rfl (hb hby at_189) rfl (feq hc183).2 (by decide) (by decide) ?_
            show Steps p.tables e below (T179.setTop (mkF m 196 #[.val (.int p0), .val (.int p1), .val (.int v60), .val (.int v64), .val (.ref b65), .val (.ref aE), .val (.int (1 : Int32))] [(.int (own_f4 (((0 : Int32) + (1 : Int32)) + (1 : Int32)) v60))])) _
            refine XS.iconst X179.here hx rfl (hb hby at_196) ?_
            rw [show v184 = (0 : Int32) by rw [hv184, if_neg hc183]] at kk
            exact kk)
        obtain ⟨fs, hr, hrun, hended, hW, hsame⟩ := X179.leave (v := some (.int (1 : Int32))) (fun h => by rw [Bd.returns] at h; cases h)
        refine ⟨_, _, pre185 _ ?_, hrun, hended, _, _, rfl, ?_, ⟨_, rfl⟩, hW, hsame.mono (by decide) (by decide)⟩
        · show Steps p.tables e below (T179.setTop (mkF m 197 #[.val (.int p0), .val (.int p1), .val (.int v60), .val (.int v64), .val (.ref b65), .val (.ref aE), .val (.int (1 : Int32))] [(.int v184), (.int (own_f4 (((0 : Int32) + (1 : Int32)) + (1 : Int32)) v60))])) _
          refine XS.icmpNo X179.here hx rfl (hb hby at_197) rfl (teq ((own_side186 p0 p1 v60 hv60 v64 hv64 hc100 hc124 hc148 v184 hv184) : (own_f4 (((0 : Int32) + (1 : Int32)) + (1 : Int32)) v60) = v184)).2 ?_
          show Steps p.tables e below (T179.setTop (mkF m 200 #[.val (.int p0), .val (.int p1), .val (.int v60), .val (.int v64), .val (.ref b65), .val (.ref aE), .val (.int (1 : Int32))] [])) _
          refine XS.iconst X179.here hx rfl (hb hby at_200) ?_
          show Steps p.tables e below (T179.setTop (mkF m 201 #[.val (.int p0), .val (.int p1), .val (.int v60), .val (.int v64), .val (.ref b65), .val (.ref aE), .val (.int (1 : Int32))] [(.int (1 : Int32))])) _
          refine XS.goto X179.here hx rfl (pc0 := 201) (pc' := 205) rfl (hb hby at_201) (by decide) (by decide) ?_
          show Steps p.tables e below (T179.setTop (mkF m 205 #[.val (.int p0), .val (.int p1), .val (.int v60), .val (.int v64), .val (.ref b65), .val (.ref aE), .val (.int (1 : Int32))] [(.int (1 : Int32))])) _
          refine XS.istore X179.here hx rfl (hb hby at_205) rfl (l' := #[.val (.int p0), .val (.int p1), .val (.int v60), .val (.int v64), .val (.ref b65), .val (.ref aE), .val (.int (1 : Int32))]) rfl ?_
          show Steps p.tables e below (T179.setTop (mkF m 207 #[.val (.int p0), .val (.int p1), .val (.int v60), .val (.int v64), .val (.ref b65), .val (.ref aE), .val (.int (1 : Int32))] [])) _
          refine XS.iload X179.here hx rfl (hb hby at_207) rfl ?_
          show Steps p.tables e below (T179.setTop (mkF m 209 #[.val (.int p0), .val (.int p1), .val (.int v60), .val (.int v64), .val (.ref b65), .val (.ref aE), .val (.int (1 : Int32))] [(.int (1 : Int32))])) _
          exact retN X179 hx (t := .boolean) Bd.returns (by simp) (hb hby at_209) hr
        · show own_Q0 Z p0 p1 aE ba kb db h0 n0 _ T179.heap _
          rw [e181]
          exact ⟨rfl, N180⟩
    · obtain ⟨cq188, kq188, q188a, q188b, q188c⟩ := isOf hZ e117 f105
      obtain ⟨_, _, ⟨T188, L188, k188, n188⟩, -, X188, ⟨Lc188, hQ188, l188, y188, z188⟩, st188⟩ := X115.virtualBack hx (y := (⟨"com/example/all1/all1/RowFilter$Builder", "isFull", "()Z"⟩ : MethodName)) (z := (⟨"com/example/all1/all1/RowFilter$Builder", "isFull", "()Z"⟩ : MethodName)) hown (mvT hZ (hw _ (List.mem_of_getElem? (i := 19) rfl))) (mvT hZ (hw _ (List.mem_of_getElem? (i := 20) rfl))) (notFace_of_selects (args := #[]) (mvT hZ (hw _ (List.mem_of_getElem? (i := 22) rfl)))) (mvT hZ (hw _ (List.mem_of_getElem? (i := 22) rfl))) (mvT hZ (hw _ (List.mem_of_getElem? (i := 21) rfl))) (by decide) (backOf (W := 0) (own_rm4 l Z av hw [] b65 (((0 : Int32) + (1 : Int32))) (b77) (kk78) (v60) (([(.long (0 : Int64)), (.long (0 : Int64)), (.long (0 : Int64)), (.long (0 : Int64)), (.long (0 : Int64)), (.long (0 : Int64)), (.long (0 : Int64))].set ((0 : Int32)).toNatClampNeg (.long (own_f6 )))) ((.long (0 : Int64))) T101.heap n0 z114 f106 f107 f108) hZ (hw _ (List.mem_of_getElem? (i := 23) rfl)) (hw _ (List.mem_of_getElem? (i := 6) rfl)) (by decide) (by decide)) q188a q188c (g := (mkF m 184 #[.val (.int p0), .val (.int p1), .val (.int v60), .val (.int v64), .val (.ref b65), .val (.ref aE), .val (.int (1 : Int32))] [(.ref b65)])) rfl (by rw [hml]; rfl) (Steps.refl _) (argsL := []) (rest := []) (lenOf own_pd1 rfl) rfl (by show 2 * 0 + _ ≤ _; exact Nat.le_of_eq rfl) (hb hby at_184) (fun _ _ => ⟨rfl, e117, (by decide : 2 + 0 ≤ _), (by decide : 9 + 0 ≤ _)⟩)
      dsimp only [Pt.U, Pt.locs, Pt.cells, Pt.slots] at X188 l188 y188 z188 st188 hQ188
      subst l188 y188 z188
      obtain ⟨rfl, N188q, e190⟩ := hQ188
      have N189 := Fr.app N116 N188q
      have pre191 : ∀ t, Steps p.tables e below (T188.setTop (mkF m 189 #[.val (.int p0), .val (.int p1), .val (.int v60), .val (.int v64), .val (.ref b65), .val (.ref aE), .val (.int (1 : Int32))] [(.int v60), (.int v64), (.int (own_f4 ((0 : Int32) + (1 : Int32)) v60))])) t → Steps p.tables e below (s₁.setTop (entryFrame m #[(.int p0), (.int p1)] maxLocals)) t := fun t kk => pre123 t (by
        show Steps p.tables e below (T115.setTop (mkF m 95 #[.val (.int p0), .val (.int p1), .val (.int v60), .val (.int v64), .val (.ref b65), .val (.ref aE), .val (.int (1 : Int32))] [(.int (1 : Int32)), (.int v64)])) _
        refine XS.icmpYes X115.here hx rfl (pc0 := 95) (pc' := 135) rfl (hb hby at_95) rfl (flt hc124).2.2.2 (by decide) (by decide) ?_
        show Steps p.tables e below (T115.setTop (mkF m 135 #[.val (.int p0), .val (.int p1), .val (.int v60), .val (.int v64), .val (.ref b65), .val (.ref aE), .val (.int (1 : Int32))] [])) _
        refine XS.iloadN X115.here hx rfl (hb hby at_135) rfl ?_
        show Steps p.tables e below (T115.setTop (mkF m 136 #[.val (.int p0), .val (.int p1), .val (.int v60), .val (.int v64), .val (.ref b65), .val (.ref aE), .val (.int (1 : Int32))] [(.int v64)])) _
        refine XS.iconst X115.here hx rfl (hb hby at_136) ?_
        show Steps p.tables e below (T115.setTop (mkF m 137 #[.val (.int p0), .val (.int p1), .val (.int v60), .val (.int v64), .val (.ref b65), .val (.ref aE), .val (.int (1 : Int32))] [(.int (2 : Int32)), (.int v64)])) _
        refine XS.icmpYes X115.here hx rfl (pc0 := 137) (pc' := 177) rfl (hb hby at_137) rfl (flt ((own_side187 p0 p1 aE ba kb db v60 hv60 v64 hv64 v96 hv96 hc100 v120 hv120 hc124) : ¬ ((2 : Int32) < v64))).2.2.2 (by decide) (by decide) ?_
        show Steps p.tables e below (T115.setTop (mkF m 177 #[.val (.int p0), .val (.int p1), .val (.int v60), .val (.int v64), .val (.ref b65), .val (.ref aE), .val (.int (1 : Int32))] [])) _
        refine XS.iload X115.here hx rfl (hb hby at_177) rfl ?_
        show Steps p.tables e below (T115.setTop (mkF m 179 #[.val (.int p0), .val (.int p1), .val (.int v60), .val (.int v64), .val (.ref b65), .val (.ref aE), .val (.int (1 : Int32))] [(.int (1 : Int32))])) _
        refine XS.ifNo X115.here hx rfl (hb hby at_179) rfl ((if0 _ _).trans (feq (by decide : ¬ ((1 : Int32) = (0 : Int32)))).1) ?_
        show Steps p.tables e below (T115.setTop (mkF m 182 #[.val (.int p0), .val (.int p1), .val (.int v60), .val (.int v64), .val (.ref b65), .val (.ref aE), .val (.int (1 : Int32))] [])) _
        refine XS.aload X115.here hx rfl (hb hby at_182) rfl rfl ?_
        show Steps p.tables e below (T115.setTop (mkF m 184 #[.val (.int p0), .val (.int p1), .val (.int v60), .val (.int v64), .val (.ref b65), .val (.ref aE), .val (.int (1 : Int32))] [(.ref b65)])) _
        refine st188.trans ?_
        show Steps p.tables e below (T188.setTop (mkF m 187 #[.val (.int p0), .val (.int p1), .val (.int v60), .val (.int v64), .val (.ref b65), .val (.ref aE), .val (.int (1 : Int32))] [(.int (own_f4 ((0 : Int32) + (1 : Int32)) v60))])) _
        refine XS.iloadN X188.here hx rfl (hb hby at_187) rfl ?_
        show Steps p.tables e below (T188.setTop (mkF m 188 #[.val (.int p0), .val (.int p1), .val (.int v60), .val (.int v64), .val (.ref b65), .val (.ref aE), .val (.int (1 : Int32))] [(.int v64), (.int (own_f4 ((0 : Int32) + (1 : Int32)) v60))])) _
        refine XS.iloadN X188.here hx rfl (hb hby at_188) rfl ?_
        show Steps p.tables e below (T188.setTop (mkF m 189 #[.val (.int p0), .val (.int p1), .val (.int v60), .val (.int v64), .val (.ref b65), .val (.ref aE), .val (.int (1 : Int32))] [(.int v60), (.int v64), (.int (own_f4 ((0 : Int32) + (1 : Int32)) v60))])) _
        exact kk)
      obtain ⟨v193, hv193⟩ : ∃ z : Int32, z = (if v64 = v60 then (1 : Int32) else (0 : Int32)) := ⟨_, rfl⟩
      have pre194 : ∀ t, Steps p.tables e below (T188.setTop (mkF m 197 #[.val (.int p0), .val (.int p1), .val (.int v60), .val (.int v64), .val (.ref b65), .val (.ref aE), .val (.int (1 : Int32))] [(.int v193), (.int (own_f4 ((0 : Int32) + (1 : Int32)) v60))])) t → Steps p.tables e below (s₁.setTop (entryFrame m #[(.int p0), (.int p1)] maxLocals)) t := fun t kk => pre191 t (by
        show Steps p.tables e below (T188.setTop (mkF m 189 #[.val (.int p0), .val (.int p1), .val (.int v60), .val (.int v64), .val (.ref b65), .val (.ref aE), .val (.int (1 : Int32))] [(.int v60), (.int v64), (.int (own_f4 ((0 : Int32) + (1 : Int32)) v60))])) _
        by_cases hc192 : v64 = v60
        · refine XS.icmpNo X188.here hx rfl (hb hby at_189) rfl (teq hc192).2 ?_
          show Steps p.tables e below (T188.setTop (mkF m 192 #[.val (.int p0), .val (.int p1), .val (.int v60), .val (.int v64), .val (.ref b65), .val (.ref aE), .val (.int (1 : Int32))] [(.int (own_f4 ((0 : Int32) + (1 : Int32)) v60))])) _
          refine XS.iconst X188.here hx rfl (hb hby at_192) ?_
          show Steps p.tables e below (T188.setTop (mkF m 193 #[.val (.int p0), .val (.int p1), .val (.int v60), .val (.int v64), .val (.ref b65), .val (.ref aE), .val (.int (1 : Int32))] [(.int (1 : Int32)), (.int (own_f4 ((0 : Int32) + (1 : Int32)) v60))])) _
          refine XS.goto X188.here hx rfl (pc0 := 193) (pc' := 197) rfl (hb hby at_193) (by decide) (by decide) ?_
          rw [show v193 = (1 : Int32) by rw [hv193, if_pos hc192]] at kk
          exact kk
        · refine XS.icmpYes X188.here hx rfl (pc0 := 189) (pc' := 196) rfl (hb hby at_189) rfl (feq hc192).2 (by decide) (by decide) ?_
          show Steps p.tables e below (T188.setTop (mkF m 196 #[.val (.int p0), .val (.int p1), .val (.int v60), .val (.int v64), .val (.ref b65), .val (.ref aE), .val (.int (1 : Int32))] [(.int (own_f4 ((0 : Int32) + (1 : Int32)) v60))])) _
          refine XS.iconst X188.here hx rfl (hb hby at_196) ?_
          rw [show v193 = (0 : Int32) by rw [hv193, if_neg hc192]] at kk
          exact kk)
      obtain ⟨fs, hr, hrun, hended, hW, hsame⟩ := X188.leave (v := some (.int (1 : Int32))) (fun h => by rw [Bd.returns] at h; cases h)
      refine ⟨_, _, pre194 _ ?_, hrun, hended, _, _, rfl, ?_, ⟨_, rfl⟩, hW, hsame.mono (by decide) (by decide)⟩
      · show Steps p.tables e below (T188.setTop (mkF m 197 #[.val (.int p0), .val (.int p1), .val (.int v60), .val (.int v64), .val (.ref b65), .val (.ref aE), .val (.int (1 : Int32))] [(.int v193), (.int (own_f4 ((0 : Int32) + (1 : Int32)) v60))])) _
        refine XS.icmpNo X188.here hx rfl (hb hby at_197) rfl (teq ((own_side195 p0 p1 v60 hv60 v64 hv64 hc100 hc124 v193 hv193) : (own_f4 ((0 : Int32) + (1 : Int32)) v60) = v193)).2 ?_
        show Steps p.tables e below (T188.setTop (mkF m 200 #[.val (.int p0), .val (.int p1), .val (.int v60), .val (.int v64), .val (.ref b65), .val (.ref aE), .val (.int (1 : Int32))] [])) _
        refine XS.iconst X188.here hx rfl (hb hby at_200) ?_
        show Steps p.tables e below (T188.setTop (mkF m 201 #[.val (.int p0), .val (.int p1), .val (.int v60), .val (.int v64), .val (.ref b65), .val (.ref aE), .val (.int (1 : Int32))] [(.int (1 : Int32))])) _
        refine XS.goto X188.here hx rfl (pc0 := 201) (pc' := 205) rfl (hb hby at_201) (by decide) (by decide) ?_
        show Steps p.tables e below (T188.setTop (mkF m 205 #[.val (.int p0), .val (.int p1), .val (.int v60), .val (.int v64), .val (.ref b65), .val (.ref aE), .val (.int (1 : Int32))] [(.int (1 : Int32))])) _
        refine XS.istore X188.here hx rfl (hb hby at_205) rfl (l' := #[.val (.int p0), .val (.int p1), .val (.int v60), .val (.int v64), .val (.ref b65), .val (.ref aE), .val (.int (1 : Int32))]) rfl ?_
        show Steps p.tables e below (T188.setTop (mkF m 207 #[.val (.int p0), .val (.int p1), .val (.int v60), .val (.int v64), .val (.ref b65), .val (.ref aE), .val (.int (1 : Int32))] [])) _
        refine XS.iload X188.here hx rfl (hb hby at_207) rfl ?_
        show Steps p.tables e below (T188.setTop (mkF m 209 #[.val (.int p0), .val (.int p1), .val (.int v60), .val (.int v64), .val (.ref b65), .val (.ref aE), .val (.int (1 : Int32))] [(.int (1 : Int32))])) _
        exact retN X188 hx (t := .boolean) Bd.returns (by simp) (hb hby at_209) hr
      · show own_Q0 Z p0 p1 aE ba kb db h0 n0 _ T188.heap _
        rw [e190]
        exact ⟨rfl, N189⟩
  · obtain ⟨cq198, kq198, q198a, q198b, q198c⟩ := isOf hZ e93 f80
    obtain ⟨_, _, ⟨T198, L198, k198, n198⟩, -, X198, ⟨Lc198, hQ198, l198, y198, z198⟩, st198⟩ := X91.virtualBack hx (y := (⟨"com/example/all1/all1/RowFilter$Builder", "isFull", "()Z"⟩ : MethodName)) (z := (⟨"com/example/all1/all1/RowFilter$Builder", "isFull", "()Z"⟩ : MethodName)) hown (mvT hZ (hw _ (List.mem_of_getElem? (i := 19) rfl))) (mvT hZ (hw _ (List.mem_of_getElem? (i := 20) rfl))) (notFace_of_selects (args := #[]) (mvT hZ (hw _ (List.mem_of_getElem? (i := 22) rfl)))) (mvT hZ (hw _ (List.mem_of_getElem? (i := 22) rfl))) (mvT hZ (hw _ (List.mem_of_getElem? (i := 21) rfl))) (by decide) (backOf (W := 0) (own_rm4 l Z av hw [] b65 ((0 : Int32)) (b77) (kk78) (v60) ([(.long (0 : Int64)), (.long (0 : Int64)), (.long (0 : Int64)), (.long (0 : Int64)), (.long (0 : Int64)), (.long (0 : Int64)), (.long (0 : Int64))]) ((.long (0 : Int64))) T74.heap n0 z89 f82 f81 f83) hZ (hw _ (List.mem_of_getElem? (i := 23) rfl)) (hw _ (List.mem_of_getElem? (i := 6) rfl)) (by decide) (by decide)) q198a q198c (g := (mkF m 184 #[.val (.int p0), .val (.int p1), .val (.int v60), .val (.int v64), .val (.ref b65), .val (.ref aE), .val (.int (1 : Int32))] [(.ref b65)])) rfl (by rw [hml]; rfl) (Steps.refl _) (argsL := []) (rest := []) (lenOf own_pd1 rfl) rfl (by show 2 * 0 + _ ≤ _; exact Nat.le_of_eq rfl) (hb hby at_184) (fun _ _ => ⟨rfl, e93, (by decide : 2 + 0 ≤ _), (by decide : 9 + 0 ≤ _)⟩)
    dsimp only [Pt.U, Pt.locs, Pt.cells, Pt.slots] at X198 l198 y198 z198 st198 hQ198
    subst l198 y198 z198
    obtain ⟨rfl, N198q, e200⟩ := hQ198
    have N199 := Fr.app N92 N198q
    have pre201 : ∀ t, Steps p.tables e below (T198.setTop (mkF m 189 #[.val (.int p0), .val (.int p1), .val (.int v60), .val (.int v64), .val (.ref b65), .val (.ref aE), .val (.int (1 : Int32))] [(.int v60), (.int v64), (.int (own_f4 (0 : Int32) v60))])) t → Steps p.tables e below (s₁.setTop (entryFrame m #[(.int p0), (.int p1)] maxLocals)) t := fun t kk => pre99 t (by
      show Steps p.tables e below (T91.setTop (mkF m 53 #[.val (.int p0), .val (.int p1), .val (.int v60), .val (.int v64), .val (.ref b65), .val (.ref aE), .val (.int (1 : Int32))] [(.int v64)])) _
      refine XS.ifYes X91.here hx rfl (pc0 := 53) (pc' := 93) rfl (hb hby at_53) rfl ((if0 _ _).trans (flt hc100).2.2.2) (by decide) (by decide) ?_
      show Steps p.tables e below (T91.setTop (mkF m 93 #[.val (.int p0), .val (.int p1), .val (.int v60), .val (.int v64), .val (.ref b65), .val (.ref aE), .val (.int (1 : Int32))] [])) _
      refine XS.iloadN X91.here hx rfl (hb hby at_93) rfl ?_
      show Steps p.tables e below (T91.setTop (mkF m 94 #[.val (.int p0), .val (.int p1), .val (.int v60), .val (.int v64), .val (.ref b65), .val (.ref aE), .val (.int (1 : Int32))] [(.int v64)])) _
      refine XS.iconst X91.here hx rfl (hb hby at_94) ?_
      show Steps p.tables e below (T91.setTop (mkF m 95 #[.val (.int p0), .val (.int p1), .val (.int v60), .val (.int v64), .val (.ref b65), .val (.ref aE), .val (.int (1 : Int32))] [(.int (1 : Int32)), (.int v64)])) _
      refine XS.icmpYes X91.here hx rfl (pc0 := 95) (pc' := 135) rfl (hb hby at_95) rfl (flt ((own_side196 p0 p1 aE ba kb db v60 hv60 v64 hv64 v96 hv96 hc100) : ¬ ((1 : Int32) < v64))).2.2.2 (by decide) (by decide) ?_
      show Steps p.tables e below (T91.setTop (mkF m 135 #[.val (.int p0), .val (.int p1), .val (.int v60), .val (.int v64), .val (.ref b65), .val (.ref aE), .val (.int (1 : Int32))] [])) _
      refine XS.iloadN X91.here hx rfl (hb hby at_135) rfl ?_
      show Steps p.tables e below (T91.setTop (mkF m 136 #[.val (.int p0), .val (.int p1), .val (.int v60), .val (.int v64), .val (.ref b65), .val (.ref aE), .val (.int (1 : Int32))] [(.int v64)])) _
      refine XS.iconst X91.here hx rfl (hb hby at_136) ?_
      show Steps p.tables e below (T91.setTop (mkF m 137 #[.val (.int p0), .val (.int p1), .val (.int v60), .val (.int v64), .val (.ref b65), .val (.ref aE), .val (.int (1 : Int32))] [(.int (2 : Int32)), (.int v64)])) _
      refine XS.icmpYes X91.here hx rfl (pc0 := 137) (pc' := 177) rfl (hb hby at_137) rfl (flt ((own_side197 p0 p1 aE ba kb db v60 hv60 v64 hv64 v96 hv96 hc100) : ¬ ((2 : Int32) < v64))).2.2.2 (by decide) (by decide) ?_
      show Steps p.tables e below (T91.setTop (mkF m 177 #[.val (.int p0), .val (.int p1), .val (.int v60), .val (.int v64), .val (.ref b65), .val (.ref aE), .val (.int (1 : Int32))] [])) _
      refine XS.iload X91.here hx rfl (hb hby at_177) rfl ?_
      show Steps p.tables e below (T91.setTop (mkF m 179 #[.val (.int p0), .val (.int p1), .val (.int v60), .val (.int v64), .val (.ref b65), .val (.ref aE), .val (.int (1 : Int32))] [(.int (1 : Int32))])) _
      refine XS.ifNo X91.here hx rfl (hb hby at_179) rfl ((if0 _ _).trans (feq (by decide : ¬ ((1 : Int32) = (0 : Int32)))).1) ?_
      show Steps p.tables e below (T91.setTop (mkF m 182 #[.val (.int p0), .val (.int p1), .val (.int v60), .val (.int v64), .val (.ref b65), .val (.ref aE), .val (.int (1 : Int32))] [])) _
      refine XS.aload X91.here hx rfl (hb hby at_182) rfl rfl ?_
      show Steps p.tables e below (T91.setTop (mkF m 184 #[.val (.int p0), .val (.int p1), .val (.int v60), .val (.int v64), .val (.ref b65), .val (.ref aE), .val (.int (1 : Int32))] [(.ref b65)])) _
      refine st198.trans ?_
      show Steps p.tables e below (T198.setTop (mkF m 187 #[.val (.int p0), .val (.int p1), .val (.int v60), .val (.int v64), .val (.ref b65), .val (.ref aE), .val (.int (1 : Int32))] [(.int (own_f4 (0 : Int32) v60))])) _
      refine XS.iloadN X198.here hx rfl (hb hby at_187) rfl ?_
      show Steps p.tables e below (T198.setTop (mkF m 188 #[.val (.int p0), .val (.int p1), .val (.int v60), .val (.int v64), .val (.ref b65), .val (.ref aE), .val (.int (1 : Int32))] [(.int v64), (.int (own_f4 (0 : Int32) v60))])) _
      refine XS.iloadN X198.here hx rfl (hb hby at_188) rfl ?_
      show Steps p.tables e below (T198.setTop (mkF m 189 #[.val (.int p0), .val (.int p1), .val (.int v60), .val (.int v64), .val (.ref b65), .val (.ref aE), .val (.int (1 : Int32))] [(.int v60), (.int v64), (.int (own_f4 (0 : Int32) v60))])) _
      exact kk)
    obtain ⟨v203, hv203⟩ : ∃ z : Int32, z = (if v64 = v60 then (1 : Int32) else (0 : Int32)) := ⟨_, rfl⟩
    have pre204 : ∀ t, Steps p.tables e below (T198.setTop (mkF m 197 #[.val (.int p0), .val (.int p1), .val (.int v60), .val (.int v64), .val (.ref b65), .val (.ref aE), .val (.int (1 : Int32))] [(.int v203), (.int (own_f4 (0 : Int32) v60))])) t → Steps p.tables e below (s₁.setTop (entryFrame m #[(.int p0), (.int p1)] maxLocals)) t := fun t kk => pre201 t (by
      show Steps p.tables e below (T198.setTop (mkF m 189 #[.val (.int p0), .val (.int p1), .val (.int v60), .val (.int v64), .val (.ref b65), .val (.ref aE), .val (.int (1 : Int32))] [(.int v60), (.int v64), (.int (own_f4 (0 : Int32) v60))])) _
      by_cases hc202 : v64 = v60
      · refine XS.icmpNo X198.here hx rfl (hb hby at_189) rfl (teq hc202).2 ?_
        show Steps p.tables e below (T198.setTop (mkF m 192 #[.val (.int p0), .val (.int p1), .val (.int v60), .val (.int v64), .val (.ref b65), .val (.ref aE), .val (.int (1 : Int32))] [(.int (own_f4 (0 : Int32) v60))])) _
        refine XS.iconst X198.here hx rfl (hb hby at_192) ?_
        show Steps p.tables e below (T198.setTop (mkF m 193 #[.val (.int p0), .val (.int p1), .val (.int v60), .val (.int v64), .val (.ref b65), .val (.ref aE), .val (.int (1 : Int32))] [(.int (1 : Int32)), (.int (own_f4 (0 : Int32) v60))])) _
        refine XS.goto X198.here hx rfl (pc0 := 193) (pc' := 197) rfl (hb hby at_193) (by decide) (by decide) ?_
        rw [show v203 = (1 : Int32) by rw [hv203, if_pos hc202]] at kk
        exact kk
      · refine XS.icmpYes X198.here hx rfl (pc0 := 189) (pc' := 196) rfl (hb hby at_189) rfl (feq hc202).2 (by decide) (by decide) ?_
        show Steps p.tables e below (T198.setTop (mkF m 196 #[.val (.int p0), .val (.int p1), .val (.int v60), .val (.int v64), .val (.ref b65), .val (.ref aE), .val (.int (1 : Int32))] [(.int (own_f4 (0 : Int32) v60))])) _
        refine XS.iconst X198.here hx rfl (hb hby at_196) ?_
        rw [show v203 = (0 : Int32) by rw [hv203, if_neg hc202]] at kk
        exact kk)
    obtain ⟨fs, hr, hrun, hended, hW, hsame⟩ := X198.leave (v := some (.int (1 : Int32))) (fun h => by rw [Bd.returns] at h; cases h)
    refine ⟨_, _, pre204 _ ?_, hrun, hended, _, _, rfl, ?_, ⟨_, rfl⟩, hW, hsame.mono (by decide) (by decide)⟩
    · show Steps p.tables e below (T198.setTop (mkF m 197 #[.val (.int p0), .val (.int p1), .val (.int v60), .val (.int v64), .val (.ref b65), .val (.ref aE), .val (.int (1 : Int32))] [(.int v203), (.int (own_f4 (0 : Int32) v60))])) _
      refine XS.icmpNo X198.here hx rfl (hb hby at_197) rfl (teq ((own_side205 p0 p1 v60 hv60 v64 hv64 hc100 v203 hv203) : (own_f4 (0 : Int32) v60) = v203)).2 ?_
      show Steps p.tables e below (T198.setTop (mkF m 200 #[.val (.int p0), .val (.int p1), .val (.int v60), .val (.int v64), .val (.ref b65), .val (.ref aE), .val (.int (1 : Int32))] [])) _
      refine XS.iconst X198.here hx rfl (hb hby at_200) ?_
      show Steps p.tables e below (T198.setTop (mkF m 201 #[.val (.int p0), .val (.int p1), .val (.int v60), .val (.int v64), .val (.ref b65), .val (.ref aE), .val (.int (1 : Int32))] [(.int (1 : Int32))])) _
      refine XS.goto X198.here hx rfl (pc0 := 201) (pc' := 205) rfl (hb hby at_201) (by decide) (by decide) ?_
      show Steps p.tables e below (T198.setTop (mkF m 205 #[.val (.int p0), .val (.int p1), .val (.int v60), .val (.int v64), .val (.ref b65), .val (.ref aE), .val (.int (1 : Int32))] [(.int (1 : Int32))])) _
      refine XS.istore X198.here hx rfl (hb hby at_205) rfl (l' := #[.val (.int p0), .val (.int p1), .val (.int v60), .val (.int v64), .val (.ref b65), .val (.ref aE), .val (.int (1 : Int32))]) rfl ?_
      show Steps p.tables e below (T198.setTop (mkF m 207 #[.val (.int p0), .val (.int p1), .val (.int v60), .val (.int v64), .val (.ref b65), .val (.ref aE), .val (.int (1 : Int32))] [])) _
      refine XS.iload X198.here hx rfl (hb hby at_207) rfl ?_
      show Steps p.tables e below (T198.setTop (mkF m 209 #[.val (.int p0), .val (.int p1), .val (.int v60), .val (.int v64), .val (.ref b65), .val (.ref aE), .val (.int (1 : Int32))] [(.int (1 : Int32))])) _
      exact retN X198 hx (t := .boolean) Bd.returns (by simp) (hb hby at_209) hr
    · show own_Q0 Z p0 p1 aE ba kb db h0 n0 _ T198.heap _
      rw [e200]
      exact ⟨rfl, N199⟩
set_option maxRecDepth 65536 in
set_option maxHeartbeats 40000000 in
theorem comes_1 {Post : Tables → Env → Array Value → State → Outcome → State → Prop} (hpost : ∀ tb e args s v u, (limb_1_1.after args s (.returned v) u = true ∧ limb_1_2.after args s (.returned v) u = true ∧ True) → FrameEnd s (.returned v) u (Jvm.fieldLocs frame_1_writes args s ++ Jvm.arrayLocs frame_1_arrays args s ++ Jvm.staticLocs frame_1_statics s) 16 128 → Post tb e args s (.returned v) u) :
    ArmFor flags0 classFile x code maxLocals ret World_1 tables_1 room_1 Calls_1 rest_1 Pre_1 Post := by
  intro l hfl _ _ p e ha hc hk s m args below hf hA hF happ hP
  obtain ⟨hcalls, hrest, hpre⟩ := hP
  obtain ⟨-, -, -, hnamed, -, -, -, hat⟩ := (Spec.applies_iff hf).mp happ
  obtain ⟨hg, hn⟩ := and_e (Cond.before_iff.mp (show (Jvm.Cond.and given_1 narrow_1).before args s = true from hpre))
  obtain ⟨gg1, gg2⟩ := and_e hg
  obtain ⟨gg3, gg4⟩ := and_e gg2
  obtain ⟨w0, w1, rfl⟩ : ∃ w0 w1 : Value, args = #[w0, w1] := by
    have hs : args.size = 2 := by simpa [Cond.value, given_1] using gg1
    obtain ⟨L⟩ := args
    match L, hs with
    | [w0, w1], _ => exact ⟨w0, w1, rfl⟩
  have hw := fun d (hd : d ∈ tables_1) => atoms_spec (ws := Jvm.Cond.code x code maxLocals ret :: tables_1) hat d (List.mem_cons_of_mem _ hd)
  have hfit : Fit s := fun {y c} hc i hi => by
    obtain ⟨ha, rfl⟩ := Array.getElem?_eq_some_iff.mp hc
    have q := List.all_eq_true.mp ((Array.all_eq_true_iff_forall_mem.mp hF) _ (Array.getElem_mem ha)) i (List.mem_range.mpr hi)
    simpa [Array.getElem?_eq_getElem hi] using q
  obtain ⟨i0, ei0⟩ := is_v gg3
  obtain rfl : w0 = (.int i0) := Option.some.inj ei0
  obtain ⟨i1, ei1⟩ := is_v gg4
  obtain rfl : w1 = (.int i1) := Option.some.inj ei1
  obtain ⟨nn1, nn2⟩ := and_e hn
  obtain ⟨nn3, nn4⟩ := and_e nn2
  obtain ⟨aE, ev_E⟩ := exa_v nn1
  have Ex_E := Exa.start ev_E nn1
  have St_E := Sta.start ev_E (Or.inr ⟨(hw _ (List.mem_of_getElem? (i := 17) rfl)), (hw _ (List.mem_of_getElem? (i := 18) rfl))⟩)
  obtain ⟨ba, ev_b⟩ := arr_v nn3
  have Fb : Fld s s.heap aE "com/example/all1/all1/Bytes" "bytes" "[B" (.ref ba) := Fld.start ((fld_at ev_E).symm.trans ev_b)
  obtain ⟨cl, Ar⟩ := Arr.start ev_b nn3
  obtain ⟨lq, lz⟩ := IntBox.length_fwd (Cond.before_iff.mpr nn4) ev_b Ar.1 Ar.2.1 Ar.2.2
  have Av : Arv s s.heap ba cl.cls .byte (0 : Int32) [] (.int (0 : Int32)) := Arv.start hfit Ar lq lz (by decide) rfl trivial
  obtain ⟨n, o, h1, h2, h3, _, L, rfl, ⟨rfl, N⟩, hq⟩ := own_rm0 l s _ hw tables_1 i0 i1 aE ba cl.cls (.int (0 : Int32)) s.heap s.heap.size (Nat.le_refl _) St_E Ex_E Fb Av p e ha hc hk s m _ below hf ((Spec.applies_iff_loose hf).mp happ).1 ⟨rfl, State.Warmed39.refl s, rfl⟩ trivial
  refine ⟨n, _, h1, h2, h3, hpost _ _ _ _ _ _ ⟨Cond.after_iff.mpr rfl, Cond.after_iff.mpr (eq_i res_at (Term.int_eval (1)) rfl), trivial⟩ ⟨hq.1, hq.2.1, (hq.2.2.sift fun y hy => Or.inr (N y hy)).mono (by decide) (by decide)⟩⟩
theorem main_1_1 : Claimed_1_1 := comes_1 fun _ _ _ _ _ _ h hF => ⟨h.1, hF⟩
theorem main_1_2 : Claimed_1_2 := comes_1 fun _ _ _ _ _ _ h hF => ⟨h.2.1, hF⟩
end Jvm.Pilot.@@N@@
namespace Jvm.Pilot.@@N@@
open Jvm Jvm.ClassFile Sem Op Lib Jvm.Free Jvm.Stand Jvm.Pilot.@@N@@.Jvm.D
/-! MADE BY PROGRAM (witnessworld.py) out of the Statement's table words and the real class files: 15 classes; the members and pool entries that the words name. The judged class is class 1, her method 1. -/
namespace start1
open Jvm.ClassFile
def u (s : String) : CpInfo := .utf8 (stringToUtf16 s)
/-- a pool by its gaps: so many unusable entries, then the entry; so many at the end -/
def gap : Nat → List CpInfo → List CpInfo
  | 0, r => r
  | n + 1, r => .unusable :: gap n r
def poolList (es : List (Nat × CpInfo)) (last : Nat) : List CpInfo := es.foldr (fun e r => gap e.1 (e.2 :: r)) (gap last [])
def pool (es : List (Nat × CpInfo)) (last : Nat) : Array CpInfo := ⟨poolList es last⟩
def fileOf (pool : Array CpInfo) (this : Nat) (attrs : Array Attribute := #[]) (ms : Array MethodInfo := #[]) (fl : Nat := 33) (sup : Nat := 0) (ifs : Array Nat := #[]) (fds : Array FieldInfo := #[]) : ClassFile where
  minorVersion := 0
  majorVersion := 65
  constantPool := pool
  accessFlags := fl
  thisClass := this
  superClass := sup
  interfaces := ifs
  fields := fds
  methods := ms
  attributes := attrs
def plain (name : String) (sup : Option ClassId) : Class where
  name := name
  kind := .ordinary
  loader := none
  accessFlags := 33
  super := sup
  interfaces := #[]
  cf := none
  fields := #[]
  methods := #[]
  instanceTypes := #[]
  staticTypes := #[]
  resolved := #[]
  callSites := []
  init := .initialized
  statics := none
  mirror := none

def pool0 : Array CpInfo := pool [(5, u "<init>"), (0, u "()V"), (1, .class_ 10), (1, u "java/lang/Object")] 113

def k0c0 : Code := { maxStack := 0, maxLocals := 1, code := object_method_1_code, exceptionTable := #[], attributes := #[] }
def k0m0 : Method := { name := "<init>", desc := "()V", sig := { parameters := [], returnType := none }, accessFlags := 1, code := some k0c0 }
/-- java/lang/Object -/
def k0 : Class := { plain "java/lang/Object" none with
  accessFlags := 33
  interfaces := #[]
  cf := some (fileOf pool0 8 #[] #[{ accessFlags := 1, nameIndex := 5, descriptorIndex := 6, attributes := #[] }] 33 0 #[] #[])
  fields := #[]
  methods := #[k0m0]
  instanceTypes := #[]
  staticTypes := #[]
  resolved := Array.replicate 124 none
  statics := none }

def pool1 : Array CpInfo := pool [(2, .class_ 4), (1, u "java/lang/Object"), (0, u "<init>"), (0, u "()V"), (0, .methodref 8 9), (0, .class_ 10), (0, .nameAndType 11 12), (0, u "java/lang/Math"), (0, u "min"), (0, u "(II)I"), (0, .class_ 14), (0, u "com/example/all1/all1/RowFilter$Builder"), (0, .methodref 13 16), (0, .nameAndType 5 17), (0, u "(I)V"), (0, .fieldref 19 20), (0, .class_ 21), (0, .nameAndType 22 23), (0, u "com/example/all1/all1/Bytes"), (0, u "EMPTY"), (0, u "Lcom/example/all1/all1/Bytes;"), (0, .methodref 13 25), (0, .nameAndType 26 27), (0, u "isFull"), (0, u "()Z"), (0, .methodref 13 29), (0, .nameAndType 30 31), (0, u "add"), (0, u "(Lcom/example/all1/all1/Bytes;)V"), (0, .class_ 33), (0, u "com/example/all1/all1/BuilderIsFullPinLaw"), (2, u "law"), (0, u "(II)Z")] 7

def k1m0 : Method := { name := "<init>", desc := "()V", sig := { parameters := [], returnType := none }, accessFlags := 2, code := none }
def k1c1 : Code := { maxStack := 3, maxLocals := 7, code := code, exceptionTable := #[], attributes := #[] }
def k1m1 : Method := { name := "law", desc := "(II)Z", sig := { parameters := [.int, .int], returnType := some .boolean }, accessFlags := 9, code := some k1c1 }
/-- com/example/all1/all1/BuilderIsFullPinLaw -/
def k1 : Class := { plain "com/example/all1/all1/BuilderIsFullPinLaw" (some 0) with
  accessFlags := 49
  interfaces := #[]
  cf := some (fileOf pool1 32 #[] #[{ accessFlags := 2, nameIndex := 5, descriptorIndex := 6, attributes := #[] }, { accessFlags := 9, nameIndex := 36, descriptorIndex := 37, attributes := #[] }] 49 2 #[] #[])
  fields := #[]
  methods := #[k1m0, k1m1]
  instanceTypes := #[]
  staticTypes := #[]
  resolved := Array.replicate 45 none
  statics := none }

def pool2 : Array CpInfo := pool [(1, .class_ 2), (0, u "java/lang/Math"), (1, .class_ 6), (1, u "java/lang/Object"), (0, u "<init>"), (0, u "()V"), (89, .class_ 100), (1, u "java/lang/Math$RandomNumberGeneratorHolder"), (71, u "negativeZeroFloatBits"), (0, u "J"), (2, u "negativeZeroDoubleBits"), (24, u "min"), (43, u "$assertionsDisabled"), (0, u "Z"), (88, u "(II)I"), (2, u "twoToTheDoubleScaleDown"), (0, u "D"), (4, u "twoToTheDoubleScaleUp"), (9, u "E"), (3, u "PI"), (2, u "TAU"), (2, u "DEGREES_TO_RADIANS"), (0, u "RADIANS_TO_DEGREES")] 94

def k2m0 : Method := { name := "<init>", desc := "()V", sig := { parameters := [], returnType := none }, accessFlags := 2, code := none }
def k2c1 : Code := { maxStack := 2, maxLocals := 2, code := jdk_29_method_69_code, exceptionTable := #[], attributes := #[] }
def k2m1 : Method := { name := "min", desc := "(II)I", sig := { parameters := [.int, .int], returnType := some .int }, accessFlags := 9, code := some k2c1 }
/-- java/lang/Math -/
def k2 : Class := { plain "java/lang/Math" (some 0) with
  accessFlags := 49
  interfaces := #[]
  cf := some (fileOf pool2 1 #[.nestMembers #[98]] #[{ accessFlags := 2, nameIndex := 7, descriptorIndex := 8, attributes := #[] }, { accessFlags := 9, nameIndex := 201, descriptorIndex := 335, attributes := #[] }] 49 4 #[] #[{ accessFlags := 25, nameIndex := 354, descriptorIndex := 339, attributes := #[] }, { accessFlags := 25, nameIndex := 358, descriptorIndex := 339, attributes := #[] }, { accessFlags := 25, nameIndex := 361, descriptorIndex := 339, attributes := #[] }, { accessFlags := 26, nameIndex := 364, descriptorIndex := 339, attributes := #[] }, { accessFlags := 26, nameIndex := 365, descriptorIndex := 339, attributes := #[] }, { accessFlags := 26, nameIndex := 172, descriptorIndex := 173, attributes := #[] }, { accessFlags := 26, nameIndex := 176, descriptorIndex := 173, attributes := #[] }, { accessFlags := 8, nameIndex := 344, descriptorIndex := 339, attributes := #[] }, { accessFlags := 8, nameIndex := 338, descriptorIndex := 339, attributes := #[] }, { accessFlags := 4120, nameIndex := 245, descriptorIndex := 246, attributes := #[] }])
  fields := #[{ name := "E", type := .double, accessFlags := 25, slot := 0, constantValue := 0 }, { name := "PI", type := .double, accessFlags := 25, slot := 1, constantValue := 0 }, { name := "TAU", type := .double, accessFlags := 25, slot := 2, constantValue := 0 }, { name := "DEGREES_TO_RADIANS", type := .double, accessFlags := 26, slot := 3, constantValue := 0 }, { name := "RADIANS_TO_DEGREES", type := .double, accessFlags := 26, slot := 4, constantValue := 0 }, { name := "negativeZeroFloatBits", type := .long, accessFlags := 26, slot := 5, constantValue := 0 }, { name := "negativeZeroDoubleBits", type := .long, accessFlags := 26, slot := 6, constantValue := 0 }, { name := "twoToTheDoubleScaleUp", type := .double, accessFlags := 8, slot := 7, constantValue := 0 }, { name := "twoToTheDoubleScaleDown", type := .double, accessFlags := 8, slot := 8, constantValue := 0 }, { name := "$assertionsDisabled", type := .boolean, accessFlags := 4120, slot := 9, constantValue := 0 }]
  methods := #[k2m0, k2m1]
  instanceTypes := #[]
  staticTypes := #[.double, .double, .double, .double, .double, .long, .long, .double, .double, .boolean]
  resolved := Array.replicate 460 none
  statics := none }

def pool3 : Array CpInfo := pool [(1, .class_ 2), (0, u "com/example/all1/all1/RowFilter"), (0, .methodref 4 5), (0, .class_ 6), (0, .nameAndType 7 8), (0, u "java/lang/Object"), (0, u "<init>"), (0, u "()V"), (0, .fieldref 10 11), (0, .class_ 12), (0, .nameAndType 13 14), (0, u "com/example/all1/all1/RowFilter$Builder"), (0, u "hashes"), (0, u "[J"), (0, .methodref 10 16), (0, .nameAndType 17 18), (0, u "isFull"), (0, u "()Z"), (2, .fieldref 10 22), (0, .nameAndType 23 24), (0, u "rows"), (0, u "I"), (7, .methodref 1 33), (0, .nameAndType 34 35), (0, u "hash"), (0, u "(Lcom/example/all1/all1/Bytes;)J"), (26, u "(I)V"), (2, u "add"), (0, u "(Lcom/example/all1/all1/Bytes;)V")] 23

def k3c0 : Code := { maxStack := 2, maxLocals := 2, code := prog_51_method_1_code, exceptionTable := #[], attributes := #[] }
def k3m0 : Method := { name := "<init>", desc := "(I)V", sig := { parameters := [.int], returnType := none }, accessFlags := 0, code := some k3c0 }
def k3c1 : Code := { maxStack := 5, maxLocals := 2, code := prog_51_method_2_code, exceptionTable := #[], attributes := #[] }
def k3m1 : Method := { name := "add", desc := "(Lcom/example/all1/all1/Bytes;)V", sig := { parameters := [(.object "com/example/all1/all1/Bytes")], returnType := none }, accessFlags := 0, code := some k3c1 }
def k3c2 : Code := { maxStack := 2, maxLocals := 1, code := prog_51_method_3_code, exceptionTable := #[], attributes := #[] }
def k3m2 : Method := { name := "isFull", desc := "()Z", sig := { parameters := [], returnType := some .boolean }, accessFlags := 0, code := some k3c2 }
/-- com/example/all1/all1/RowFilter$Builder -/
def k3 : Class := { plain "com/example/all1/all1/RowFilter$Builder" (some 0) with
  accessFlags := 32
  interfaces := #[]
  cf := some (fileOf pool3 10 #[.nestHost 1] #[{ accessFlags := 0, nameIndex := 7, descriptorIndex := 62, attributes := #[] }, { accessFlags := 0, nameIndex := 65, descriptorIndex := 66, attributes := #[] }, { accessFlags := 0, nameIndex := 17, descriptorIndex := 18, attributes := #[] }] 32 4 #[] #[{ accessFlags := 18, nameIndex := 13, descriptorIndex := 14, attributes := #[] }, { accessFlags := 2, nameIndex := 23, descriptorIndex := 24, attributes := #[] }])
  fields := #[{ name := "hashes", type := (.array .long), accessFlags := 18, slot := 0, constantValue := 0 }, { name := "rows", type := .int, accessFlags := 2, slot := 1, constantValue := 0 }]
  methods := #[k3m0, k3m1, k3m2]
  instanceTypes := #[(.array .long), .int]
  staticTypes := #[]
  resolved := Array.replicate 90 none
  statics := none }

def pool4 : Array CpInfo := pool [(1, .class_ 2), (0, u "java/lang/Comparable"), (0, .class_ 4), (0, u "java/lang/Object")] 7

/-- java/lang/Comparable -/
def k4 : Class := { plain "java/lang/Comparable" (some 0) with
  accessFlags := 1537
  interfaces := #[]
  cf := some (fileOf pool4 1 #[] #[] 1537 3 #[] #[])
  fields := #[]
  methods := #[]
  instanceTypes := #[]
  staticTypes := #[]
  resolved := Array.replicate 12 none
  statics := none }

def pool5 : Array CpInfo := pool [(2, .class_ 4), (1, u "java/lang/Object"), (2, .fieldref 8 9), (0, .class_ 10), (0, .nameAndType 11 12), (0, u "com/example/all1/all1/Bytes"), (0, u "bytes"), (0, u "[B"), (46, u "hash"), (0, u "I"), (22, u "HEX_DIGITS"), (0, u "[C"), (10, u "EMPTY"), (0, u "Lcom/example/all1/all1/Bytes;"), (8, .class_ 106), (0, u "java/lang/Comparable"), (7, u "length"), (0, u "()I")] 23

def k5c0 : Code := { maxStack := 1, maxLocals := 1, code := prog_7_method_5_code, exceptionTable := #[], attributes := #[] }
def k5m0 : Method := { name := "length", desc := "()I", sig := { parameters := [], returnType := some .int }, accessFlags := 1, code := some k5c0 }
/-- com/example/all1/all1/Bytes -/
def k5 : Class := { plain "com/example/all1/all1/Bytes" (some 0) with
  accessFlags := 33
  interfaces := #[4]
  cf := some (fileOf pool5 8 #[] #[{ accessFlags := 1, nameIndex := 114, descriptorIndex := 115, attributes := #[] }] 33 2 #[105] #[{ accessFlags := 25, nameIndex := 95, descriptorIndex := 96, attributes := #[] }, { accessFlags := 26, nameIndex := 83, descriptorIndex := 84, attributes := #[] }, { accessFlags := 18, nameIndex := 11, descriptorIndex := 12, attributes := #[] }, { accessFlags := 2, nameIndex := 59, descriptorIndex := 60, attributes := #[] }])
  fields := #[{ name := "EMPTY", type := (.object "com/example/all1/all1/Bytes"), accessFlags := 25, slot := 0, constantValue := 0 }, { name := "HEX_DIGITS", type := (.array .char), accessFlags := 26, slot := 1, constantValue := 0 }, { name := "bytes", type := (.array .byte), accessFlags := 18, slot := 0, constantValue := 0 }, { name := "hash", type := .int, accessFlags := 2, slot := 1, constantValue := 0 }]
  methods := #[k5m0]
  instanceTypes := #[(.array .byte), .int]
  staticTypes := #[(.object "com/example/all1/all1/Bytes"), (.array .char)]
  resolved := Array.replicate 139 none
  statics := some 0 }

def pool6 : Array CpInfo := pool [(4, .class_ 6), (1, u "java/lang/Object"), (0, u "<init>"), (0, u "()V"), (0, .class_ 10), (0, u "com/example/all1/all1/RowFilter"), (25, u "hash"), (0, u "(Lcom/example/all1/all1/Bytes;)J"), (11, .long 14695981039346656037), (1, .methodref 52 53), (0, .class_ 54), (0, .nameAndType 55 56), (0, u "com/example/all1/all1/Bytes"), (0, u "length"), (0, u "()I"), (4, .long 1099511628211), (1, .long 18397679294719823053), (1, .long 14181476777654086739), (1, u "BITS_PER_ROW"), (0, u "I"), (2, u "HASHES"), (1, u "MOST_HASHES"), (1, u "HEADER_BYTES"), (1, u "OFFSET_BASIS"), (0, u "J"), (0, u "PRIME"), (9, .class_ 90), (0, u "com/example/all1/all1/RowFilter$Builder")] 16

def k6m0 : Method := { name := "<init>", desc := "()V", sig := { parameters := [], returnType := none }, accessFlags := 2, code := none }
def k6c1 : Code := { maxStack := 5, maxLocals := 4, code := prog_50_method_4_code, exceptionTable := #[], attributes := #[] }
def k6m1 : Method := { name := "hash", desc := "(Lcom/example/all1/all1/Bytes;)J", sig := { parameters := [(.object "com/example/all1/all1/Bytes")], returnType := some .long }, accessFlags := 10, code := some k6c1 }
/-- com/example/all1/all1/RowFilter -/
def k6 : Class := { plain "com/example/all1/all1/RowFilter" (some 0) with
  accessFlags := 32
  interfaces := #[]
  cf := some (fileOf pool6 9 #[.nestMembers #[89]] #[{ accessFlags := 2, nameIndex := 7, descriptorIndex := 8, attributes := #[] }, { accessFlags := 10, nameIndex := 36, descriptorIndex := 37, attributes := #[] }] 32 4 #[] #[{ accessFlags := 26, nameIndex := 67, descriptorIndex := 68, attributes := #[] }, { accessFlags := 26, nameIndex := 71, descriptorIndex := 68, attributes := #[] }, { accessFlags := 26, nameIndex := 73, descriptorIndex := 68, attributes := #[] }, { accessFlags := 26, nameIndex := 75, descriptorIndex := 68, attributes := #[] }, { accessFlags := 26, nameIndex := 77, descriptorIndex := 78, attributes := #[] }, { accessFlags := 26, nameIndex := 79, descriptorIndex := 78, attributes := #[] }])
  fields := #[{ name := "BITS_PER_ROW", type := .int, accessFlags := 26, slot := 0, constantValue := 0 }, { name := "HASHES", type := .int, accessFlags := 26, slot := 1, constantValue := 0 }, { name := "MOST_HASHES", type := .int, accessFlags := 26, slot := 2, constantValue := 0 }, { name := "HEADER_BYTES", type := .int, accessFlags := 26, slot := 3, constantValue := 0 }, { name := "OFFSET_BASIS", type := .long, accessFlags := 26, slot := 4, constantValue := 0 }, { name := "PRIME", type := .long, accessFlags := 26, slot := 5, constantValue := 0 }]
  methods := #[k6m0, k6m1]
  instanceTypes := #[]
  staticTypes := #[.int, .int, .int, .int, .long, .long]
  resolved := Array.replicate 107 none
  statics := none }

def pool7 : Array CpInfo := pool [(1, u "java/lang/Cloneable"), (0, .class_ 1), (0, u "java/lang/Object"), (0, .class_ 3)] 3

/-- java/lang/Cloneable -/
def k7 : Class := { plain "java/lang/Cloneable" (some 0) with
  accessFlags := 1537
  interfaces := #[]
  cf := some (fileOf pool7 2 #[] #[] 1537 4 #[] #[])
  fields := #[]
  methods := #[]
  instanceTypes := #[]
  staticTypes := #[]
  resolved := Array.replicate 8 none
  statics := none }

def pool8 : Array CpInfo := pool [(1, u "java/io/Serializable"), (0, .class_ 1), (0, u "java/lang/Object"), (0, .class_ 3)] 3

/-- java/io/Serializable -/
def k8 : Class := { plain "java/io/Serializable" (some 0) with
  accessFlags := 1537
  interfaces := #[]
  cf := some (fileOf pool8 2 #[] #[] 1537 4 #[] #[])
  fields := #[]
  methods := #[]
  instanceTypes := #[]
  staticTypes := #[]
  resolved := Array.replicate 8 none
  statics := none }

/-- the primitive byte -/
def k9 : Class := { plain "byte" none with kind := .primitive 'B', accessFlags := 0x411 }
/-- [B -/
def k10 : Class := { plain "[B" (some 0) with kind := .array 9 .byte, interfaces := #[7, 8], accessFlags := 1041 }

/-- the primitive int -/
def k11 : Class := { plain "int" none with kind := .primitive 'I', accessFlags := 0x411 }
/-- [I -/
def k12 : Class := { plain "[I" (some 0) with kind := .array 11 .int, interfaces := #[7, 8], accessFlags := 1041 }

/-- the primitive long -/
def k13 : Class := { plain "long" none with kind := .primitive 'J', accessFlags := 0x411 }
/-- [J -/
def k14 : Class := { plain "[J" (some 0) with kind := .array 13 .long, interfaces := #[7, 8], accessFlags := 1041 }

def heap : Heap := #[{ cls := 5, slots := #[.ref 2, .null], vm := .statics 5 },
  { cls := 10, slots := #[], vm := .none },
  { cls := 5, slots := #[.ref 1, .int 0], vm := .none }]
def classes : Array Class := #[k0, k1, k2, k3, k4, k5, k6, k7, k8, k9, k10, k11, k12, k13, k14]
def interned : List (Array UInt16 × Addr) := []
def slotsUsed : Nat := 4
def theMethod : MethodId := ⟨1, 1⟩
def args0 : Array Value := #[.int 5, .int 6]
def aboutOver (below : List Frame) : State where
  vm := { classes := classes, interned := interned.toArray }
  heap := heap
  slotsUsed := slotsUsed
  threads := #[{ frames := .invoking theMethod args0 :: below }]
def below0 : List Frame := [.native { method := ⟨0, 0⟩, args := #[] }]
def about1 : State := aboutOver below0
def p0 : Program := .bare "" "" ""
def e0 : Env := launch0.env 0 0 0
theorem w_frames : about1.frames = Frame.invoking theMethod args0 :: below0 := rfl
set_option maxRecDepth 65536 in
theorem w_args : argsFit about1.vm theMethod args0 = true := by decide +kernel
set_option maxRecDepth 65536 in
theorem w_heap : heapFits about1 = true := by decide +kernel
set_option maxRecDepth 65536 in
theorem w_runnable : about1.curStatus? = some .runnable := by decide +kernel
set_option maxRecDepth 65536 in
theorem w_alone : about1.alone = true := by decide +kernel
set_option maxRecDepth 65536 in
theorem w_named : about1.methodNamed? x = some theMethod := by decide +kernel
set_option maxRecDepth 65536 in
theorem w_hears : about1.hears theMethod below0 = true := by decide +kernel
set_option maxRecDepth 65536 in
theorem w_ripe : about1.ripe theMethod args0 below0 = true := by decide +kernel
theorem w_running : about1.status = .running := rfl
set_option maxRecDepth 65536 in
theorem w_room : about1.hasRoom e0.platform room_1 = true :=
  launch0.hasRoom_least _ room_1 (by decide +kernel) (by decide +kernel) (by decide +kernel) (by decide +kernel) (by decide +kernel) (by decide +kernel)
theorem allAtoms_all (ts : List Jvm.Cond) (a : Array Jvm.Value) (st : Jvm.State) : (allAtoms ts).before a st = ts.all (fun c => c.before a st) := by
  induction ts with
  | nil => rfl
  | cons c t ih =>
    show (Jvm.Cond.and c (allAtoms t)).before a st = _
    rw [Jvm.Cond.before_and, ih, List.all_cons]
def words1 : List Jvm.Cond := Jvm.Cond.code x code maxLocals ret :: tables_1
/-- a 'code' word, met by the world's own term for the bytes: nothing is compared byte by byte -/
theorem code_word {y : MethodName} {bytes : ByteArray} {mx : Nat} {rt : Option FieldType} {a : Array Value} {s : State} {m : MethodId} {meth : Method} {c : Code} (h1 : s.methodNamed? y = some m) (h2 : s.vm.method? m = some meth) (h3 : meth.code = some c) (h4 : c.code = bytes)
    (h5 : (c.maxLocals == mx && c.exceptionTable.isEmpty && decide (c.maxStack ≤ mostOperands) && decide (meth.sig.returnType = rt) && !meth.locks && decide (parseMethodDescriptor y.desc = some meth.sig)) = true) : (Jvm.Cond.code y bytes mx rt).before a s = true := by
  simp only [Bool.and_eq_true, beq_iff_eq, Bool.not_eq_true', decide_eq_true_eq] at h5
  obtain ⟨⟨⟨⟨⟨g1, g2⟩, g3⟩, g4⟩, g5⟩, g6⟩ := h5
  simp [Cond.before, Cond.holds, Cond.value, h1, h2, h3, h4, g1, g2, g3, g4, g5, g6]
def isCode : Jvm.Cond → Bool
  | .code _ _ _ _ => true
  | _ => false
theorem all_split {L : List Jvm.Cond} {P : Jvm.Cond → Bool} (h1 : L.all (fun c => isCode c || P c) = true) (h2 : ∀ c ∈ L.filter isCode, P c = true) : L.all P = true := by
  refine List.all_eq_true.mpr fun c hc => ?_
  have h := List.all_eq_true.mp h1 c hc
  rcases Bool.eq_false_or_eq_true (isCode c) with hi | hi
  · exact h2 c (List.mem_filter.mpr ⟨hc, hi⟩)
  · simpa [hi] using h
set_option maxRecDepth 65536 in
theorem w_c0 : (Jvm.Cond.code x code maxLocals ret).before args0 about1 = true := code_word (m := ⟨1, 1⟩) (meth := k1m1) (c := k1c1) (by decide +kernel) rfl rfl rfl (by decide +kernel)
set_option maxRecDepth 65536 in
theorem w_c1 : (Jvm.Cond.code ({ cls := "java/lang/Math", name := "min", desc := "(II)I" } : Jvm.MethodName) jdk_29_method_69_code (2 : Nat) (Option.some Jvm.ClassFile.FieldType.int)).before args0 about1 = true := code_word (m := ⟨2, 1⟩) (meth := k2m1) (c := k2c1) (by decide +kernel) rfl rfl rfl (by decide +kernel)
set_option maxRecDepth 65536 in
theorem w_c2 : (Jvm.Cond.code ({ cls := "com/example/all1/all1/RowFilter$Builder", name := "<init>", desc := "(I)V" } : Jvm.MethodName) prog_51_method_1_code (2 : Nat) (Option.none : Option Jvm.ClassFile.FieldType)).before args0 about1 = true := code_word (m := ⟨3, 0⟩) (meth := k3m0) (c := k3c0) (by decide +kernel) rfl rfl rfl (by decide +kernel)
set_option maxRecDepth 65536 in
theorem w_c3 : (Jvm.Cond.code ({ cls := "java/lang/Object", name := "<init>", desc := "()V" } : Jvm.MethodName) object_method_1_code (1 : Nat) (Option.none : Option Jvm.ClassFile.FieldType)).before args0 about1 = true := code_word (m := ⟨0, 0⟩) (meth := k0m0) (c := k0c0) (by decide +kernel) rfl rfl rfl (by decide +kernel)
set_option maxRecDepth 65536 in
theorem w_c4 : (Jvm.Cond.code ({ cls := "com/example/all1/all1/RowFilter$Builder", name := "isFull", desc := "()Z" } : Jvm.MethodName) prog_51_method_3_code (1 : Nat) (Option.some Jvm.ClassFile.FieldType.boolean)).before args0 about1 = true := code_word (m := ⟨3, 2⟩) (meth := k3m2) (c := k3c2) (by decide +kernel) rfl rfl rfl (by decide +kernel)
set_option maxRecDepth 65536 in
theorem w_c5 : (Jvm.Cond.code ({ cls := "com/example/all1/all1/RowFilter$Builder", name := "add", desc := "(Lcom/example/all1/all1/Bytes;)V" } : Jvm.MethodName) prog_51_method_2_code (2 : Nat) (Option.none : Option Jvm.ClassFile.FieldType)).before args0 about1 = true := code_word (m := ⟨3, 1⟩) (meth := k3m1) (c := k3c1) (by decide +kernel) rfl rfl rfl (by decide +kernel)
set_option maxRecDepth 65536 in
theorem w_c6 : (Jvm.Cond.code ({ cls := "com/example/all1/all1/RowFilter", name := "hash", desc := "(Lcom/example/all1/all1/Bytes;)J" } : Jvm.MethodName) prog_50_method_4_code (4 : Nat) (Option.some Jvm.ClassFile.FieldType.long)).before args0 about1 = true := code_word (m := ⟨6, 1⟩) (meth := k6m1) (c := k6c1) (by decide +kernel) rfl rfl rfl (by decide +kernel)
set_option maxRecDepth 65536 in
theorem w_c7 : (Jvm.Cond.code ({ cls := "com/example/all1/all1/Bytes", name := "length", desc := "()I" } : Jvm.MethodName) prog_7_method_5_code (1 : Nat) (Option.some Jvm.ClassFile.FieldType.int)).before args0 about1 = true := code_word (m := ⟨5, 0⟩) (meth := k5m0) (c := k5c0) (by decide +kernel) rfl rfl rfl (by decide +kernel)
def codes1 : List Jvm.Cond := [Jvm.Cond.code x code maxLocals ret, Jvm.Cond.code ({ cls := "java/lang/Math", name := "min", desc := "(II)I" } : Jvm.MethodName) jdk_29_method_69_code (2 : Nat) (Option.some Jvm.ClassFile.FieldType.int), Jvm.Cond.code ({ cls := "com/example/all1/all1/RowFilter$Builder", name := "<init>", desc := "(I)V" } : Jvm.MethodName) prog_51_method_1_code (2 : Nat) (Option.none : Option Jvm.ClassFile.FieldType), Jvm.Cond.code ({ cls := "java/lang/Object", name := "<init>", desc := "()V" } : Jvm.MethodName) object_method_1_code (1 : Nat) (Option.none : Option Jvm.ClassFile.FieldType), Jvm.Cond.code ({ cls := "com/example/all1/all1/RowFilter$Builder", name := "isFull", desc := "()Z" } : Jvm.MethodName) prog_51_method_3_code (1 : Nat) (Option.some Jvm.ClassFile.FieldType.boolean), Jvm.Cond.code ({ cls := "com/example/all1/all1/RowFilter$Builder", name := "add", desc := "(Lcom/example/all1/all1/Bytes;)V" } : Jvm.MethodName) prog_51_method_2_code (2 : Nat) (Option.none : Option Jvm.ClassFile.FieldType), Jvm.Cond.code ({ cls := "com/example/all1/all1/RowFilter", name := "hash", desc := "(Lcom/example/all1/all1/Bytes;)J" } : Jvm.MethodName) prog_50_method_4_code (4 : Nat) (Option.some Jvm.ClassFile.FieldType.long), Jvm.Cond.code ({ cls := "com/example/all1/all1/Bytes", name := "length", desc := "()I" } : Jvm.MethodName) prog_7_method_5_code (1 : Nat) (Option.some Jvm.ClassFile.FieldType.int)]
set_option maxRecDepth 65536 in
theorem codes_eq : words1.filter isCode = codes1 := rfl
theorem w_codes : ∀ c ∈ words1.filter isCode, c.before args0 about1 = true := by
  rw [codes_eq]
  intro c hc
  simp only [codes1, List.mem_cons, List.not_mem_nil, or_false] at hc
  rcases hc with rfl | rfl | rfl | rfl | rfl | rfl | rfl | rfl
  · exact w_c0
  · exact w_c1
  · exact w_c2
  · exact w_c3
  · exact w_c4
  · exact w_c5
  · exact w_c6
  · exact w_c7
set_option maxRecDepth 65536 in
theorem w_t1 : (words1.take 24).all (fun c => isCode c || c.before args0 about1) = true := by decide +kernel
set_option maxRecDepth 65536 in
theorem w_t2 : (words1.drop 24).all (fun c => isCode c || c.before args0 about1) = true := by decide +kernel
theorem w_tables : (allAtoms (Jvm.Cond.code x code maxLocals ret :: tables_1)).before args0 about1 = true := by
  rw [allAtoms_all]
  show words1.all (fun c => c.before args0 about1) = true
  refine all_split ?_ w_codes
  rw [← List.take_append_drop 24 words1, List.all_append, w_t1, w_t2]
  rfl
set_option maxRecDepth 65536 in
theorem w_case : (Jvm.Cond.and given_1 narrow_1).before args0 about1 = true := by decide +kernel
theorem w_applies : (headSpec (Jvm.Cond.code x code maxLocals ret :: tables_1) room_1).applies x e0.platform about1 = true :=
  (Spec.applies_iff w_frames).mpr ⟨w_running, w_runnable, w_alone, w_named, w_hears, w_ripe, w_room, w_tables⟩
theorem atStart : AtStart classFile x code maxLocals ret World_1 tables_1 room_1 Calls_1 rest_1 Pre_1 launch0 p0 e0 about1 theMethod args0 below0 :=
  ⟨lists_1, trivial, launch0.admits_env _ _ _, launch0.least_env, fairChoices_fair.cas, fairChoices_fair.clock, w_frames, w_args, w_heap, w_applies, trivial, trivial, w_case⟩
end start1
theorem witness_1 : WitnessClaimed_1 := ⟨start1.p0, start1.e0, start1.about1, start1.theMethod, start1.args0, start1.below0, start1.atStart⟩
end Jvm.Pilot.@@N@@
