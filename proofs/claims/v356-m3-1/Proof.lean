import JvmDerived
import JvmDerived.Pilot.@@N@@Statement
import JvmDerived.Pilot.@@N@@Code
set_option linter.unusedVariables false
set_option linter.unusedSimpArgs false
namespace Jvm.RoadKit
open Sem ClassFile Op Lib Jvm.Stand Jvm.Free Jvm.LawKit
section New
variable {p : Program} {l : Launch} {e : Env} {R : Room} {s : State} {m : MethodId} {args : Array Value} {below : List Frame} {meth : Method} {c : Code} {T : State} {locs : List Loc} {cells slots : Nat}
theorem retI (X : Stand p l e R s m args below meth c T locs cells slots) (hx : p.tables.exec = Jvm.exec) {pc : Nat} {Ls : Array Slot} {z : Int32} {rest : List Value} (hret : meth.sig.returnType = some .int) (hd : decode c.code pc = .ok (.ireturn, 1)) {fs : List Frame}
    (hl : ∀ (f : JFrame) (acts : List Action), f.method = m → f.locked = none → f.entered = [] → (doReturn e (T.setTop f) acts (some (.int z))).1 = T.setFrames fs) : Steps p.tables e below (T.setTop (mkF m pc Ls (.int z :: rest))) (T.setFrames fs) := by
  have hm' : T.vm.method? m = some meth := X.method'
  have hn : narrow .int (.int z) = .int z := rfl
  show Steps p.tables e below (T.setTop { method := m, pc := pc, locals := Ls, stack := _ :: rest, locked := none }) _
  jvm_step X.here [X.here.top, hx, hd, hm', hret, hn]
  first | (intro acts; rw [hl _ acts rfl rfl rfl]) | rw [hl _ _ rfl rfl rfl]
  exact Steps.refl _
end New
end Jvm.RoadKit
namespace Jvm.Pilot.@@N@@
open Jvm Jvm.ClassFile Sem Op Lib Jvm.Free Jvm.Stand Jvm.LawKit Jvm.RoadKit Bundle Jvm.Pilot.@@N@@.Jvm.D
theorem own_wS {a0 : Array Value} {Z : State} (hw : ∀ d ∈ tables_1, d.before a0 Z = true) : ∀ a ∈ Bundle.stringAtoms, a.before a0 Z = true := fun d hd => by
  simp only [Bundle.stringAtoms, List.mem_cons, List.not_mem_nil, or_false] at hd
  rcases hd with rfl | rfl | rfl | rfl | rfl | rfl | rfl
  · exact (hw _ (List.mem_of_getElem? (i := 4) rfl))
  · exact (hw _ (List.mem_of_getElem? (i := 5) rfl))
  · exact (hw _ (List.mem_of_getElem? (i := 6) rfl))
  · exact (hw _ (List.mem_of_getElem? (i := 7) rfl))
  · exact (hw _ (List.mem_of_getElem? (i := 8) rfl))
  · exact (hw _ (List.mem_of_getElem? (i := 9) rfl))
  · exact (hw _ (List.mem_of_getElem? (i := 10) rfl))
theorem own_d1_0 : decode prog_20_method_1_code 0 = .ok (.aload_n 0, 1) := by decide +kernel
theorem own_d1_1 : decode prog_20_method_1_code 1 = .ok (.invokespecial 5, 3) := by decide +kernel
theorem own_d1_4 : decode prog_20_method_1_code 4 = .ok (.aload_n 0, 1) := by decide +kernel
theorem own_d1_5 : decode prog_20_method_1_code 5 = .ok (.aload_n 1, 1) := by decide +kernel
theorem own_d1_6 : decode prog_20_method_1_code 6 = .ok (.putfield 11, 3) := by decide +kernel
theorem own_d1_9 : decode prog_20_method_1_code 9 = .ok (.aload_n 0, 1) := by decide +kernel
theorem own_d1_10 : decode prog_20_method_1_code 10 = .ok (.lload_n 2, 1) := by decide +kernel
theorem own_d1_11 : decode prog_20_method_1_code 11 = .ok (.putfield 15, 3) := by decide +kernel
theorem own_d1_14 : decode prog_20_method_1_code 14 = .ok (.aload_n 0, 1) := by decide +kernel
theorem own_d1_15 : decode prog_20_method_1_code 15 = .ok (.lload 4, 2) := by decide +kernel
theorem own_d1_17 : decode prog_20_method_1_code 17 = .ok (.putfield 19, 3) := by decide +kernel
theorem own_d1_20 : decode prog_20_method_1_code 20 = .ok (.aload_n 0, 1) := by decide +kernel
theorem own_d1_21 : decode prog_20_method_1_code 21 = .ok (.aload 6, 2) := by decide +kernel
theorem own_d1_23 : decode prog_20_method_1_code 23 = .ok (.putfield 22, 3) := by decide +kernel
theorem own_d1_26 : decode prog_20_method_1_code 26 = .ok (.return_, 1) := by decide +kernel
theorem own_pn15 : plainName "com/example/syncline/syncline/store/Record" = true := by first | (simp [plainName, overriddenIn]; done) | decide +kernel
theorem own_efRN (m : MethodId) (a0 : Addr) (q2 : Int64) (q3 : Int64) (a4 : Addr) : entryFrame m #[(.ref a0), .null, (.long q2), (.long q3), (.ref a4)] 7 = mkF m 0 #[.val (.ref a0), .val .null, .val (.long q2), .second, .val (.long q3), .second, .val (.ref a4)] [] := by first | (simp [entryFrame, mkF, argsToLocals, Value.category]; done) | rfl
def own_QRN (Z : State) (a0 : Addr) (q2 : Int64) (q3 : Int64) (a4 : Addr) (h0 : Heap) (n0 : Nat) (v : Option Value) (h : Heap) (L : List Loc) : Prop := v = none ∧ Fr n0 L ∧ Keep h0 h [a0] ∧ (Exa Z h a0 "com/example/syncline/syncline/store/Record") ∧ (Fld Z h a0 "com/example/syncline/syncline/store/Record" "expiresAtMillis" "J" (.long q2))
set_option maxRecDepth 65536 in
set_option maxHeartbeats 40000000 in
theorem own_rmRN (l : Launch) (Z : State) (av : Array Value) (hw : ∀ d ∈ tables_1, d.before av Z = true) (ws : List Jvm.Cond) (a0 : Addr) (q2 : Int64) (q3 : Int64) (a4 : Addr) (h0 : Heap) (n0 : Nat) (Z0 : n0 ≤ h0.size) (pr0 : Exa Z h0 a0 "com/example/syncline/syncline/store/Record") (pr1 : Fld Z h0 a0 "com/example/syncline/syncline/store/Record" "value" "Ljava/lang/String;" .null) (pr2 : Fld Z h0 a0 "com/example/syncline/syncline/store/Record" "expiresAtMillis" "J" (.long (0 : Int64))) (pr3 : Fld Z h0 a0 "com/example/syncline/syncline/store/Record" "time" "J" (.long (0 : Int64))) (pr4 : Fld Z h0 a0 "com/example/syncline/syncline/store/Record" "node" "Ljava/lang/String;" .null) (g_a0 : n0 ≤ a0) :
    MetFree l (⟨"com/example/syncline/syncline/store/Record", "<init>", "(Ljava/lang/String;JJLjava/lang/String;)V"⟩ : MethodName) (head1 (Jvm.Cond.code (⟨"com/example/syncline/syncline/store/Record", "<init>", "(Ljava/lang/String;JJLjava/lang/String;)V"⟩ : MethodName) prog_20_method_1_code 7 none :: ws) ({ frames := 1, cells := 0, slots := 0, locals := 12 } : Room)) (fun a U => a = #[(.ref a0), .null, (.long q2), (.long q3), (.ref a4)] ∧ Z.Warmed39 U.vm ∧ U.heap = h0) (fun _ _ _ _ _ => True) (fun _ U o U' => ∃ v L, o = .returned v ∧ own_QRN Z a0 q2 q3 a4 h0 n0 v U'.heap L ∧ FrameEnd U o U' L ({ frames := 1, cells := 0, slots := 0, locals := 12 } : Room).cells ({ frames := 1, cells := 0, slots := 0, locals := 12 } : Room).slots) := by
  refine MetFree.of_bodySF (plainFor_of_name own_pn15) hisR ?_
  intro p e s m args below meth c s₁ Bd hml0 hP hK
  obtain ⟨rfl, hZ, hh⟩ := hP
  have hx := Bd.exec
  have hby := Bd.bytes
  have hml : c.maxLocals = 7 := hml0
  have hown : s.vm.findClass "com/example/syncline/syncline/store/Record" = some m.cls := findClass_of_methodNamed Bd.named
  have hnm := (name_of_methodNamed Bd.named Bd.method).1
  have X0 : Stand p l e ({ frames := 1, cells := 0, slots := 0, locals := 12 } : Room) s m #[(.ref a0), .null, (.long q2), (.long q3), (.ref a4)] below meth c s₁ [] 0 0 := Stand.of_body Bd
  have e0 : s₁.heap = h0 := by rw [← hh, Bd.state]; rfl
  have N0 := Fr.nil n0
  have pre0 : ∀ t, Steps p.tables e below (s₁.setTop (mkF m 0 #[.val (.ref a0), .val .null, .val (.long q2), .second, .val (.long q3), .second, .val (.ref a4)] [])) t → Steps p.tables e below (s₁.setTop (entryFrame m #[(.ref a0), .null, (.long q2), (.long q3), (.ref a4)] 7)) t := fun t k => castTop (own_efRN m a0 q2 q3 a4) k
  obtain ⟨T1, X1, e1, st1⟩ := initO X0 hx hZ hown (hw _ (List.mem_of_getElem? (i := 14) rfl)) (hw _ (List.mem_of_getElem? (i := 15) rfl)) (hw _ (List.mem_of_getElem? (i := 16) rfl)) e0 (g := (mkF m 1 #[.val (.ref a0), .val .null, .val (.long q2), .second, .val (.long q3), .second, .val (.ref a4)] [(.ref a0)])) rfl (by rw [hml]; rfl) rfl (hb hby own_d1_1) (by decide) (W := 0) (by show 2 * 0 + _ ≤ _; exact Nat.le_of_eq rfl) (by decide)
  obtain ⟨T2, h2, X2, e2, W2, st2⟩ := putF X1 hx hZ hown (host := "") (Or.inl (hw _ (List.mem_of_getElem? (i := 17) rfl))) Via.refl e1 pr1 pr0 (Or.inr ⟨(hw _ (List.mem_of_getElem? (i := 18) rfl)), rfl, hnm⟩) (hw _ (List.mem_of_getElem? (i := 1) rfl)) (ty := (.object "java/lang/String")) (by decide) rfl rfl (g := (mkF m 6 #[.val (.ref a0), .val .null, .val (.long q2), .second, .val (.long q3), .second, .val (.ref a4)] [.null, (.ref a0)])) rfl rfl (hb hby own_d1_6)
  have f3 := pr0.wr W2
  have f4 := pr2.other W2 (Or.inr (slot_ne (Or.inr (hw _ (List.mem_of_getElem? (i := 20) rfl))) (Or.inr (hw _ (List.mem_of_getElem? (i := 18) rfl))) (by decide) (t := .long) (t' := (.object "java/lang/String")) (by decide) (by decide)))
  have f5 := pr3.other W2 (Or.inr (slot_ne (Or.inr (hw _ (List.mem_of_getElem? (i := 22) rfl))) (Or.inr (hw _ (List.mem_of_getElem? (i := 18) rfl))) (by decide) (t := .long) (t' := (.object "java/lang/String")) (by decide) (by decide)))
  have f6 := pr4.other W2 (Or.inr (slot_ne (Or.inr (hw _ (List.mem_of_getElem? (i := 24) rfl))) (Or.inr (hw _ (List.mem_of_getElem? (i := 18) rfl))) (by decide) (t := (.object "java/lang/String")) (t' := (.object "java/lang/String")) (by decide) (by decide)))
  have K7 : Keep h0 h2 [a0] := (Keep.refl h0 [a0]).wr W2 (Or.inl (List.mem_of_getElem? (i := 0) rfl))
  have z8 : n0 ≤ h2.size := Nat.le_trans Z0 (Keep.of_wr W2).1
  have N9 := Fr.snoc X2 N0 g_a0
  have f10 : Fld Z h2 a0 "com/example/syncline/syncline/store/Record" "value" "Ljava/lang/String;" .null := pr1.same W2
  obtain ⟨T11, h11, X11, e11, W11, st11⟩ := putF X2 hx hZ hown (host := "") (Or.inl (hw _ (List.mem_of_getElem? (i := 19) rfl))) Via.refl e2 f4 f3 (Or.inr ⟨(hw _ (List.mem_of_getElem? (i := 20) rfl)), rfl, hnm⟩) (hw _ (List.mem_of_getElem? (i := 1) rfl)) (ty := .long) (by decide) rfl rfl (g := (mkF m 11 #[.val (.ref a0), .val .null, .val (.long q2), .second, .val (.long q3), .second, .val (.ref a4)] [(.long q2), (.ref a0)])) rfl rfl (hb hby own_d1_11)
  have f12 := f3.wr W11
  have f13 := f10.other W11 (Or.inr (slot_ne (Or.inr (hw _ (List.mem_of_getElem? (i := 18) rfl))) (Or.inr (hw _ (List.mem_of_getElem? (i := 20) rfl))) (by decide) (t := (.object "java/lang/String")) (t' := .long) (by decide) (by decide)))
  have f14 := f5.other W11 (Or.inr (slot_ne (Or.inr (hw _ (List.mem_of_getElem? (i := 22) rfl))) (Or.inr (hw _ (List.mem_of_getElem? (i := 20) rfl))) (by decide) (t := .long) (t' := .long) (by decide) (by decide)))
  have f15 := f6.other W11 (Or.inr (slot_ne (Or.inr (hw _ (List.mem_of_getElem? (i := 24) rfl))) (Or.inr (hw _ (List.mem_of_getElem? (i := 20) rfl))) (by decide) (t := (.object "java/lang/String")) (t' := .long) (by decide) (by decide)))
  have K16 : Keep h0 h11 [a0] := K7.wr W11 (Or.inl (List.mem_of_getElem? (i := 0) rfl))
  have z17 : n0 ≤ h11.size := Nat.le_trans z8 (Keep.of_wr W11).1
  have N18 := Fr.snoc X11 N9 g_a0
  have f19 : Fld Z h11 a0 "com/example/syncline/syncline/store/Record" "expiresAtMillis" "J" (.long q2) := f4.same W11
  obtain ⟨T20, h20, X20, e20, W20, st20⟩ := putF X11 hx hZ hown (host := "") (Or.inl (hw _ (List.mem_of_getElem? (i := 21) rfl))) Via.refl e11 f14 f12 (Or.inr ⟨(hw _ (List.mem_of_getElem? (i := 22) rfl)), rfl, hnm⟩) (hw _ (List.mem_of_getElem? (i := 1) rfl)) (ty := .long) (by decide) rfl rfl (g := (mkF m 17 #[.val (.ref a0), .val .null, .val (.long q2), .second, .val (.long q3), .second, .val (.ref a4)] [(.long q3), (.ref a0)])) rfl rfl (hb hby own_d1_17)
  have f21 := f12.wr W20
  have f22 := f13.other W20 (Or.inr (slot_ne (Or.inr (hw _ (List.mem_of_getElem? (i := 18) rfl))) (Or.inr (hw _ (List.mem_of_getElem? (i := 22) rfl))) (by decide) (t := (.object "java/lang/String")) (t' := .long) (by decide) (by decide)))
  have f23 := f19.other W20 (Or.inr (slot_ne (Or.inr (hw _ (List.mem_of_getElem? (i := 20) rfl))) (Or.inr (hw _ (List.mem_of_getElem? (i := 22) rfl))) (by decide) (t := .long) (t' := .long) (by decide) (by decide)))
  have f24 := f15.other W20 (Or.inr (slot_ne (Or.inr (hw _ (List.mem_of_getElem? (i := 24) rfl))) (Or.inr (hw _ (List.mem_of_getElem? (i := 22) rfl))) (by decide) (t := (.object "java/lang/String")) (t' := .long) (by decide) (by decide)))
  have K25 : Keep h0 h20 [a0] := K16.wr W20 (Or.inl (List.mem_of_getElem? (i := 0) rfl))
  have z26 : n0 ≤ h20.size := Nat.le_trans z17 (Keep.of_wr W20).1
  have N27 := Fr.snoc X20 N18 g_a0
  have f28 : Fld Z h20 a0 "com/example/syncline/syncline/store/Record" "time" "J" (.long q3) := f14.same W20
  obtain ⟨T29, h29, X29, e29, W29, st29⟩ := putF X20 hx hZ hown (host := "") (Or.inl (hw _ (List.mem_of_getElem? (i := 23) rfl))) Via.refl e20 f24 f21 (Or.inr ⟨(hw _ (List.mem_of_getElem? (i := 24) rfl)), rfl, hnm⟩) (hw _ (List.mem_of_getElem? (i := 1) rfl)) (ty := (.object "java/lang/String")) (by decide) rfl rfl (g := (mkF m 23 #[.val (.ref a0), .val .null, .val (.long q2), .second, .val (.long q3), .second, .val (.ref a4)] [(.ref a4), (.ref a0)])) rfl rfl (hb hby own_d1_23)
  have f30 := f21.wr W29
  have f31 := f22.other W29 (Or.inr (slot_ne (Or.inr (hw _ (List.mem_of_getElem? (i := 18) rfl))) (Or.inr (hw _ (List.mem_of_getElem? (i := 24) rfl))) (by decide) (t := (.object "java/lang/String")) (t' := (.object "java/lang/String")) (by decide) (by decide)))
  have f32 := f23.other W29 (Or.inr (slot_ne (Or.inr (hw _ (List.mem_of_getElem? (i := 20) rfl))) (Or.inr (hw _ (List.mem_of_getElem? (i := 24) rfl))) (by decide) (t := .long) (t' := (.object "java/lang/String")) (by decide) (by decide)))
  have f33 := f28.other W29 (Or.inr (slot_ne (Or.inr (hw _ (List.mem_of_getElem? (i := 22) rfl))) (Or.inr (hw _ (List.mem_of_getElem? (i := 24) rfl))) (by decide) (t := .long) (t' := (.object "java/lang/String")) (by decide) (by decide)))
  have K34 : Keep h0 h29 [a0] := K25.wr W29 (Or.inl (List.mem_of_getElem? (i := 0) rfl))
  have z35 : n0 ≤ h29.size := Nat.le_trans z26 (Keep.of_wr W29).1
  have N36 := Fr.snoc X29 N27 g_a0
  have f37 : Fld Z h29 a0 "com/example/syncline/syncline/store/Record" "node" "Ljava/lang/String;" (.ref a4) := f24.same W29
  obtain ⟨fs, hr, hrun, hended, hW, hsame⟩ := X29.leave (v := none) (fun _ => rfl)
  refine ⟨_, _, pre0 _ ?_, hrun, hended, _, _, rfl, ?_, ⟨_, rfl⟩, hW, hsame.mono (by decide) (by decide)⟩
  · show Steps p.tables e below (s₁.setTop (mkF m 0 #[.val (.ref a0), .val .null, .val (.long q2), .second, .val (.long q3), .second, .val (.ref a4)] [])) _
    refine XS.aloadN X0.here hx rfl (hb hby own_d1_0) rfl rfl ?_
    show Steps p.tables e below (s₁.setTop (mkF m 1 #[.val (.ref a0), .val .null, .val (.long q2), .second, .val (.long q3), .second, .val (.ref a4)] [(.ref a0)])) _
    refine st1 _ ?_
    show Steps p.tables e below (T1.setTop (mkF m 4 #[.val (.ref a0), .val .null, .val (.long q2), .second, .val (.long q3), .second, .val (.ref a4)] [])) _
    refine XS.aloadN X1.here hx rfl (hb hby own_d1_4) rfl rfl ?_
    show Steps p.tables e below (T1.setTop (mkF m 5 #[.val (.ref a0), .val .null, .val (.long q2), .second, .val (.long q3), .second, .val (.ref a4)] [(.ref a0)])) _
    refine XS.aloadN X1.here hx rfl (hb hby own_d1_5) rfl rfl ?_
    show Steps p.tables e below (T1.setTop (mkF m 6 #[.val (.ref a0), .val .null, .val (.long q2), .second, .val (.long q3), .second, .val (.ref a4)] [.null, (.ref a0)])) _
    refine st2 _ ?_
    show Steps p.tables e below (T2.setTop (mkF m 9 #[.val (.ref a0), .val .null, .val (.long q2), .second, .val (.long q3), .second, .val (.ref a4)] [])) _
    refine XS.aloadN X2.here hx rfl (hb hby own_d1_9) rfl rfl ?_
    show Steps p.tables e below (T2.setTop (mkF m 10 #[.val (.ref a0), .val .null, .val (.long q2), .second, .val (.long q3), .second, .val (.ref a4)] [(.ref a0)])) _
    refine XS.lloadN X2.here hx rfl (hb hby own_d1_10) rfl ?_
    show Steps p.tables e below (T2.setTop (mkF m 11 #[.val (.ref a0), .val .null, .val (.long q2), .second, .val (.long q3), .second, .val (.ref a4)] [(.long q2), (.ref a0)])) _
    refine st11 _ ?_
    show Steps p.tables e below (T11.setTop (mkF m 14 #[.val (.ref a0), .val .null, .val (.long q2), .second, .val (.long q3), .second, .val (.ref a4)] [])) _
    refine XS.aloadN X11.here hx rfl (hb hby own_d1_14) rfl rfl ?_
    show Steps p.tables e below (T11.setTop (mkF m 15 #[.val (.ref a0), .val .null, .val (.long q2), .second, .val (.long q3), .second, .val (.ref a4)] [(.ref a0)])) _
    refine XS.lload X11.here hx rfl (hb hby own_d1_15) rfl ?_
    show Steps p.tables e below (T11.setTop (mkF m 17 #[.val (.ref a0), .val .null, .val (.long q2), .second, .val (.long q3), .second, .val (.ref a4)] [(.long q3), (.ref a0)])) _
    refine st20 _ ?_
    show Steps p.tables e below (T20.setTop (mkF m 20 #[.val (.ref a0), .val .null, .val (.long q2), .second, .val (.long q3), .second, .val (.ref a4)] [])) _
    refine XS.aloadN X20.here hx rfl (hb hby own_d1_20) rfl rfl ?_
    show Steps p.tables e below (T20.setTop (mkF m 21 #[.val (.ref a0), .val .null, .val (.long q2), .second, .val (.long q3), .second, .val (.ref a4)] [(.ref a0)])) _
    refine XS.aload X20.here hx rfl (hb hby own_d1_21) rfl rfl ?_
    show Steps p.tables e below (T20.setTop (mkF m 23 #[.val (.ref a0), .val .null, .val (.long q2), .second, .val (.long q3), .second, .val (.ref a4)] [(.ref a4), (.ref a0)])) _
    refine st29 _ ?_
    show Steps p.tables e below (T29.setTop (mkF m 26 #[.val (.ref a0), .val .null, .val (.long q2), .second, .val (.long q3), .second, .val (.ref a4)] [])) _
    exact X29.returnOut hx Bd.returns (hb hby own_d1_26) hr
  · show own_QRN Z a0 q2 q3 a4 h0 n0 _ T29.heap _
    rw [e29]
    exact ⟨rfl, N36, K34, f30, f32⟩
theorem own_efRS (m : MethodId) (a0 : Addr) (a1 : Addr) (q2 : Int64) (q3 : Int64) (a4 : Addr) : entryFrame m #[(.ref a0), (.ref a1), (.long q2), (.long q3), (.ref a4)] 7 = mkF m 0 #[.val (.ref a0), .val (.ref a1), .val (.long q2), .second, .val (.long q3), .second, .val (.ref a4)] [] := by first | (simp [entryFrame, mkF, argsToLocals, Value.category]; done) | rfl
def own_QRS (Z : State) (a0 : Addr) (a1 : Addr) (q2 : Int64) (q3 : Int64) (a4 : Addr) (h0 : Heap) (n0 : Nat) (v : Option Value) (h : Heap) (L : List Loc) : Prop := v = none ∧ Fr n0 L ∧ Keep h0 h [a0] ∧ (Exa Z h a0 "com/example/syncline/syncline/store/Record") ∧ (Fld Z h a0 "com/example/syncline/syncline/store/Record" "expiresAtMillis" "J" (.long q2))
set_option maxRecDepth 65536 in
set_option maxHeartbeats 40000000 in
theorem own_rmRS (l : Launch) (Z : State) (av : Array Value) (hw : ∀ d ∈ tables_1, d.before av Z = true) (ws : List Jvm.Cond) (a0 : Addr) (a1 : Addr) (q2 : Int64) (q3 : Int64) (a4 : Addr) (h0 : Heap) (n0 : Nat) (Z0 : n0 ≤ h0.size) (pr0 : Exa Z h0 a0 "com/example/syncline/syncline/store/Record") (pr1 : Fld Z h0 a0 "com/example/syncline/syncline/store/Record" "value" "Ljava/lang/String;" .null) (pr2 : Fld Z h0 a0 "com/example/syncline/syncline/store/Record" "expiresAtMillis" "J" (.long (0 : Int64))) (pr3 : Fld Z h0 a0 "com/example/syncline/syncline/store/Record" "time" "J" (.long (0 : Int64))) (pr4 : Fld Z h0 a0 "com/example/syncline/syncline/store/Record" "node" "Ljava/lang/String;" .null) (g_a0 : n0 ≤ a0) :
    MetFree l (⟨"com/example/syncline/syncline/store/Record", "<init>", "(Ljava/lang/String;JJLjava/lang/String;)V"⟩ : MethodName) (head1 (Jvm.Cond.code (⟨"com/example/syncline/syncline/store/Record", "<init>", "(Ljava/lang/String;JJLjava/lang/String;)V"⟩ : MethodName) prog_20_method_1_code 7 none :: ws) ({ frames := 1, cells := 0, slots := 0, locals := 12 } : Room)) (fun a U => a = #[(.ref a0), (.ref a1), (.long q2), (.long q3), (.ref a4)] ∧ Z.Warmed39 U.vm ∧ U.heap = h0) (fun _ _ _ _ _ => True) (fun _ U o U' => ∃ v L, o = .returned v ∧ own_QRS Z a0 a1 q2 q3 a4 h0 n0 v U'.heap L ∧ FrameEnd U o U' L ({ frames := 1, cells := 0, slots := 0, locals := 12 } : Room).cells ({ frames := 1, cells := 0, slots := 0, locals := 12 } : Room).slots) := by
  refine MetFree.of_bodySF (plainFor_of_name own_pn15) hisR ?_
  intro p e s m args below meth c s₁ Bd hml0 hP hK
  obtain ⟨rfl, hZ, hh⟩ := hP
  have hx := Bd.exec
  have hby := Bd.bytes
  have hml : c.maxLocals = 7 := hml0
  have hown : s.vm.findClass "com/example/syncline/syncline/store/Record" = some m.cls := findClass_of_methodNamed Bd.named
  have hnm := (name_of_methodNamed Bd.named Bd.method).1
  have X0 : Stand p l e ({ frames := 1, cells := 0, slots := 0, locals := 12 } : Room) s m #[(.ref a0), (.ref a1), (.long q2), (.long q3), (.ref a4)] below meth c s₁ [] 0 0 := Stand.of_body Bd
  have e0 : s₁.heap = h0 := by rw [← hh, Bd.state]; rfl
  have N0 := Fr.nil n0
  have pre0 : ∀ t, Steps p.tables e below (s₁.setTop (mkF m 0 #[.val (.ref a0), .val (.ref a1), .val (.long q2), .second, .val (.long q3), .second, .val (.ref a4)] [])) t → Steps p.tables e below (s₁.setTop (entryFrame m #[(.ref a0), (.ref a1), (.long q2), (.long q3), (.ref a4)] 7)) t := fun t k => castTop (own_efRS m a0 a1 q2 q3 a4) k
  obtain ⟨T38, X38, e38, st38⟩ := initO X0 hx hZ hown (hw _ (List.mem_of_getElem? (i := 14) rfl)) (hw _ (List.mem_of_getElem? (i := 15) rfl)) (hw _ (List.mem_of_getElem? (i := 16) rfl)) e0 (g := (mkF m 1 #[.val (.ref a0), .val (.ref a1), .val (.long q2), .second, .val (.long q3), .second, .val (.ref a4)] [(.ref a0)])) rfl (by rw [hml]; rfl) rfl (hb hby own_d1_1) (by decide) (W := 0) (by show 2 * 0 + _ ≤ _; exact Nat.le_of_eq rfl) (by decide)
  obtain ⟨T39, h39, X39, e39, W39, st39⟩ := putF X38 hx hZ hown (host := "") (Or.inl (hw _ (List.mem_of_getElem? (i := 17) rfl))) Via.refl e38 pr1 pr0 (Or.inr ⟨(hw _ (List.mem_of_getElem? (i := 18) rfl)), rfl, hnm⟩) (hw _ (List.mem_of_getElem? (i := 1) rfl)) (ty := (.object "java/lang/String")) (by decide) rfl rfl (g := (mkF m 6 #[.val (.ref a0), .val (.ref a1), .val (.long q2), .second, .val (.long q3), .second, .val (.ref a4)] [(.ref a1), (.ref a0)])) rfl rfl (hb hby own_d1_6)
  have f40 := pr0.wr W39
  have f41 := pr2.other W39 (Or.inr (slot_ne (Or.inr (hw _ (List.mem_of_getElem? (i := 20) rfl))) (Or.inr (hw _ (List.mem_of_getElem? (i := 18) rfl))) (by decide) (t := .long) (t' := (.object "java/lang/String")) (by decide) (by decide)))
  have f42 := pr3.other W39 (Or.inr (slot_ne (Or.inr (hw _ (List.mem_of_getElem? (i := 22) rfl))) (Or.inr (hw _ (List.mem_of_getElem? (i := 18) rfl))) (by decide) (t := .long) (t' := (.object "java/lang/String")) (by decide) (by decide)))
  have f43 := pr4.other W39 (Or.inr (slot_ne (Or.inr (hw _ (List.mem_of_getElem? (i := 24) rfl))) (Or.inr (hw _ (List.mem_of_getElem? (i := 18) rfl))) (by decide) (t := (.object "java/lang/String")) (t' := (.object "java/lang/String")) (by decide) (by decide)))
  have K44 : Keep h0 h39 [a0] := (Keep.refl h0 [a0]).wr W39 (Or.inl (List.mem_of_getElem? (i := 0) rfl))
  have z45 : n0 ≤ h39.size := Nat.le_trans Z0 (Keep.of_wr W39).1
  have N46 := Fr.snoc X39 N0 g_a0
  have f47 : Fld Z h39 a0 "com/example/syncline/syncline/store/Record" "value" "Ljava/lang/String;" (.ref a1) := pr1.same W39
  obtain ⟨T48, h48, X48, e48, W48, st48⟩ := putF X39 hx hZ hown (host := "") (Or.inl (hw _ (List.mem_of_getElem? (i := 19) rfl))) Via.refl e39 f41 f40 (Or.inr ⟨(hw _ (List.mem_of_getElem? (i := 20) rfl)), rfl, hnm⟩) (hw _ (List.mem_of_getElem? (i := 1) rfl)) (ty := .long) (by decide) rfl rfl (g := (mkF m 11 #[.val (.ref a0), .val (.ref a1), .val (.long q2), .second, .val (.long q3), .second, .val (.ref a4)] [(.long q2), (.ref a0)])) rfl rfl (hb hby own_d1_11)
  have f49 := f40.wr W48
  have f50 := f47.other W48 (Or.inr (slot_ne (Or.inr (hw _ (List.mem_of_getElem? (i := 18) rfl))) (Or.inr (hw _ (List.mem_of_getElem? (i := 20) rfl))) (by decide) (t := (.object "java/lang/String")) (t' := .long) (by decide) (by decide)))
  have f51 := f42.other W48 (Or.inr (slot_ne (Or.inr (hw _ (List.mem_of_getElem? (i := 22) rfl))) (Or.inr (hw _ (List.mem_of_getElem? (i := 20) rfl))) (by decide) (t := .long) (t' := .long) (by decide) (by decide)))
  have f52 := f43.other W48 (Or.inr (slot_ne (Or.inr (hw _ (List.mem_of_getElem? (i := 24) rfl))) (Or.inr (hw _ (List.mem_of_getElem? (i := 20) rfl))) (by decide) (t := (.object "java/lang/String")) (t' := .long) (by decide) (by decide)))
  have K53 : Keep h0 h48 [a0] := K44.wr W48 (Or.inl (List.mem_of_getElem? (i := 0) rfl))
  have z54 : n0 ≤ h48.size := Nat.le_trans z45 (Keep.of_wr W48).1
  have N55 := Fr.snoc X48 N46 g_a0
  have f56 : Fld Z h48 a0 "com/example/syncline/syncline/store/Record" "expiresAtMillis" "J" (.long q2) := f41.same W48
  obtain ⟨T57, h57, X57, e57, W57, st57⟩ := putF X48 hx hZ hown (host := "") (Or.inl (hw _ (List.mem_of_getElem? (i := 21) rfl))) Via.refl e48 f51 f49 (Or.inr ⟨(hw _ (List.mem_of_getElem? (i := 22) rfl)), rfl, hnm⟩) (hw _ (List.mem_of_getElem? (i := 1) rfl)) (ty := .long) (by decide) rfl rfl (g := (mkF m 17 #[.val (.ref a0), .val (.ref a1), .val (.long q2), .second, .val (.long q3), .second, .val (.ref a4)] [(.long q3), (.ref a0)])) rfl rfl (hb hby own_d1_17)
  have f58 := f49.wr W57
  have f59 := f50.other W57 (Or.inr (slot_ne (Or.inr (hw _ (List.mem_of_getElem? (i := 18) rfl))) (Or.inr (hw _ (List.mem_of_getElem? (i := 22) rfl))) (by decide) (t := (.object "java/lang/String")) (t' := .long) (by decide) (by decide)))
  have f60 := f56.other W57 (Or.inr (slot_ne (Or.inr (hw _ (List.mem_of_getElem? (i := 20) rfl))) (Or.inr (hw _ (List.mem_of_getElem? (i := 22) rfl))) (by decide) (t := .long) (t' := .long) (by decide) (by decide)))
  have f61 := f52.other W57 (Or.inr (slot_ne (Or.inr (hw _ (List.mem_of_getElem? (i := 24) rfl))) (Or.inr (hw _ (List.mem_of_getElem? (i := 22) rfl))) (by decide) (t := (.object "java/lang/String")) (t' := .long) (by decide) (by decide)))
  have K62 : Keep h0 h57 [a0] := K53.wr W57 (Or.inl (List.mem_of_getElem? (i := 0) rfl))
  have z63 : n0 ≤ h57.size := Nat.le_trans z54 (Keep.of_wr W57).1
  have N64 := Fr.snoc X57 N55 g_a0
  have f65 : Fld Z h57 a0 "com/example/syncline/syncline/store/Record" "time" "J" (.long q3) := f51.same W57
  obtain ⟨T66, h66, X66, e66, W66, st66⟩ := putF X57 hx hZ hown (host := "") (Or.inl (hw _ (List.mem_of_getElem? (i := 23) rfl))) Via.refl e57 f61 f58 (Or.inr ⟨(hw _ (List.mem_of_getElem? (i := 24) rfl)), rfl, hnm⟩) (hw _ (List.mem_of_getElem? (i := 1) rfl)) (ty := (.object "java/lang/String")) (by decide) rfl rfl (g := (mkF m 23 #[.val (.ref a0), .val (.ref a1), .val (.long q2), .second, .val (.long q3), .second, .val (.ref a4)] [(.ref a4), (.ref a0)])) rfl rfl (hb hby own_d1_23)
  have f67 := f58.wr W66
  have f68 := f59.other W66 (Or.inr (slot_ne (Or.inr (hw _ (List.mem_of_getElem? (i := 18) rfl))) (Or.inr (hw _ (List.mem_of_getElem? (i := 24) rfl))) (by decide) (t := (.object "java/lang/String")) (t' := (.object "java/lang/String")) (by decide) (by decide)))
  have f69 := f60.other W66 (Or.inr (slot_ne (Or.inr (hw _ (List.mem_of_getElem? (i := 20) rfl))) (Or.inr (hw _ (List.mem_of_getElem? (i := 24) rfl))) (by decide) (t := .long) (t' := (.object "java/lang/String")) (by decide) (by decide)))
  have f70 := f65.other W66 (Or.inr (slot_ne (Or.inr (hw _ (List.mem_of_getElem? (i := 22) rfl))) (Or.inr (hw _ (List.mem_of_getElem? (i := 24) rfl))) (by decide) (t := .long) (t' := (.object "java/lang/String")) (by decide) (by decide)))
  have K71 : Keep h0 h66 [a0] := K62.wr W66 (Or.inl (List.mem_of_getElem? (i := 0) rfl))
  have z72 : n0 ≤ h66.size := Nat.le_trans z63 (Keep.of_wr W66).1
  have N73 := Fr.snoc X66 N64 g_a0
  have f74 : Fld Z h66 a0 "com/example/syncline/syncline/store/Record" "node" "Ljava/lang/String;" (.ref a4) := f61.same W66
  obtain ⟨fs, hr, hrun, hended, hW, hsame⟩ := X66.leave (v := none) (fun _ => rfl)
  refine ⟨_, _, pre0 _ ?_, hrun, hended, _, _, rfl, ?_, ⟨_, rfl⟩, hW, hsame.mono (by decide) (by decide)⟩
  · show Steps p.tables e below (s₁.setTop (mkF m 0 #[.val (.ref a0), .val (.ref a1), .val (.long q2), .second, .val (.long q3), .second, .val (.ref a4)] [])) _
    refine XS.aloadN X0.here hx rfl (hb hby own_d1_0) rfl rfl ?_
    show Steps p.tables e below (s₁.setTop (mkF m 1 #[.val (.ref a0), .val (.ref a1), .val (.long q2), .second, .val (.long q3), .second, .val (.ref a4)] [(.ref a0)])) _
    refine st38 _ ?_
    show Steps p.tables e below (T38.setTop (mkF m 4 #[.val (.ref a0), .val (.ref a1), .val (.long q2), .second, .val (.long q3), .second, .val (.ref a4)] [])) _
    refine XS.aloadN X38.here hx rfl (hb hby own_d1_4) rfl rfl ?_
    show Steps p.tables e below (T38.setTop (mkF m 5 #[.val (.ref a0), .val (.ref a1), .val (.long q2), .second, .val (.long q3), .second, .val (.ref a4)] [(.ref a0)])) _
    refine XS.aloadN X38.here hx rfl (hb hby own_d1_5) rfl rfl ?_
    show Steps p.tables e below (T38.setTop (mkF m 6 #[.val (.ref a0), .val (.ref a1), .val (.long q2), .second, .val (.long q3), .second, .val (.ref a4)] [(.ref a1), (.ref a0)])) _
    refine st39 _ ?_
    show Steps p.tables e below (T39.setTop (mkF m 9 #[.val (.ref a0), .val (.ref a1), .val (.long q2), .second, .val (.long q3), .second, .val (.ref a4)] [])) _
    refine XS.aloadN X39.here hx rfl (hb hby own_d1_9) rfl rfl ?_
    show Steps p.tables e below (T39.setTop (mkF m 10 #[.val (.ref a0), .val (.ref a1), .val (.long q2), .second, .val (.long q3), .second, .val (.ref a4)] [(.ref a0)])) _
    refine XS.lloadN X39.here hx rfl (hb hby own_d1_10) rfl ?_
    show Steps p.tables e below (T39.setTop (mkF m 11 #[.val (.ref a0), .val (.ref a1), .val (.long q2), .second, .val (.long q3), .second, .val (.ref a4)] [(.long q2), (.ref a0)])) _
    refine st48 _ ?_
    show Steps p.tables e below (T48.setTop (mkF m 14 #[.val (.ref a0), .val (.ref a1), .val (.long q2), .second, .val (.long q3), .second, .val (.ref a4)] [])) _
    refine XS.aloadN X48.here hx rfl (hb hby own_d1_14) rfl rfl ?_
    show Steps p.tables e below (T48.setTop (mkF m 15 #[.val (.ref a0), .val (.ref a1), .val (.long q2), .second, .val (.long q3), .second, .val (.ref a4)] [(.ref a0)])) _
    refine XS.lload X48.here hx rfl (hb hby own_d1_15) rfl ?_
    show Steps p.tables e below (T48.setTop (mkF m 17 #[.val (.ref a0), .val (.ref a1), .val (.long q2), .second, .val (.long q3), .second, .val (.ref a4)] [(.long q3), (.ref a0)])) _
    refine st57 _ ?_
    show Steps p.tables e below (T57.setTop (mkF m 20 #[.val (.ref a0), .val (.ref a1), .val (.long q2), .second, .val (.long q3), .second, .val (.ref a4)] [])) _
    refine XS.aloadN X57.here hx rfl (hb hby own_d1_20) rfl rfl ?_
    show Steps p.tables e below (T57.setTop (mkF m 21 #[.val (.ref a0), .val (.ref a1), .val (.long q2), .second, .val (.long q3), .second, .val (.ref a4)] [(.ref a0)])) _
    refine XS.aload X57.here hx rfl (hb hby own_d1_21) rfl rfl ?_
    show Steps p.tables e below (T57.setTop (mkF m 23 #[.val (.ref a0), .val (.ref a1), .val (.long q2), .second, .val (.long q3), .second, .val (.ref a4)] [(.ref a4), (.ref a0)])) _
    refine st66 _ ?_
    show Steps p.tables e below (T66.setTop (mkF m 26 #[.val (.ref a0), .val (.ref a1), .val (.long q2), .second, .val (.long q3), .second, .val (.ref a4)] [])) _
    exact X66.returnOut hx Bd.returns (hb hby own_d1_26) hr
  · show own_QRS Z a0 a1 q2 q3 a4 h0 n0 _ T66.heap _
    rw [e66]
    exact ⟨rfl, N73, K71, f67, f69⟩
theorem own_d3_0 : decode prog_20_method_9_code 0 = .ok (.lload_n 1, 1) := by decide +kernel
theorem own_d3_1 : decode prog_20_method_9_code 1 = .ok (.aload_n 0, 1) := by decide +kernel
theorem own_d3_2 : decode prog_20_method_9_code 2 = .ok (.getfield 15, 3) := by decide +kernel
theorem own_d3_5 : decode prog_20_method_9_code 5 = .ok (.lcmp, 1) := by decide +kernel
theorem own_d3_6 : decode prog_20_method_9_code 6 = .ok (.ifCond .lt 7, 3) := by decide +kernel
theorem own_d3_13 : decode prog_20_method_9_code 13 = .ok (.iconst 0, 1) := by decide +kernel
theorem own_d3_14 : decode prog_20_method_9_code 14 = .ok (.ireturn, 1) := by decide +kernel
theorem own_d3_9 : decode prog_20_method_9_code 9 = .ok (.iconst 1, 1) := by decide +kernel
theorem own_d3_10 : decode prog_20_method_9_code 10 = .ok (.goto 4, 3) := by decide +kernel
def own_f3 (w : Int64) (q1 : Int64) : Int32 := if q1 < w then (0 : Int32) else (1 : Int32)
theorem own_ef3 (m : MethodId) (a0 : Addr) (q1 : Int64) : entryFrame m #[(.ref a0), (.long q1)] 3 = mkF m 0 #[.val (.ref a0), .val (.long q1), .second] [] := by first | (simp [entryFrame, mkF, argsToLocals, Value.category]; done) | rfl
def own_Q3 (Z : State) (a0 : Addr) (q1 : Int64) (w : Int64) (h0 : Heap) (n0 : Nat) (v : Option Value) (h : Heap) (L : List Loc) : Prop := v = some (.int (own_f3 w q1)) ∧ Fr n0 L ∧ h = h0
set_option maxRecDepth 65536 in
set_option maxHeartbeats 40000000 in
theorem own_rm3 (l : Launch) (Z : State) (av : Array Value) (hw : ∀ d ∈ tables_1, d.before av Z = true) (ws : List Jvm.Cond) (a0 : Addr) (q1 : Int64) (w : Int64) (h0 : Heap) (n0 : Nat) (Z0 : n0 ≤ h0.size) (pr0 : Fld Z h0 a0 "com/example/syncline/syncline/store/Record" "expiresAtMillis" "J" (.long w)) :
    MetFree l (⟨"com/example/syncline/syncline/store/Record", "isExpiredAt", "(J)Z"⟩ : MethodName) (head1 (Jvm.Cond.code (⟨"com/example/syncline/syncline/store/Record", "isExpiredAt", "(J)Z"⟩ : MethodName) prog_20_method_9_code 3 (some .boolean) :: ws) ({ frames := 0, cells := 0, slots := 0, locals := 0 } : Room)) (fun a U => a = #[(.ref a0), (.long q1)] ∧ Z.Warmed39 U.vm ∧ U.heap = h0) (fun _ _ _ _ _ => True) (fun _ U o U' => ∃ v L, o = .returned v ∧ own_Q3 Z a0 q1 w h0 n0 v U'.heap L ∧ FrameEnd U o U' L ({ frames := 0, cells := 0, slots := 0, locals := 0 } : Room).cells ({ frames := 0, cells := 0, slots := 0, locals := 0 } : Room).slots) := by
  refine MetFree.of_bodySF (plainFor_of_name own_pn15) hisR ?_
  intro p e s m args below meth c s₁ Bd hml0 hP hK
  obtain ⟨rfl, hZ, hh⟩ := hP
  have hx := Bd.exec
  have hby := Bd.bytes
  have hml : c.maxLocals = 3 := hml0
  have hown : s.vm.findClass "com/example/syncline/syncline/store/Record" = some m.cls := findClass_of_methodNamed Bd.named
  have hnm := (name_of_methodNamed Bd.named Bd.method).1
  have X0 : Stand p l e ({ frames := 0, cells := 0, slots := 0, locals := 0 } : Room) s m #[(.ref a0), (.long q1)] below meth c s₁ [] 0 0 := Stand.of_body Bd
  have e0 : s₁.heap = h0 := by rw [← hh, Bd.state]; rfl
  have N0 := Fr.nil n0
  have pre0 : ∀ t, Steps p.tables e below (s₁.setTop (mkF m 0 #[.val (.ref a0), .val (.long q1), .second] [])) t → Steps p.tables e below (s₁.setTop (entryFrame m #[(.ref a0), (.long q1)] 3)) t := fun t k => castTop (own_ef3 m a0 q1) k
  obtain ⟨T75, X75, e75, st75⟩ := getF X0 hx hZ hown (host := "") (Or.inl (hw _ (List.mem_of_getElem? (i := 19) rfl))) Via.refl e0 pr0 (g := (mkF m 2 #[.val (.ref a0), .val (.long q1), .second] [(.ref a0), (.long q1)])) rfl rfl (hb hby own_d3_2)
  have pre76 : ∀ t, Steps p.tables e below (T75.setTop (mkF m 6 #[.val (.ref a0), .val (.long q1), .second] [(.int (lcmpW q1 w))])) t → Steps p.tables e below (s₁.setTop (entryFrame m #[(.ref a0), (.long q1)] 3)) t := fun t kk => pre0 t (by
    show Steps p.tables e below (s₁.setTop (mkF m 0 #[.val (.ref a0), .val (.long q1), .second] [])) _
    refine XS.lloadN X0.here hx rfl (hb hby own_d3_0) rfl ?_
    show Steps p.tables e below (s₁.setTop (mkF m 1 #[.val (.ref a0), .val (.long q1), .second] [(.long q1)])) _
    refine XS.aloadN X0.here hx rfl (hb hby own_d3_1) rfl rfl ?_
    show Steps p.tables e below (s₁.setTop (mkF m 2 #[.val (.ref a0), .val (.long q1), .second] [(.ref a0), (.long q1)])) _
    refine st75 _ ?_
    show Steps p.tables e below (T75.setTop (mkF m 5 #[.val (.ref a0), .val (.long q1), .second] [(.long w), (.long q1)])) _
    refine XS.lcmp X75.here hx rfl (hb hby own_d3_5) rfl ?_
    show Steps p.tables e below (T75.setTop (mkF m 6 #[.val (.ref a0), .val (.long q1), .second] [(.int (lcmpW q1 w))])) _
    exact kk)
  by_cases hc77 : q1 < w
  · obtain ⟨fs, hr, hrun, hended, hW, hsame⟩ := X75.leave (v := some (.int (0 : Int32))) (fun h => by rw [Bd.returns] at h; cases h)
    refine ⟨_, _, pre76 _ ?_, hrun, hended, _, _, rfl, ?_, ⟨_, rfl⟩, hW, hsame.mono (by decide) (by decide)⟩
    · show Steps p.tables e below (T75.setTop (mkF m 6 #[.val (.ref a0), .val (.long q1), .second] [(.int (lcmpW q1 w))])) _
      refine XS.ifYes X75.here hx rfl (pc0 := 6) (pc' := 13) rfl (hb hby own_d3_6) rfl ((if0 _ _).trans (tlt ((lw_lt q1 w).mpr hc77)).1) (by decide) (by decide) ?_
      show Steps p.tables e below (T75.setTop (mkF m 13 #[.val (.ref a0), .val (.long q1), .second] [])) _
      refine XS.iconst X75.here hx rfl (hb hby own_d3_13) ?_
      show Steps p.tables e below (T75.setTop (mkF m 14 #[.val (.ref a0), .val (.long q1), .second] [(.int (0 : Int32))])) _
      exact retN X75 hx (t := .boolean) Bd.returns (by simp) (hb hby own_d3_14) hr
    · show own_Q3 Z a0 q1 w h0 n0 _ T75.heap _
      rw [e75]
      have hv : own_f3 w q1 = (0 : Int32) := by unfold own_f3; rw [if_pos hc77]
      exact ⟨by rw [hv], N0, rfl⟩
  · obtain ⟨fs, hr, hrun, hended, hW, hsame⟩ := X75.leave (v := some (.int (1 : Int32))) (fun h => by rw [Bd.returns] at h; cases h)
    refine ⟨_, _, pre76 _ ?_, hrun, hended, _, _, rfl, ?_, ⟨_, rfl⟩, hW, hsame.mono (by decide) (by decide)⟩
    · show Steps p.tables e below (T75.setTop (mkF m 6 #[.val (.ref a0), .val (.long q1), .second] [(.int (lcmpW q1 w))])) _
      refine XS.ifNo X75.here hx rfl (hb hby own_d3_6) rfl ((if0 _ _).trans (flt (mt (lw_lt q1 w).mp hc77)).1) ?_
      show Steps p.tables e below (T75.setTop (mkF m 9 #[.val (.ref a0), .val (.long q1), .second] [])) _
      refine XS.iconst X75.here hx rfl (hb hby own_d3_9) ?_
      show Steps p.tables e below (T75.setTop (mkF m 10 #[.val (.ref a0), .val (.long q1), .second] [(.int (1 : Int32))])) _
      refine XS.goto X75.here hx rfl (pc0 := 10) (pc' := 14) rfl (hb hby own_d3_10) (by decide) (by decide) ?_
      show Steps p.tables e below (T75.setTop (mkF m 14 #[.val (.ref a0), .val (.long q1), .second] [(.int (1 : Int32))])) _
      exact retN X75 hx (t := .boolean) Bd.returns (by simp) (hb hby own_d3_14) hr
    · show own_Q3 Z a0 q1 w h0 n0 _ T75.heap _
      rw [e75]
      have hv : own_f3 w q1 = (1 : Int32) := by unfold own_f3; rw [if_neg hc77]
      exact ⟨by rw [hv], N0, rfl⟩
theorem own_f3_cases (w : Int64) (q1 : Int64) : (q1 < w ∧ (own_f3 w q1 = (0 : Int32))) ∨ (¬ (q1 < w) ∧ (own_f3 w q1 = (1 : Int32))) := by
  by_cases cs0 : q1 < w
  · refine Or.inl ⟨cs0, ?_⟩
    unfold own_f3; rw [if_pos cs0]
  · refine Or.inr ⟨cs0, ?_⟩
    unfold own_f3; rw [if_neg cs0]
theorem own_d4_0 : decode jdk_29_method_70_code 0 = .ok (.lload_n 0, 1) := by decide +kernel
theorem own_d4_1 : decode jdk_29_method_70_code 1 = .ok (.lload_n 2, 1) := by decide +kernel
theorem own_d4_2 : decode jdk_29_method_70_code 2 = .ok (.lcmp, 1) := by decide +kernel
theorem own_d4_3 : decode jdk_29_method_70_code 3 = .ok (.ifCond .gt 7, 3) := by decide +kernel
theorem own_d4_10 : decode jdk_29_method_70_code 10 = .ok (.lload_n 2, 1) := by decide +kernel
theorem own_d4_11 : decode jdk_29_method_70_code 11 = .ok (.lreturn, 1) := by decide +kernel
theorem own_d4_6 : decode jdk_29_method_70_code 6 = .ok (.lload_n 0, 1) := by decide +kernel
theorem own_d4_7 : decode jdk_29_method_70_code 7 = .ok (.goto 4, 3) := by decide +kernel
def own_f4 (q0 : Int64) (q1 : Int64) : Int64 := if q1 < q0 then q1 else q0
theorem own_ef4 (m : MethodId) (q0 : Int64) (q1 : Int64) : entryFrame m #[(.long q0), (.long q1)] 4 = mkF m 0 #[.val (.long q0), .second, .val (.long q1), .second] [] := by first | (simp [entryFrame, mkF, argsToLocals, Value.category]; done) | rfl
def own_Q4 (Z : State) (q0 : Int64) (q1 : Int64) (h0 : Heap) (n0 : Nat) (v : Option Value) (h : Heap) (L : List Loc) : Prop := v = some (.long (own_f4 q0 q1)) ∧ Fr n0 L ∧ h = h0
set_option maxRecDepth 65536 in
set_option maxHeartbeats 40000000 in
theorem own_rm4 (l : Launch) (Z : State) (av : Array Value) (hw : ∀ d ∈ tables_1, d.before av Z = true) (ws : List Jvm.Cond) (q0 : Int64) (q1 : Int64) (h0 : Heap) (n0 : Nat) (Z0 : n0 ≤ h0.size) :
    MetFree l (⟨"java/lang/Math", "min", "(JJ)J"⟩ : MethodName) (head1 (Jvm.Cond.code (⟨"java/lang/Math", "min", "(JJ)J"⟩ : MethodName) jdk_29_method_70_code 4 (some .long) :: ws) ({ frames := 0, cells := 0, slots := 0, locals := 0 } : Room)) (fun a U => a = #[(.long q0), (.long q1)] ∧ Z.Warmed39 U.vm ∧ U.heap = h0) (fun _ _ _ _ _ => True) (fun _ U o U' => ∃ v L, o = .returned v ∧ own_Q4 Z q0 q1 h0 n0 v U'.heap L ∧ FrameEnd U o U' L ({ frames := 0, cells := 0, slots := 0, locals := 0 } : Room).cells ({ frames := 0, cells := 0, slots := 0, locals := 0 } : Room).slots) := by
  refine MetFree.of_bodySF (Jvm.Free.JP.mathPlain rfl (by decide +kernel)) hisR ?_
  intro p e s m args below meth c s₁ Bd hml0 hP hK
  obtain ⟨rfl, hZ, hh⟩ := hP
  have hx := Bd.exec
  have hby := Bd.bytes
  have hml : c.maxLocals = 4 := hml0
  have hown : s.vm.findClass "java/lang/Math" = some m.cls := findClass_of_methodNamed Bd.named
  have hnm := (name_of_methodNamed Bd.named Bd.method).1
  have X0 : Stand p l e ({ frames := 0, cells := 0, slots := 0, locals := 0 } : Room) s m #[(.long q0), (.long q1)] below meth c s₁ [] 0 0 := Stand.of_body Bd
  have e0 : s₁.heap = h0 := by rw [← hh, Bd.state]; rfl
  have N0 := Fr.nil n0
  have pre0 : ∀ t, Steps p.tables e below (s₁.setTop (mkF m 0 #[.val (.long q0), .second, .val (.long q1), .second] [])) t → Steps p.tables e below (s₁.setTop (entryFrame m #[(.long q0), (.long q1)] 4)) t := fun t k => castTop (own_ef4 m q0 q1) k
  have pre78 : ∀ t, Steps p.tables e below (s₁.setTop (mkF m 3 #[.val (.long q0), .second, .val (.long q1), .second] [(.int (lcmpW q0 q1))])) t → Steps p.tables e below (s₁.setTop (entryFrame m #[(.long q0), (.long q1)] 4)) t := fun t kk => pre0 t (by
    show Steps p.tables e below (s₁.setTop (mkF m 0 #[.val (.long q0), .second, .val (.long q1), .second] [])) _
    refine XS.lloadN X0.here hx rfl (hb hby own_d4_0) rfl ?_
    show Steps p.tables e below (s₁.setTop (mkF m 1 #[.val (.long q0), .second, .val (.long q1), .second] [(.long q0)])) _
    refine XS.lloadN X0.here hx rfl (hb hby own_d4_1) rfl ?_
    show Steps p.tables e below (s₁.setTop (mkF m 2 #[.val (.long q0), .second, .val (.long q1), .second] [(.long q1), (.long q0)])) _
    refine XS.lcmp X0.here hx rfl (hb hby own_d4_2) rfl ?_
    show Steps p.tables e below (s₁.setTop (mkF m 3 #[.val (.long q0), .second, .val (.long q1), .second] [(.int (lcmpW q0 q1))])) _
    exact kk)
  by_cases hc79 : q1 < q0
  · obtain ⟨fs, hr, hrun, hended, hW, hsame⟩ := X0.leave (v := some (.long q1)) (fun h => by rw [Bd.returns] at h; cases h)
    refine ⟨_, _, pre78 _ ?_, hrun, hended, _, _, rfl, ?_, ⟨_, rfl⟩, hW, hsame.mono (by decide) (by decide)⟩
    · show Steps p.tables e below (s₁.setTop (mkF m 3 #[.val (.long q0), .second, .val (.long q1), .second] [(.int (lcmpW q0 q1))])) _
      refine XS.ifYes X0.here hx rfl (pc0 := 3) (pc' := 10) rfl (hb hby own_d4_3) rfl ((if0 _ _).trans (tlt ((lw_gt q0 q1).mpr hc79)).2.2.1) (by decide) (by decide) ?_
      show Steps p.tables e below (s₁.setTop (mkF m 10 #[.val (.long q0), .second, .val (.long q1), .second] [])) _
      refine XS.lloadN X0.here hx rfl (hb hby own_d4_10) rfl ?_
      show Steps p.tables e below (s₁.setTop (mkF m 11 #[.val (.long q0), .second, .val (.long q1), .second] [(.long q1)])) _
      exact retOut X0 hx (t := .long) (i := .lreturn) Bd.returns rfl (Or.inr (Or.inl ⟨rfl, rfl, _, rfl⟩)) (hb hby own_d4_11) hr
    · show own_Q4 Z q0 q1 h0 n0 _ s₁.heap _
      rw [e0]
      have hv : own_f4 q0 q1 = q1 := by unfold own_f4; rw [if_pos hc79]
      exact ⟨by rw [hv], N0, rfl⟩
  · obtain ⟨fs, hr, hrun, hended, hW, hsame⟩ := X0.leave (v := some (.long q0)) (fun h => by rw [Bd.returns] at h; cases h)
    refine ⟨_, _, pre78 _ ?_, hrun, hended, _, _, rfl, ?_, ⟨_, rfl⟩, hW, hsame.mono (by decide) (by decide)⟩
    · show Steps p.tables e below (s₁.setTop (mkF m 3 #[.val (.long q0), .second, .val (.long q1), .second] [(.int (lcmpW q0 q1))])) _
      refine XS.ifNo X0.here hx rfl (hb hby own_d4_3) rfl ((if0 _ _).trans (flt (mt (lw_gt q0 q1).mp hc79)).2.2.1) ?_
      show Steps p.tables e below (s₁.setTop (mkF m 6 #[.val (.long q0), .second, .val (.long q1), .second] [])) _
      refine XS.lloadN X0.here hx rfl (hb hby own_d4_6) rfl ?_
      show Steps p.tables e below (s₁.setTop (mkF m 7 #[.val (.long q0), .second, .val (.long q1), .second] [(.long q0)])) _
      refine XS.goto X0.here hx rfl (pc0 := 7) (pc' := 11) rfl (hb hby own_d4_7) (by decide) (by decide) ?_
      show Steps p.tables e below (s₁.setTop (mkF m 11 #[.val (.long q0), .second, .val (.long q1), .second] [(.long q0)])) _
      exact retOut X0 hx (t := .long) (i := .lreturn) Bd.returns rfl (Or.inr (Or.inl ⟨rfl, rfl, _, rfl⟩)) (hb hby own_d4_11) hr
    · show own_Q4 Z q0 q1 h0 n0 _ s₁.heap _
      rw [e0]
      have hv : own_f4 q0 q1 = q0 := by unfold own_f4; rw [if_neg hc79]
      exact ⟨by rw [hv], N0, rfl⟩
theorem own_f4_cases (q0 : Int64) (q1 : Int64) : (q1 < q0 ∧ (own_f4 q0 q1 = q1)) ∨ (¬ (q1 < q0) ∧ (own_f4 q0 q1 = q0)) := by
  by_cases cs0 : q1 < q0
  · refine Or.inl ⟨cs0, ?_⟩
    unfold own_f4; rw [if_pos cs0]
  · refine Or.inr ⟨cs0, ?_⟩
    unfold own_f4; rw [if_neg cs0]
theorem own_d5_0 : decode jdk_29_method_66_code 0 = .ok (.lload_n 0, 1) := by decide +kernel
theorem own_d5_1 : decode jdk_29_method_66_code 1 = .ok (.lload_n 2, 1) := by decide +kernel
theorem own_d5_2 : decode jdk_29_method_66_code 2 = .ok (.lcmp, 1) := by decide +kernel
theorem own_d5_3 : decode jdk_29_method_66_code 3 = .ok (.ifCond .lt 7, 3) := by decide +kernel
theorem own_d5_10 : decode jdk_29_method_66_code 10 = .ok (.lload_n 2, 1) := by decide +kernel
theorem own_d5_11 : decode jdk_29_method_66_code 11 = .ok (.lreturn, 1) := by decide +kernel
theorem own_d5_6 : decode jdk_29_method_66_code 6 = .ok (.lload_n 0, 1) := by decide +kernel
theorem own_d5_7 : decode jdk_29_method_66_code 7 = .ok (.goto 4, 3) := by decide +kernel
def own_f5 (q0 : Int64) (q1 : Int64) : Int64 := if q0 < q1 then q1 else q0
theorem own_ef5 (m : MethodId) (q0 : Int64) (q1 : Int64) : entryFrame m #[(.long q0), (.long q1)] 4 = mkF m 0 #[.val (.long q0), .second, .val (.long q1), .second] [] := by first | (simp [entryFrame, mkF, argsToLocals, Value.category]; done) | rfl
def own_Q5 (Z : State) (q0 : Int64) (q1 : Int64) (h0 : Heap) (n0 : Nat) (v : Option Value) (h : Heap) (L : List Loc) : Prop := v = some (.long (own_f5 q0 q1)) ∧ Fr n0 L ∧ h = h0
set_option maxRecDepth 65536 in
set_option maxHeartbeats 40000000 in
theorem own_rm5 (l : Launch) (Z : State) (av : Array Value) (hw : ∀ d ∈ tables_1, d.before av Z = true) (ws : List Jvm.Cond) (q0 : Int64) (q1 : Int64) (h0 : Heap) (n0 : Nat) (Z0 : n0 ≤ h0.size) :
    MetFree l (⟨"java/lang/Math", "max", "(JJ)J"⟩ : MethodName) (head1 (Jvm.Cond.code (⟨"java/lang/Math", "max", "(JJ)J"⟩ : MethodName) jdk_29_method_66_code 4 (some .long) :: ws) ({ frames := 0, cells := 0, slots := 0, locals := 0 } : Room)) (fun a U => a = #[(.long q0), (.long q1)] ∧ Z.Warmed39 U.vm ∧ U.heap = h0) (fun _ _ _ _ _ => True) (fun _ U o U' => ∃ v L, o = .returned v ∧ own_Q5 Z q0 q1 h0 n0 v U'.heap L ∧ FrameEnd U o U' L ({ frames := 0, cells := 0, slots := 0, locals := 0 } : Room).cells ({ frames := 0, cells := 0, slots := 0, locals := 0 } : Room).slots) := by
  refine MetFree.of_bodySF (Jvm.Free.JP.mathPlain rfl (by decide +kernel)) hisR ?_
  intro p e s m args below meth c s₁ Bd hml0 hP hK
  obtain ⟨rfl, hZ, hh⟩ := hP
  have hx := Bd.exec
  have hby := Bd.bytes
  have hml : c.maxLocals = 4 := hml0
  have hown : s.vm.findClass "java/lang/Math" = some m.cls := findClass_of_methodNamed Bd.named
  have hnm := (name_of_methodNamed Bd.named Bd.method).1
  have X0 : Stand p l e ({ frames := 0, cells := 0, slots := 0, locals := 0 } : Room) s m #[(.long q0), (.long q1)] below meth c s₁ [] 0 0 := Stand.of_body Bd
  have e0 : s₁.heap = h0 := by rw [← hh, Bd.state]; rfl
  have N0 := Fr.nil n0
  have pre0 : ∀ t, Steps p.tables e below (s₁.setTop (mkF m 0 #[.val (.long q0), .second, .val (.long q1), .second] [])) t → Steps p.tables e below (s₁.setTop (entryFrame m #[(.long q0), (.long q1)] 4)) t := fun t k => castTop (own_ef5 m q0 q1) k
  have pre80 : ∀ t, Steps p.tables e below (s₁.setTop (mkF m 3 #[.val (.long q0), .second, .val (.long q1), .second] [(.int (lcmpW q0 q1))])) t → Steps p.tables e below (s₁.setTop (entryFrame m #[(.long q0), (.long q1)] 4)) t := fun t kk => pre0 t (by
    show Steps p.tables e below (s₁.setTop (mkF m 0 #[.val (.long q0), .second, .val (.long q1), .second] [])) _
    refine XS.lloadN X0.here hx rfl (hb hby own_d5_0) rfl ?_
    show Steps p.tables e below (s₁.setTop (mkF m 1 #[.val (.long q0), .second, .val (.long q1), .second] [(.long q0)])) _
    refine XS.lloadN X0.here hx rfl (hb hby own_d5_1) rfl ?_
    show Steps p.tables e below (s₁.setTop (mkF m 2 #[.val (.long q0), .second, .val (.long q1), .second] [(.long q1), (.long q0)])) _
    refine XS.lcmp X0.here hx rfl (hb hby own_d5_2) rfl ?_
    show Steps p.tables e below (s₁.setTop (mkF m 3 #[.val (.long q0), .second, .val (.long q1), .second] [(.int (lcmpW q0 q1))])) _
    exact kk)
  by_cases hc81 : q0 < q1
  · obtain ⟨fs, hr, hrun, hended, hW, hsame⟩ := X0.leave (v := some (.long q1)) (fun h => by rw [Bd.returns] at h; cases h)
    refine ⟨_, _, pre80 _ ?_, hrun, hended, _, _, rfl, ?_, ⟨_, rfl⟩, hW, hsame.mono (by decide) (by decide)⟩
    · show Steps p.tables e below (s₁.setTop (mkF m 3 #[.val (.long q0), .second, .val (.long q1), .second] [(.int (lcmpW q0 q1))])) _
      refine XS.ifYes X0.here hx rfl (pc0 := 3) (pc' := 10) rfl (hb hby own_d5_3) rfl ((if0 _ _).trans (tlt ((lw_lt q0 q1).mpr hc81)).1) (by decide) (by decide) ?_
      show Steps p.tables e below (s₁.setTop (mkF m 10 #[.val (.long q0), .second, .val (.long q1), .second] [])) _
      refine XS.lloadN X0.here hx rfl (hb hby own_d5_10) rfl ?_
      show Steps p.tables e below (s₁.setTop (mkF m 11 #[.val (.long q0), .second, .val (.long q1), .second] [(.long q1)])) _
      exact retOut X0 hx (t := .long) (i := .lreturn) Bd.returns rfl (Or.inr (Or.inl ⟨rfl, rfl, _, rfl⟩)) (hb hby own_d5_11) hr
    · show own_Q5 Z q0 q1 h0 n0 _ s₁.heap _
      rw [e0]
      have hv : own_f5 q0 q1 = q1 := by unfold own_f5; rw [if_pos hc81]
      exact ⟨by rw [hv], N0, rfl⟩
  · obtain ⟨fs, hr, hrun, hended, hW, hsame⟩ := X0.leave (v := some (.long q0)) (fun h => by rw [Bd.returns] at h; cases h)
    refine ⟨_, _, pre80 _ ?_, hrun, hended, _, _, rfl, ?_, ⟨_, rfl⟩, hW, hsame.mono (by decide) (by decide)⟩
    · show Steps p.tables e below (s₁.setTop (mkF m 3 #[.val (.long q0), .second, .val (.long q1), .second] [(.int (lcmpW q0 q1))])) _
      refine XS.ifNo X0.here hx rfl (hb hby own_d5_3) rfl ((if0 _ _).trans (flt (mt (lw_lt q0 q1).mp hc81)).1) ?_
      show Steps p.tables e below (s₁.setTop (mkF m 6 #[.val (.long q0), .second, .val (.long q1), .second] [])) _
      refine XS.lloadN X0.here hx rfl (hb hby own_d5_6) rfl ?_
      show Steps p.tables e below (s₁.setTop (mkF m 7 #[.val (.long q0), .second, .val (.long q1), .second] [(.long q0)])) _
      refine XS.goto X0.here hx rfl (pc0 := 7) (pc' := 11) rfl (hb hby own_d5_7) (by decide) (by decide) ?_
      show Steps p.tables e below (s₁.setTop (mkF m 11 #[.val (.long q0), .second, .val (.long q1), .second] [(.long q0)])) _
      exact retOut X0 hx (t := .long) (i := .lreturn) Bd.returns rfl (Or.inr (Or.inl ⟨rfl, rfl, _, rfl⟩)) (hb hby own_d5_11) hr
    · show own_Q5 Z q0 q1 h0 n0 _ s₁.heap _
      rw [e0]
      have hv : own_f5 q0 q1 = q0 := by unfold own_f5; rw [if_neg hc81]
      exact ⟨by rw [hv], N0, rfl⟩
theorem own_f5_cases (q0 : Int64) (q1 : Int64) : (q0 < q1 ∧ (own_f5 q0 q1 = q1)) ∨ (¬ (q0 < q1) ∧ (own_f5 q0 q1 = q0)) := by
  by_cases cs0 : q0 < q1
  · refine Or.inl ⟨cs0, ?_⟩
    unfold own_f5; rw [if_pos cs0]
  · refine Or.inr ⟨cs0, ?_⟩
    unfold own_f5; rw [if_neg cs0]
theorem own_pd0 : parseMethodDescriptor "(Ljava/lang/String;JJLjava/lang/String;)V" = some ⟨[(.object "java/lang/String"), .long, .long, (.object "java/lang/String")], none⟩ := by decide +kernel
theorem own_pd1 : parseMethodDescriptor "(J)Z" = some ⟨[.long], some .boolean⟩ := by decide +kernel
theorem own_pd2 : parseMethodDescriptor "(JJ)J" = some ⟨[.long, .long], some .long⟩ := by decide +kernel
set_option maxRecDepth 65536 in
set_option maxHeartbeats 40000000 in
theorem own_leaf0_1 (q0 : Int64) (q1 : Int64) (q2 : Int64) (q3 : Int64) (p4 : Int32) (hc83 : (p4 &&& (1 : Int32)) = (0 : Int32)) (v113 : Int32) (hv113 : v113 = (own_f3 q0 q0)) (hc115 : q0 = (-9223372036854775808 : Int64)) (v119 : Int64) (hv119 : v119 = (own_f4 q1 q2)) (v123 : Int64) (hv123 : v123 = (own_f5 q1 q2)) (hc128 : (own_f3 q0 v119) = (0 : Int32)) (hc130 : v113 = (0 : Int32)) : False := by
  generalize hex1 : (p4 &&& (1 : Int32)) = ex1 at *
  have fc2 := own_f3_cases q0 q0
  generalize own_f3 q0 q0 = ex2 at *
  have fc3 := own_f4_cases q1 q2
  generalize own_f4 q1 q2 = ex3 at *
  have fc4 := own_f5_cases q1 q2
  generalize own_f5 q1 q2 = ex4 at *
  have fc5 := own_f3_cases q0 v119
  generalize own_f3 q0 v119 = ex5 at *
  try simp only [Int32.lt_iff_toInt_lt, Int64.lt_iff_toInt_lt, ← Int32.toInt_inj, ← Int64.toInt_inj, Int32.reduceToInt, Int64.reduceToInt, not_true_eq_false, not_false_eq_true, false_and, and_false, true_and, and_true, false_or, or_false, true_or, or_true] at hc83
  try simp only [Int32.lt_iff_toInt_lt, Int64.lt_iff_toInt_lt, ← Int32.toInt_inj, ← Int64.toInt_inj, Int32.reduceToInt, Int64.reduceToInt, not_true_eq_false, not_false_eq_true, false_and, and_false, true_and, and_true, false_or, or_false, true_or, or_true] at hv113
  try simp only [Int32.lt_iff_toInt_lt, Int64.lt_iff_toInt_lt, ← Int32.toInt_inj, ← Int64.toInt_inj, Int32.reduceToInt, Int64.reduceToInt, not_true_eq_false, not_false_eq_true, false_and, and_false, true_and, and_true, false_or, or_false, true_or, or_true] at hc115
  try simp only [Int32.lt_iff_toInt_lt, Int64.lt_iff_toInt_lt, ← Int32.toInt_inj, ← Int64.toInt_inj, Int32.reduceToInt, Int64.reduceToInt, not_true_eq_false, not_false_eq_true, false_and, and_false, true_and, and_true, false_or, or_false, true_or, or_true] at hv119
  try simp only [Int32.lt_iff_toInt_lt, Int64.lt_iff_toInt_lt, ← Int32.toInt_inj, ← Int64.toInt_inj, Int32.reduceToInt, Int64.reduceToInt, not_true_eq_false, not_false_eq_true, false_and, and_false, true_and, and_true, false_or, or_false, true_or, or_true] at hv123
  try simp only [Int32.lt_iff_toInt_lt, Int64.lt_iff_toInt_lt, ← Int32.toInt_inj, ← Int64.toInt_inj, Int32.reduceToInt, Int64.reduceToInt, not_true_eq_false, not_false_eq_true, false_and, and_false, true_and, and_true, false_or, or_false, true_or, or_true] at hc128
  try simp only [Int32.lt_iff_toInt_lt, Int64.lt_iff_toInt_lt, ← Int32.toInt_inj, ← Int64.toInt_inj, Int32.reduceToInt, Int64.reduceToInt, not_true_eq_false, not_false_eq_true, false_and, and_false, true_and, and_true, false_or, or_false, true_or, or_true] at hc130
  have := Int64.le_toInt q0; have := Int64.toInt_lt q0
  have := Int64.le_toInt q1; have := Int64.toInt_lt q1
  have := Int64.le_toInt q2; have := Int64.toInt_lt q2
  have := Int64.le_toInt q3; have := Int64.toInt_lt q3
  have := Int32.le_toInt p4; have := Int32.toInt_lt p4
  have := Int32.le_toInt v113; have := Int32.toInt_lt v113
  have := Int64.le_toInt v119; have := Int64.toInt_lt v119
  have := Int64.le_toInt v123; have := Int64.toInt_lt v123
  have bl1 := Int32.le_toInt ex1; have bu1 := Int32.toInt_lt ex1
  have fa1 := c_mask p4 (1 : Int32) 1 (by decide) (by decide); rw [hex1] at fa1; try simp only [Int32.reduceToInt, Int64.reduceToInt] at fa1
  clear hex1
  try simp only [Int32.lt_iff_toInt_lt, Int64.lt_iff_toInt_lt, ← Int32.toInt_inj, ← Int64.toInt_inj, Int32.reduceToInt, Int64.reduceToInt, not_true_eq_false, not_false_eq_true, false_and, and_false, true_and, and_true, false_or, or_false, true_or, or_true] at fc2
  try simp only [Int32.lt_iff_toInt_lt, Int64.lt_iff_toInt_lt, ← Int32.toInt_inj, ← Int64.toInt_inj, Int32.reduceToInt, Int64.reduceToInt, not_true_eq_false, not_false_eq_true, false_and, and_false, true_and, and_true, false_or, or_false, true_or, or_true] at fc3
  try simp only [Int32.lt_iff_toInt_lt, Int64.lt_iff_toInt_lt, ← Int32.toInt_inj, ← Int64.toInt_inj, Int32.reduceToInt, Int64.reduceToInt, not_true_eq_false, not_false_eq_true, false_and, and_false, true_and, and_true, false_or, or_false, true_or, or_true] at fc4
  try simp only [Int32.lt_iff_toInt_lt, Int64.lt_iff_toInt_lt, ← Int32.toInt_inj, ← Int64.toInt_inj, Int32.reduceToInt, Int64.reduceToInt, not_true_eq_false, not_false_eq_true, false_and, and_false, true_and, and_true, false_or, or_false, true_or, or_true] at fc5
  all_goals omega
set_option maxRecDepth 65536 in
set_option maxHeartbeats 40000000 in
theorem own_leaf0_3 (q0 : Int64) (q1 : Int64) (q2 : Int64) (q3 : Int64) (p4 : Int32) (hc83 : (p4 &&& (1 : Int32)) = (0 : Int32)) (v113 : Int32) (hv113 : v113 = (own_f3 q0 q0)) (hc115 : q0 = (-9223372036854775808 : Int64)) (v119 : Int64) (hv119 : v119 = (own_f4 q1 q2)) (v123 : Int64) (hv123 : v123 = (own_f5 q1 q2)) (hc128 : ¬ ((own_f3 q0 v119) = (0 : Int32))) (hc135 : (own_f3 q0 v123) = (0 : Int32)) (hc137 : v113 = (0 : Int32)) : False := by
  generalize hex1 : (p4 &&& (1 : Int32)) = ex1 at *
  have fc2 := own_f3_cases q0 q0
  generalize own_f3 q0 q0 = ex2 at *
  have fc3 := own_f4_cases q1 q2
  generalize own_f4 q1 q2 = ex3 at *
  have fc4 := own_f5_cases q1 q2
  generalize own_f5 q1 q2 = ex4 at *
  have fc5 := own_f3_cases q0 v119
  generalize own_f3 q0 v119 = ex5 at *
  have fc6 := own_f3_cases q0 v123
  generalize own_f3 q0 v123 = ex6 at *
  try simp only [Int32.lt_iff_toInt_lt, Int64.lt_iff_toInt_lt, ← Int32.toInt_inj, ← Int64.toInt_inj, Int32.reduceToInt, Int64.reduceToInt, not_true_eq_false, not_false_eq_true, false_and, and_false, true_and, and_true, false_or, or_false, true_or, or_true] at hc83
  try simp only [Int32.lt_iff_toInt_lt, Int64.lt_iff_toInt_lt, ← Int32.toInt_inj, ← Int64.toInt_inj, Int32.reduceToInt, Int64.reduceToInt, not_true_eq_false, not_false_eq_true, false_and, and_false, true_and, and_true, false_or, or_false, true_or, or_true] at hv113
  try simp only [Int32.lt_iff_toInt_lt, Int64.lt_iff_toInt_lt, ← Int32.toInt_inj, ← Int64.toInt_inj, Int32.reduceToInt, Int64.reduceToInt, not_true_eq_false, not_false_eq_true, false_and, and_false, true_and, and_true, false_or, or_false, true_or, or_true] at hc115
  try simp only [Int32.lt_iff_toInt_lt, Int64.lt_iff_toInt_lt, ← Int32.toInt_inj, ← Int64.toInt_inj, Int32.reduceToInt, Int64.reduceToInt, not_true_eq_false, not_false_eq_true, false_and, and_false, true_and, and_true, false_or, or_false, true_or, or_true] at hv119
  try simp only [Int32.lt_iff_toInt_lt, Int64.lt_iff_toInt_lt, ← Int32.toInt_inj, ← Int64.toInt_inj, Int32.reduceToInt, Int64.reduceToInt, not_true_eq_false, not_false_eq_true, false_and, and_false, true_and, and_true, false_or, or_false, true_or, or_true] at hv123
  try simp only [Int32.lt_iff_toInt_lt, Int64.lt_iff_toInt_lt, ← Int32.toInt_inj, ← Int64.toInt_inj, Int32.reduceToInt, Int64.reduceToInt, not_true_eq_false, not_false_eq_true, false_and, and_false, true_and, and_true, false_or, or_false, true_or, or_true] at hc128
  try simp only [Int32.lt_iff_toInt_lt, Int64.lt_iff_toInt_lt, ← Int32.toInt_inj, ← Int64.toInt_inj, Int32.reduceToInt, Int64.reduceToInt, not_true_eq_false, not_false_eq_true, false_and, and_false, true_and, and_true, false_or, or_false, true_or, or_true] at hc135
  try simp only [Int32.lt_iff_toInt_lt, Int64.lt_iff_toInt_lt, ← Int32.toInt_inj, ← Int64.toInt_inj, Int32.reduceToInt, Int64.reduceToInt, not_true_eq_false, not_false_eq_true, false_and, and_false, true_and, and_true, false_or, or_false, true_or, or_true] at hc137
  have := Int64.le_toInt q0; have := Int64.toInt_lt q0
  have := Int64.le_toInt q1; have := Int64.toInt_lt q1
  have := Int64.le_toInt q2; have := Int64.toInt_lt q2
  have := Int64.le_toInt q3; have := Int64.toInt_lt q3
  have := Int32.le_toInt p4; have := Int32.toInt_lt p4
  have := Int32.le_toInt v113; have := Int32.toInt_lt v113
  have := Int64.le_toInt v119; have := Int64.toInt_lt v119
  have := Int64.le_toInt v123; have := Int64.toInt_lt v123
  have bl1 := Int32.le_toInt ex1; have bu1 := Int32.toInt_lt ex1
  have fa1 := c_mask p4 (1 : Int32) 1 (by decide) (by decide); rw [hex1] at fa1; try simp only [Int32.reduceToInt, Int64.reduceToInt] at fa1
  clear hex1
  try simp only [Int32.lt_iff_toInt_lt, Int64.lt_iff_toInt_lt, ← Int32.toInt_inj, ← Int64.toInt_inj, Int32.reduceToInt, Int64.reduceToInt, not_true_eq_false, not_false_eq_true, false_and, and_false, true_and, and_true, false_or, or_false, true_or, or_true] at fc2
  try simp only [Int32.lt_iff_toInt_lt, Int64.lt_iff_toInt_lt, ← Int32.toInt_inj, ← Int64.toInt_inj, Int32.reduceToInt, Int64.reduceToInt, not_true_eq_false, not_false_eq_true, false_and, and_false, true_and, and_true, false_or, or_false, true_or, or_true] at fc3
  try simp only [Int32.lt_iff_toInt_lt, Int64.lt_iff_toInt_lt, ← Int32.toInt_inj, ← Int64.toInt_inj, Int32.reduceToInt, Int64.reduceToInt, not_true_eq_false, not_false_eq_true, false_and, and_false, true_and, and_true, false_or, or_false, true_or, or_true] at fc4
  try simp only [Int32.lt_iff_toInt_lt, Int64.lt_iff_toInt_lt, ← Int32.toInt_inj, ← Int64.toInt_inj, Int32.reduceToInt, Int64.reduceToInt, not_true_eq_false, not_false_eq_true, false_and, and_false, true_and, and_true, false_or, or_false, true_or, or_true] at fc5
  try simp only [Int32.lt_iff_toInt_lt, Int64.lt_iff_toInt_lt, ← Int32.toInt_inj, ← Int64.toInt_inj, Int32.reduceToInt, Int64.reduceToInt, not_true_eq_false, not_false_eq_true, false_and, and_false, true_and, and_true, false_or, or_false, true_or, or_true] at fc6
  all_goals omega
set_option maxRecDepth 65536 in
set_option maxHeartbeats 40000000 in
theorem own_leaf0_4 (q0 : Int64) (q1 : Int64) (q2 : Int64) (q3 : Int64) (p4 : Int32) (hc83 : (p4 &&& (1 : Int32)) = (0 : Int32)) (v113 : Int32) (hv113 : v113 = (own_f3 q0 q0)) (hc115 : q0 = (-9223372036854775808 : Int64)) (v119 : Int64) (hv119 : v119 = (own_f4 q1 q2)) (v123 : Int64) (hv123 : v123 = (own_f5 q1 q2)) (hc128 : ¬ ((own_f3 q0 v119) = (0 : Int32))) (hc135 : (own_f3 q0 v123) = (0 : Int32)) (hc137 : ¬ (v113 = (0 : Int32))) : False := by
  generalize hex1 : (p4 &&& (1 : Int32)) = ex1 at *
  have fc2 := own_f3_cases q0 q0
  generalize own_f3 q0 q0 = ex2 at *
  have fc3 := own_f4_cases q1 q2
  generalize own_f4 q1 q2 = ex3 at *
  have fc4 := own_f5_cases q1 q2
  generalize own_f5 q1 q2 = ex4 at *
  have fc5 := own_f3_cases q0 v119
  generalize own_f3 q0 v119 = ex5 at *
  have fc6 := own_f3_cases q0 v123
  generalize own_f3 q0 v123 = ex6 at *
  try simp only [Int32.lt_iff_toInt_lt, Int64.lt_iff_toInt_lt, ← Int32.toInt_inj, ← Int64.toInt_inj, Int32.reduceToInt, Int64.reduceToInt, not_true_eq_false, not_false_eq_true, false_and, and_false, true_and, and_true, false_or, or_false, true_or, or_true] at hc83
  try simp only [Int32.lt_iff_toInt_lt, Int64.lt_iff_toInt_lt, ← Int32.toInt_inj, ← Int64.toInt_inj, Int32.reduceToInt, Int64.reduceToInt, not_true_eq_false, not_false_eq_true, false_and, and_false, true_and, and_true, false_or, or_false, true_or, or_true] at hv113
  try simp only [Int32.lt_iff_toInt_lt, Int64.lt_iff_toInt_lt, ← Int32.toInt_inj, ← Int64.toInt_inj, Int32.reduceToInt, Int64.reduceToInt, not_true_eq_false, not_false_eq_true, false_and, and_false, true_and, and_true, false_or, or_false, true_or, or_true] at hc115
  try simp only [Int32.lt_iff_toInt_lt, Int64.lt_iff_toInt_lt, ← Int32.toInt_inj, ← Int64.toInt_inj, Int32.reduceToInt, Int64.reduceToInt, not_true_eq_false, not_false_eq_true, false_and, and_false, true_and, and_true, false_or, or_false, true_or, or_true] at hv119
  try simp only [Int32.lt_iff_toInt_lt, Int64.lt_iff_toInt_lt, ← Int32.toInt_inj, ← Int64.toInt_inj, Int32.reduceToInt, Int64.reduceToInt, not_true_eq_false, not_false_eq_true, false_and, and_false, true_and, and_true, false_or, or_false, true_or, or_true] at hv123
  try simp only [Int32.lt_iff_toInt_lt, Int64.lt_iff_toInt_lt, ← Int32.toInt_inj, ← Int64.toInt_inj, Int32.reduceToInt, Int64.reduceToInt, not_true_eq_false, not_false_eq_true, false_and, and_false, true_and, and_true, false_or, or_false, true_or, or_true] at hc128
  try simp only [Int32.lt_iff_toInt_lt, Int64.lt_iff_toInt_lt, ← Int32.toInt_inj, ← Int64.toInt_inj, Int32.reduceToInt, Int64.reduceToInt, not_true_eq_false, not_false_eq_true, false_and, and_false, true_and, and_true, false_or, or_false, true_or, or_true] at hc135
  try simp only [Int32.lt_iff_toInt_lt, Int64.lt_iff_toInt_lt, ← Int32.toInt_inj, ← Int64.toInt_inj, Int32.reduceToInt, Int64.reduceToInt, not_true_eq_false, not_false_eq_true, false_and, and_false, true_and, and_true, false_or, or_false, true_or, or_true] at hc137
  have := Int64.le_toInt q0; have := Int64.toInt_lt q0
  have := Int64.le_toInt q1; have := Int64.toInt_lt q1
  have := Int64.le_toInt q2; have := Int64.toInt_lt q2
  have := Int64.le_toInt q3; have := Int64.toInt_lt q3
  have := Int32.le_toInt p4; have := Int32.toInt_lt p4
  have := Int32.le_toInt v113; have := Int32.toInt_lt v113
  have := Int64.le_toInt v119; have := Int64.toInt_lt v119
  have := Int64.le_toInt v123; have := Int64.toInt_lt v123
  have bl1 := Int32.le_toInt ex1; have bu1 := Int32.toInt_lt ex1
  have fa1 := c_mask p4 (1 : Int32) 1 (by decide) (by decide); rw [hex1] at fa1; try simp only [Int32.reduceToInt, Int64.reduceToInt] at fa1
  clear hex1
  try simp only [Int32.lt_iff_toInt_lt, Int64.lt_iff_toInt_lt, ← Int32.toInt_inj, ← Int64.toInt_inj, Int32.reduceToInt, Int64.reduceToInt, not_true_eq_false, not_false_eq_true, false_and, and_false, true_and, and_true, false_or, or_false, true_or, or_true] at fc2
  try simp only [Int32.lt_iff_toInt_lt, Int64.lt_iff_toInt_lt, ← Int32.toInt_inj, ← Int64.toInt_inj, Int32.reduceToInt, Int64.reduceToInt, not_true_eq_false, not_false_eq_true, false_and, and_false, true_and, and_true, false_or, or_false, true_or, or_true] at fc3
  try simp only [Int32.lt_iff_toInt_lt, Int64.lt_iff_toInt_lt, ← Int32.toInt_inj, ← Int64.toInt_inj, Int32.reduceToInt, Int64.reduceToInt, not_true_eq_false, not_false_eq_true, false_and, and_false, true_and, and_true, false_or, or_false, true_or, or_true] at fc4
  try simp only [Int32.lt_iff_toInt_lt, Int64.lt_iff_toInt_lt, ← Int32.toInt_inj, ← Int64.toInt_inj, Int32.reduceToInt, Int64.reduceToInt, not_true_eq_false, not_false_eq_true, false_and, and_false, true_and, and_true, false_or, or_false, true_or, or_true] at fc5
  try simp only [Int32.lt_iff_toInt_lt, Int64.lt_iff_toInt_lt, ← Int32.toInt_inj, ← Int64.toInt_inj, Int32.reduceToInt, Int64.reduceToInt, not_true_eq_false, not_false_eq_true, false_and, and_false, true_and, and_true, false_or, or_false, true_or, or_true] at fc6
  all_goals omega
set_option maxRecDepth 65536 in
set_option maxHeartbeats 40000000 in
theorem own_leaf0_5 (q0 : Int64) (q1 : Int64) (q2 : Int64) (q3 : Int64) (p4 : Int32) (hc83 : (p4 &&& (1 : Int32)) = (0 : Int32)) (v113 : Int32) (hv113 : v113 = (own_f3 q0 q0)) (hc115 : q0 = (-9223372036854775808 : Int64)) (v119 : Int64) (hv119 : v119 = (own_f4 q1 q2)) (v123 : Int64) (hv123 : v123 = (own_f5 q1 q2)) (hc128 : ¬ ((own_f3 q0 v119) = (0 : Int32))) (hc135 : ¬ ((own_f3 q0 v123) = (0 : Int32))) (hc139 : v113 = (0 : Int32)) : False := by
  generalize hex1 : (p4 &&& (1 : Int32)) = ex1 at *
  have fc2 := own_f3_cases q0 q0
  generalize own_f3 q0 q0 = ex2 at *
  have fc3 := own_f4_cases q1 q2
  generalize own_f4 q1 q2 = ex3 at *
  have fc4 := own_f5_cases q1 q2
  generalize own_f5 q1 q2 = ex4 at *
  have fc5 := own_f3_cases q0 v119
  generalize own_f3 q0 v119 = ex5 at *
  have fc6 := own_f3_cases q0 v123
  generalize own_f3 q0 v123 = ex6 at *
  try simp only [Int32.lt_iff_toInt_lt, Int64.lt_iff_toInt_lt, ← Int32.toInt_inj, ← Int64.toInt_inj, Int32.reduceToInt, Int64.reduceToInt, not_true_eq_false, not_false_eq_true, false_and, and_false, true_and, and_true, false_or, or_false, true_or, or_true] at hc83
  try simp only [Int32.lt_iff_toInt_lt, Int64.lt_iff_toInt_lt, ← Int32.toInt_inj, ← Int64.toInt_inj, Int32.reduceToInt, Int64.reduceToInt, not_true_eq_false, not_false_eq_true, false_and, and_false, true_and, and_true, false_or, or_false, true_or, or_true] at hv113
  try simp only [Int32.lt_iff_toInt_lt, Int64.lt_iff_toInt_lt, ← Int32.toInt_inj, ← Int64.toInt_inj, Int32.reduceToInt, Int64.reduceToInt, not_true_eq_false, not_false_eq_true, false_and, and_false, true_and, and_true, false_or, or_false, true_or, or_true] at hc115
  try simp only [Int32.lt_iff_toInt_lt, Int64.lt_iff_toInt_lt, ← Int32.toInt_inj, ← Int64.toInt_inj, Int32.reduceToInt, Int64.reduceToInt, not_true_eq_false, not_false_eq_true, false_and, and_false, true_and, and_true, false_or, or_false, true_or, or_true] at hv119
  try simp only [Int32.lt_iff_toInt_lt, Int64.lt_iff_toInt_lt, ← Int32.toInt_inj, ← Int64.toInt_inj, Int32.reduceToInt, Int64.reduceToInt, not_true_eq_false, not_false_eq_true, false_and, and_false, true_and, and_true, false_or, or_false, true_or, or_true] at hv123
  try simp only [Int32.lt_iff_toInt_lt, Int64.lt_iff_toInt_lt, ← Int32.toInt_inj, ← Int64.toInt_inj, Int32.reduceToInt, Int64.reduceToInt, not_true_eq_false, not_false_eq_true, false_and, and_false, true_and, and_true, false_or, or_false, true_or, or_true] at hc128
  try simp only [Int32.lt_iff_toInt_lt, Int64.lt_iff_toInt_lt, ← Int32.toInt_inj, ← Int64.toInt_inj, Int32.reduceToInt, Int64.reduceToInt, not_true_eq_false, not_false_eq_true, false_and, and_false, true_and, and_true, false_or, or_false, true_or, or_true] at hc135
  try simp only [Int32.lt_iff_toInt_lt, Int64.lt_iff_toInt_lt, ← Int32.toInt_inj, ← Int64.toInt_inj, Int32.reduceToInt, Int64.reduceToInt, not_true_eq_false, not_false_eq_true, false_and, and_false, true_and, and_true, false_or, or_false, true_or, or_true] at hc139
  have := Int64.le_toInt q0; have := Int64.toInt_lt q0
  have := Int64.le_toInt q1; have := Int64.toInt_lt q1
  have := Int64.le_toInt q2; have := Int64.toInt_lt q2
  have := Int64.le_toInt q3; have := Int64.toInt_lt q3
  have := Int32.le_toInt p4; have := Int32.toInt_lt p4
  have := Int32.le_toInt v113; have := Int32.toInt_lt v113
  have := Int64.le_toInt v119; have := Int64.toInt_lt v119
  have := Int64.le_toInt v123; have := Int64.toInt_lt v123
  have bl1 := Int32.le_toInt ex1; have bu1 := Int32.toInt_lt ex1
  have fa1 := c_mask p4 (1 : Int32) 1 (by decide) (by decide); rw [hex1] at fa1; try simp only [Int32.reduceToInt, Int64.reduceToInt] at fa1
  clear hex1
  try simp only [Int32.lt_iff_toInt_lt, Int64.lt_iff_toInt_lt, ← Int32.toInt_inj, ← Int64.toInt_inj, Int32.reduceToInt, Int64.reduceToInt, not_true_eq_false, not_false_eq_true, false_and, and_false, true_and, and_true, false_or, or_false, true_or, or_true] at fc2
  try simp only [Int32.lt_iff_toInt_lt, Int64.lt_iff_toInt_lt, ← Int32.toInt_inj, ← Int64.toInt_inj, Int32.reduceToInt, Int64.reduceToInt, not_true_eq_false, not_false_eq_true, false_and, and_false, true_and, and_true, false_or, or_false, true_or, or_true] at fc3
  try simp only [Int32.lt_iff_toInt_lt, Int64.lt_iff_toInt_lt, ← Int32.toInt_inj, ← Int64.toInt_inj, Int32.reduceToInt, Int64.reduceToInt, not_true_eq_false, not_false_eq_true, false_and, and_false, true_and, and_true, false_or, or_false, true_or, or_true] at fc4
  try simp only [Int32.lt_iff_toInt_lt, Int64.lt_iff_toInt_lt, ← Int32.toInt_inj, ← Int64.toInt_inj, Int32.reduceToInt, Int64.reduceToInt, not_true_eq_false, not_false_eq_true, false_and, and_false, true_and, and_true, false_or, or_false, true_or, or_true] at fc5
  try simp only [Int32.lt_iff_toInt_lt, Int64.lt_iff_toInt_lt, ← Int32.toInt_inj, ← Int64.toInt_inj, Int32.reduceToInt, Int64.reduceToInt, not_true_eq_false, not_false_eq_true, false_and, and_false, true_and, and_true, false_or, or_false, true_or, or_true] at fc6
  all_goals omega
set_option maxRecDepth 65536 in
set_option maxHeartbeats 40000000 in
theorem own_leaf0_7 (q0 : Int64) (q1 : Int64) (q2 : Int64) (q3 : Int64) (p4 : Int32) (hc83 : (p4 &&& (1 : Int32)) = (0 : Int32)) (v113 : Int32) (hv113 : v113 = (own_f3 q0 q0)) (hc115 : ¬ (q0 = (-9223372036854775808 : Int64))) (v143 : Int32) (hv143 : v143 = (own_f3 q0 (q0 - (1 : Int64)))) (v147 : Int64) (hv147 : v147 = (own_f4 q1 q2)) (v151 : Int64) (hv151 : v151 = (own_f5 q1 q2)) (hc156 : (own_f3 q0 v147) = (0 : Int32)) (hc158 : v113 = (0 : Int32)) : False := by
  generalize hex1 : (p4 &&& (1 : Int32)) = ex1 at *
  have fc2 := own_f3_cases q0 q0
  generalize own_f3 q0 q0 = ex2 at *
  generalize hex3 : (q0 - (1 : Int64)) = ex3 at *
  have fc4 := own_f3_cases q0 ex3
  generalize own_f3 q0 ex3 = ex4 at *
  have fc5 := own_f4_cases q1 q2
  generalize own_f4 q1 q2 = ex5 at *
  have fc6 := own_f5_cases q1 q2
  generalize own_f5 q1 q2 = ex6 at *
  have fc7 := own_f3_cases q0 v147
  generalize own_f3 q0 v147 = ex7 at *
  try simp only [Int32.lt_iff_toInt_lt, Int64.lt_iff_toInt_lt, ← Int32.toInt_inj, ← Int64.toInt_inj, Int32.reduceToInt, Int64.reduceToInt, not_true_eq_false, not_false_eq_true, false_and, and_false, true_and, and_true, false_or, or_false, true_or, or_true] at hc83
  try simp only [Int32.lt_iff_toInt_lt, Int64.lt_iff_toInt_lt, ← Int32.toInt_inj, ← Int64.toInt_inj, Int32.reduceToInt, Int64.reduceToInt, not_true_eq_false, not_false_eq_true, false_and, and_false, true_and, and_true, false_or, or_false, true_or, or_true] at hv113
  try simp only [Int32.lt_iff_toInt_lt, Int64.lt_iff_toInt_lt, ← Int32.toInt_inj, ← Int64.toInt_inj, Int32.reduceToInt, Int64.reduceToInt, not_true_eq_false, not_false_eq_true, false_and, and_false, true_and, and_true, false_or, or_false, true_or, or_true] at hc115
  try simp only [Int32.lt_iff_toInt_lt, Int64.lt_iff_toInt_lt, ← Int32.toInt_inj, ← Int64.toInt_inj, Int32.reduceToInt, Int64.reduceToInt, not_true_eq_false, not_false_eq_true, false_and, and_false, true_and, and_true, false_or, or_false, true_or, or_true] at hv143
  try simp only [Int32.lt_iff_toInt_lt, Int64.lt_iff_toInt_lt, ← Int32.toInt_inj, ← Int64.toInt_inj, Int32.reduceToInt, Int64.reduceToInt, not_true_eq_false, not_false_eq_true, false_and, and_false, true_and, and_true, false_or, or_false, true_or, or_true] at hv147
  try simp only [Int32.lt_iff_toInt_lt, Int64.lt_iff_toInt_lt, ← Int32.toInt_inj, ← Int64.toInt_inj, Int32.reduceToInt, Int64.reduceToInt, not_true_eq_false, not_false_eq_true, false_and, and_false, true_and, and_true, false_or, or_false, true_or, or_true] at hv151
  try simp only [Int32.lt_iff_toInt_lt, Int64.lt_iff_toInt_lt, ← Int32.toInt_inj, ← Int64.toInt_inj, Int32.reduceToInt, Int64.reduceToInt, not_true_eq_false, not_false_eq_true, false_and, and_false, true_and, and_true, false_or, or_false, true_or, or_true] at hc156
  try simp only [Int32.lt_iff_toInt_lt, Int64.lt_iff_toInt_lt, ← Int32.toInt_inj, ← Int64.toInt_inj, Int32.reduceToInt, Int64.reduceToInt, not_true_eq_false, not_false_eq_true, false_and, and_false, true_and, and_true, false_or, or_false, true_or, or_true] at hc158
  have := Int64.le_toInt q0; have := Int64.toInt_lt q0
  have := Int64.le_toInt q1; have := Int64.toInt_lt q1
  have := Int64.le_toInt q2; have := Int64.toInt_lt q2
  have := Int64.le_toInt q3; have := Int64.toInt_lt q3
  have := Int32.le_toInt p4; have := Int32.toInt_lt p4
  have := Int32.le_toInt v113; have := Int32.toInt_lt v113
  have := Int32.le_toInt v143; have := Int32.toInt_lt v143
  have := Int64.le_toInt v147; have := Int64.toInt_lt v147
  have := Int64.le_toInt v151; have := Int64.toInt_lt v151
  have bl1 := Int32.le_toInt ex1; have bu1 := Int32.toInt_lt ex1
  have fa1 := c_mask p4 (1 : Int32) 1 (by decide) (by decide); rw [hex1] at fa1; try simp only [Int32.reduceToInt, Int64.reduceToInt] at fa1
  clear hex1
  try simp only [Int32.lt_iff_toInt_lt, Int64.lt_iff_toInt_lt, ← Int32.toInt_inj, ← Int64.toInt_inj, Int32.reduceToInt, Int64.reduceToInt, not_true_eq_false, not_false_eq_true, false_and, and_false, true_and, and_true, false_or, or_false, true_or, or_true] at fc2
  have bl3 := Int64.le_toInt ex3; have bu3 := Int64.toInt_lt ex3
  have fa3 := c_lsub q0 (1 : Int64); rw [hex3] at fa3; try simp only [Int32.reduceToInt, Int64.reduceToInt] at fa3
  clear hex3
  try simp only [Int32.lt_iff_toInt_lt, Int64.lt_iff_toInt_lt, ← Int32.toInt_inj, ← Int64.toInt_inj, Int32.reduceToInt, Int64.reduceToInt, not_true_eq_false, not_false_eq_true, false_and, and_false, true_and, and_true, false_or, or_false, true_or, or_true] at fc4
  try simp only [Int32.lt_iff_toInt_lt, Int64.lt_iff_toInt_lt, ← Int32.toInt_inj, ← Int64.toInt_inj, Int32.reduceToInt, Int64.reduceToInt, not_true_eq_false, not_false_eq_true, false_and, and_false, true_and, and_true, false_or, or_false, true_or, or_true] at fc5
  try simp only [Int32.lt_iff_toInt_lt, Int64.lt_iff_toInt_lt, ← Int32.toInt_inj, ← Int64.toInt_inj, Int32.reduceToInt, Int64.reduceToInt, not_true_eq_false, not_false_eq_true, false_and, and_false, true_and, and_true, false_or, or_false, true_or, or_true] at fc6
  try simp only [Int32.lt_iff_toInt_lt, Int64.lt_iff_toInt_lt, ← Int32.toInt_inj, ← Int64.toInt_inj, Int32.reduceToInt, Int64.reduceToInt, not_true_eq_false, not_false_eq_true, false_and, and_false, true_and, and_true, false_or, or_false, true_or, or_true] at fc7
  all_goals omega
set_option maxRecDepth 65536 in
set_option maxHeartbeats 40000000 in
theorem own_leaf0_9 (q0 : Int64) (q1 : Int64) (q2 : Int64) (q3 : Int64) (p4 : Int32) (hc83 : (p4 &&& (1 : Int32)) = (0 : Int32)) (v113 : Int32) (hv113 : v113 = (own_f3 q0 q0)) (hc115 : ¬ (q0 = (-9223372036854775808 : Int64))) (v143 : Int32) (hv143 : v143 = (own_f3 q0 (q0 - (1 : Int64)))) (v147 : Int64) (hv147 : v147 = (own_f4 q1 q2)) (v151 : Int64) (hv151 : v151 = (own_f5 q1 q2)) (hc156 : (own_f3 q0 v147) = (0 : Int32)) (hc158 : ¬ (v113 = (0 : Int32))) (hc160 : ¬ (v143 = (0 : Int32))) : False := by
  generalize hex1 : (p4 &&& (1 : Int32)) = ex1 at *
  have fc2 := own_f3_cases q0 q0
  generalize own_f3 q0 q0 = ex2 at *
  generalize hex3 : (q0 - (1 : Int64)) = ex3 at *
  have fc4 := own_f3_cases q0 ex3
  generalize own_f3 q0 ex3 = ex4 at *
  have fc5 := own_f4_cases q1 q2
  generalize own_f4 q1 q2 = ex5 at *
  have fc6 := own_f5_cases q1 q2
  generalize own_f5 q1 q2 = ex6 at *
  have fc7 := own_f3_cases q0 v147
  generalize own_f3 q0 v147 = ex7 at *
  try simp only [Int32.lt_iff_toInt_lt, Int64.lt_iff_toInt_lt, ← Int32.toInt_inj, ← Int64.toInt_inj, Int32.reduceToInt, Int64.reduceToInt, not_true_eq_false, not_false_eq_true, false_and, and_false, true_and, and_true, false_or, or_false, true_or, or_true] at hc83
  try simp only [Int32.lt_iff_toInt_lt, Int64.lt_iff_toInt_lt, ← Int32.toInt_inj, ← Int64.toInt_inj, Int32.reduceToInt, Int64.reduceToInt, not_true_eq_false, not_false_eq_true, false_and, and_false, true_and, and_true, false_or, or_false, true_or, or_true] at hv113
  try simp only [Int32.lt_iff_toInt_lt, Int64.lt_iff_toInt_lt, ← Int32.toInt_inj, ← Int64.toInt_inj, Int32.reduceToInt, Int64.reduceToInt, not_true_eq_false, not_false_eq_true, false_and, and_false, true_and, and_true, false_or, or_false, true_or, or_true] at hc115
  try simp only [Int32.lt_iff_toInt_lt, Int64.lt_iff_toInt_lt, ← Int32.toInt_inj, ← Int64.toInt_inj, Int32.reduceToInt, Int64.reduceToInt, not_true_eq_false, not_false_eq_true, false_and, and_false, true_and, and_true, false_or, or_false, true_or, or_true] at hv143
  try simp only [Int32.lt_iff_toInt_lt, Int64.lt_iff_toInt_lt, ← Int32.toInt_inj, ← Int64.toInt_inj, Int32.reduceToInt, Int64.reduceToInt, not_true_eq_false, not_false_eq_true, false_and, and_false, true_and, and_true, false_or, or_false, true_or, or_true] at hv147
  try simp only [Int32.lt_iff_toInt_lt, Int64.lt_iff_toInt_lt, ← Int32.toInt_inj, ← Int64.toInt_inj, Int32.reduceToInt, Int64.reduceToInt, not_true_eq_false, not_false_eq_true, false_and, and_false, true_and, and_true, false_or, or_false, true_or, or_true] at hv151
  try simp only [Int32.lt_iff_toInt_lt, Int64.lt_iff_toInt_lt, ← Int32.toInt_inj, ← Int64.toInt_inj, Int32.reduceToInt, Int64.reduceToInt, not_true_eq_false, not_false_eq_true, false_and, and_false, true_and, and_true, false_or, or_false, true_or, or_true] at hc156
  try simp only [Int32.lt_iff_toInt_lt, Int64.lt_iff_toInt_lt, ← Int32.toInt_inj, ← Int64.toInt_inj, Int32.reduceToInt, Int64.reduceToInt, not_true_eq_false, not_false_eq_true, false_and, and_false, true_and, and_true, false_or, or_false, true_or, or_true] at hc158
  try simp only [Int32.lt_iff_toInt_lt, Int64.lt_iff_toInt_lt, ← Int32.toInt_inj, ← Int64.toInt_inj, Int32.reduceToInt, Int64.reduceToInt, not_true_eq_false, not_false_eq_true, false_and, and_false, true_and, and_true, false_or, or_false, true_or, or_true] at hc160
  have := Int64.le_toInt q0; have := Int64.toInt_lt q0
  have := Int64.le_toInt q1; have := Int64.toInt_lt q1
  have := Int64.le_toInt q2; have := Int64.toInt_lt q2
  have := Int64.le_toInt q3; have := Int64.toInt_lt q3
  have := Int32.le_toInt p4; have := Int32.toInt_lt p4
  have := Int32.le_toInt v113; have := Int32.toInt_lt v113
  have := Int32.le_toInt v143; have := Int32.toInt_lt v143
  have := Int64.le_toInt v147; have := Int64.toInt_lt v147
  have := Int64.le_toInt v151; have := Int64.toInt_lt v151
  have bl1 := Int32.le_toInt ex1; have bu1 := Int32.toInt_lt ex1
  have fa1 := c_mask p4 (1 : Int32) 1 (by decide) (by decide); rw [hex1] at fa1; try simp only [Int32.reduceToInt, Int64.reduceToInt] at fa1
  clear hex1
  try simp only [Int32.lt_iff_toInt_lt, Int64.lt_iff_toInt_lt, ← Int32.toInt_inj, ← Int64.toInt_inj, Int32.reduceToInt, Int64.reduceToInt, not_true_eq_false, not_false_eq_true, false_and, and_false, true_and, and_true, false_or, or_false, true_or, or_true] at fc2
  have bl3 := Int64.le_toInt ex3; have bu3 := Int64.toInt_lt ex3
  have fa3 := c_lsub q0 (1 : Int64); rw [hex3] at fa3; try simp only [Int32.reduceToInt, Int64.reduceToInt] at fa3
  clear hex3
  try simp only [Int32.lt_iff_toInt_lt, Int64.lt_iff_toInt_lt, ← Int32.toInt_inj, ← Int64.toInt_inj, Int32.reduceToInt, Int64.reduceToInt, not_true_eq_false, not_false_eq_true, false_and, and_false, true_and, and_true, false_or, or_false, true_or, or_true] at fc4
  try simp only [Int32.lt_iff_toInt_lt, Int64.lt_iff_toInt_lt, ← Int32.toInt_inj, ← Int64.toInt_inj, Int32.reduceToInt, Int64.reduceToInt, not_true_eq_false, not_false_eq_true, false_and, and_false, true_and, and_true, false_or, or_false, true_or, or_true] at fc5
  try simp only [Int32.lt_iff_toInt_lt, Int64.lt_iff_toInt_lt, ← Int32.toInt_inj, ← Int64.toInt_inj, Int32.reduceToInt, Int64.reduceToInt, not_true_eq_false, not_false_eq_true, false_and, and_false, true_and, and_true, false_or, or_false, true_or, or_true] at fc6
  try simp only [Int32.lt_iff_toInt_lt, Int64.lt_iff_toInt_lt, ← Int32.toInt_inj, ← Int64.toInt_inj, Int32.reduceToInt, Int64.reduceToInt, not_true_eq_false, not_false_eq_true, false_and, and_false, true_and, and_true, false_or, or_false, true_or, or_true] at fc7
  all_goals omega
set_option maxRecDepth 65536 in
set_option maxHeartbeats 40000000 in
theorem own_leaf0_10 (q0 : Int64) (q1 : Int64) (q2 : Int64) (q3 : Int64) (p4 : Int32) (hc83 : (p4 &&& (1 : Int32)) = (0 : Int32)) (v113 : Int32) (hv113 : v113 = (own_f3 q0 q0)) (hc115 : ¬ (q0 = (-9223372036854775808 : Int64))) (v143 : Int32) (hv143 : v143 = (own_f3 q0 (q0 - (1 : Int64)))) (v147 : Int64) (hv147 : v147 = (own_f4 q1 q2)) (v151 : Int64) (hv151 : v151 = (own_f5 q1 q2)) (hc156 : ¬ ((own_f3 q0 v147) = (0 : Int32))) (hc165 : (own_f3 q0 v151) = (0 : Int32)) (hc167 : v113 = (0 : Int32)) : False := by
  generalize hex1 : (p4 &&& (1 : Int32)) = ex1 at *
  have fc2 := own_f3_cases q0 q0
  generalize own_f3 q0 q0 = ex2 at *
  generalize hex3 : (q0 - (1 : Int64)) = ex3 at *
  have fc4 := own_f3_cases q0 ex3
  generalize own_f3 q0 ex3 = ex4 at *
  have fc5 := own_f4_cases q1 q2
  generalize own_f4 q1 q2 = ex5 at *
  have fc6 := own_f5_cases q1 q2
  generalize own_f5 q1 q2 = ex6 at *
  have fc7 := own_f3_cases q0 v147
  generalize own_f3 q0 v147 = ex7 at *
  have fc8 := own_f3_cases q0 v151
  generalize own_f3 q0 v151 = ex8 at *
  try simp only [Int32.lt_iff_toInt_lt, Int64.lt_iff_toInt_lt, ← Int32.toInt_inj, ← Int64.toInt_inj, Int32.reduceToInt, Int64.reduceToInt, not_true_eq_false, not_false_eq_true, false_and, and_false, true_and, and_true, false_or, or_false, true_or, or_true] at hc83
  try simp only [Int32.lt_iff_toInt_lt, Int64.lt_iff_toInt_lt, ← Int32.toInt_inj, ← Int64.toInt_inj, Int32.reduceToInt, Int64.reduceToInt, not_true_eq_false, not_false_eq_true, false_and, and_false, true_and, and_true, false_or, or_false, true_or, or_true] at hv113
  try simp only [Int32.lt_iff_toInt_lt, Int64.lt_iff_toInt_lt, ← Int32.toInt_inj, ← Int64.toInt_inj, Int32.reduceToInt, Int64.reduceToInt, not_true_eq_false, not_false_eq_true, false_and, and_false, true_and, and_true, false_or, or_false, true_or, or_true] at hc115
  try simp only [Int32.lt_iff_toInt_lt, Int64.lt_iff_toInt_lt, ← Int32.toInt_inj, ← Int64.toInt_inj, Int32.reduceToInt, Int64.reduceToInt, not_true_eq_false, not_false_eq_true, false_and, and_false, true_and, and_true, false_or, or_false, true_or, or_true] at hv143
  try simp only [Int32.lt_iff_toInt_lt, Int64.lt_iff_toInt_lt, ← Int32.toInt_inj, ← Int64.toInt_inj, Int32.reduceToInt, Int64.reduceToInt, not_true_eq_false, not_false_eq_true, false_and, and_false, true_and, and_true, false_or, or_false, true_or, or_true] at hv147
  try simp only [Int32.lt_iff_toInt_lt, Int64.lt_iff_toInt_lt, ← Int32.toInt_inj, ← Int64.toInt_inj, Int32.reduceToInt, Int64.reduceToInt, not_true_eq_false, not_false_eq_true, false_and, and_false, true_and, and_true, false_or, or_false, true_or, or_true] at hv151
  try simp only [Int32.lt_iff_toInt_lt, Int64.lt_iff_toInt_lt, ← Int32.toInt_inj, ← Int64.toInt_inj, Int32.reduceToInt, Int64.reduceToInt, not_true_eq_false, not_false_eq_true, false_and, and_false, true_and, and_true, false_or, or_false, true_or, or_true] at hc156
  try simp only [Int32.lt_iff_toInt_lt, Int64.lt_iff_toInt_lt, ← Int32.toInt_inj, ← Int64.toInt_inj, Int32.reduceToInt, Int64.reduceToInt, not_true_eq_false, not_false_eq_true, false_and, and_false, true_and, and_true, false_or, or_false, true_or, or_true] at hc165
  try simp only [Int32.lt_iff_toInt_lt, Int64.lt_iff_toInt_lt, ← Int32.toInt_inj, ← Int64.toInt_inj, Int32.reduceToInt, Int64.reduceToInt, not_true_eq_false, not_false_eq_true, false_and, and_false, true_and, and_true, false_or, or_false, true_or, or_true] at hc167
  have := Int64.le_toInt q0; have := Int64.toInt_lt q0
  have := Int64.le_toInt q1; have := Int64.toInt_lt q1
  have := Int64.le_toInt q2; have := Int64.toInt_lt q2
  have := Int64.le_toInt q3; have := Int64.toInt_lt q3
  have := Int32.le_toInt p4; have := Int32.toInt_lt p4
  have := Int32.le_toInt v113; have := Int32.toInt_lt v113
  have := Int32.le_toInt v143; have := Int32.toInt_lt v143
  have := Int64.le_toInt v147; have := Int64.toInt_lt v147
  have := Int64.le_toInt v151; have := Int64.toInt_lt v151
  have bl1 := Int32.le_toInt ex1; have bu1 := Int32.toInt_lt ex1
  have fa1 := c_mask p4 (1 : Int32) 1 (by decide) (by decide); rw [hex1] at fa1; try simp only [Int32.reduceToInt, Int64.reduceToInt] at fa1
  clear hex1
  try simp only [Int32.lt_iff_toInt_lt, Int64.lt_iff_toInt_lt, ← Int32.toInt_inj, ← Int64.toInt_inj, Int32.reduceToInt, Int64.reduceToInt, not_true_eq_false, not_false_eq_true, false_and, and_false, true_and, and_true, false_or, or_false, true_or, or_true] at fc2
  have bl3 := Int64.le_toInt ex3; have bu3 := Int64.toInt_lt ex3
  have fa3 := c_lsub q0 (1 : Int64); rw [hex3] at fa3; try simp only [Int32.reduceToInt, Int64.reduceToInt] at fa3
  clear hex3
  try simp only [Int32.lt_iff_toInt_lt, Int64.lt_iff_toInt_lt, ← Int32.toInt_inj, ← Int64.toInt_inj, Int32.reduceToInt, Int64.reduceToInt, not_true_eq_false, not_false_eq_true, false_and, and_false, true_and, and_true, false_or, or_false, true_or, or_true] at fc4
  try simp only [Int32.lt_iff_toInt_lt, Int64.lt_iff_toInt_lt, ← Int32.toInt_inj, ← Int64.toInt_inj, Int32.reduceToInt, Int64.reduceToInt, not_true_eq_false, not_false_eq_true, false_and, and_false, true_and, and_true, false_or, or_false, true_or, or_true] at fc5
  try simp only [Int32.lt_iff_toInt_lt, Int64.lt_iff_toInt_lt, ← Int32.toInt_inj, ← Int64.toInt_inj, Int32.reduceToInt, Int64.reduceToInt, not_true_eq_false, not_false_eq_true, false_and, and_false, true_and, and_true, false_or, or_false, true_or, or_true] at fc6
  try simp only [Int32.lt_iff_toInt_lt, Int64.lt_iff_toInt_lt, ← Int32.toInt_inj, ← Int64.toInt_inj, Int32.reduceToInt, Int64.reduceToInt, not_true_eq_false, not_false_eq_true, false_and, and_false, true_and, and_true, false_or, or_false, true_or, or_true] at fc7
  try simp only [Int32.lt_iff_toInt_lt, Int64.lt_iff_toInt_lt, ← Int32.toInt_inj, ← Int64.toInt_inj, Int32.reduceToInt, Int64.reduceToInt, not_true_eq_false, not_false_eq_true, false_and, and_false, true_and, and_true, false_or, or_false, true_or, or_true] at fc8
  all_goals omega
set_option maxRecDepth 65536 in
set_option maxHeartbeats 40000000 in
theorem own_leaf0_11 (q0 : Int64) (q1 : Int64) (q2 : Int64) (q3 : Int64) (p4 : Int32) (hc83 : (p4 &&& (1 : Int32)) = (0 : Int32)) (v113 : Int32) (hv113 : v113 = (own_f3 q0 q0)) (hc115 : ¬ (q0 = (-9223372036854775808 : Int64))) (v143 : Int32) (hv143 : v143 = (own_f3 q0 (q0 - (1 : Int64)))) (v147 : Int64) (hv147 : v147 = (own_f4 q1 q2)) (v151 : Int64) (hv151 : v151 = (own_f5 q1 q2)) (hc156 : ¬ ((own_f3 q0 v147) = (0 : Int32))) (hc165 : (own_f3 q0 v151) = (0 : Int32)) (hc167 : ¬ (v113 = (0 : Int32))) (hc169 : v143 = (0 : Int32)) : False := by
  generalize hex1 : (p4 &&& (1 : Int32)) = ex1 at *
  have fc2 := own_f3_cases q0 q0
  generalize own_f3 q0 q0 = ex2 at *
  generalize hex3 : (q0 - (1 : Int64)) = ex3 at *
  have fc4 := own_f3_cases q0 ex3
  generalize own_f3 q0 ex3 = ex4 at *
  have fc5 := own_f4_cases q1 q2
  generalize own_f4 q1 q2 = ex5 at *
  have fc6 := own_f5_cases q1 q2
  generalize own_f5 q1 q2 = ex6 at *
  have fc7 := own_f3_cases q0 v147
  generalize own_f3 q0 v147 = ex7 at *
  have fc8 := own_f3_cases q0 v151
  generalize own_f3 q0 v151 = ex8 at *
  try simp only [Int32.lt_iff_toInt_lt, Int64.lt_iff_toInt_lt, ← Int32.toInt_inj, ← Int64.toInt_inj, Int32.reduceToInt, Int64.reduceToInt, not_true_eq_false, not_false_eq_true, false_and, and_false, true_and, and_true, false_or, or_false, true_or, or_true] at hc83
  try simp only [Int32.lt_iff_toInt_lt, Int64.lt_iff_toInt_lt, ← Int32.toInt_inj, ← Int64.toInt_inj, Int32.reduceToInt, Int64.reduceToInt, not_true_eq_false, not_false_eq_true, false_and, and_false, true_and, and_true, false_or, or_false, true_or, or_true] at hv113
  try simp only [Int32.lt_iff_toInt_lt, Int64.lt_iff_toInt_lt, ← Int32.toInt_inj, ← Int64.toInt_inj, Int32.reduceToInt, Int64.reduceToInt, not_true_eq_false, not_false_eq_true, false_and, and_false, true_and, and_true, false_or, or_false, true_or, or_true] at hc115
  try simp only [Int32.lt_iff_toInt_lt, Int64.lt_iff_toInt_lt, ← Int32.toInt_inj, ← Int64.toInt_inj, Int32.reduceToInt, Int64.reduceToInt, not_true_eq_false, not_false_eq_true, false_and, and_false, true_and, and_true, false_or, or_false, true_or, or_true] at hv143
  try simp only [Int32.lt_iff_toInt_lt, Int64.lt_iff_toInt_lt, ← Int32.toInt_inj, ← Int64.toInt_inj, Int32.reduceToInt, Int64.reduceToInt, not_true_eq_false, not_false_eq_true, false_and, and_false, true_and, and_true, false_or, or_false, true_or, or_true] at hv147
  try simp only [Int32.lt_iff_toInt_lt, Int64.lt_iff_toInt_lt, ← Int32.toInt_inj, ← Int64.toInt_inj, Int32.reduceToInt, Int64.reduceToInt, not_true_eq_false, not_false_eq_true, false_and, and_false, true_and, and_true, false_or, or_false, true_or, or_true] at hv151
  try simp only [Int32.lt_iff_toInt_lt, Int64.lt_iff_toInt_lt, ← Int32.toInt_inj, ← Int64.toInt_inj, Int32.reduceToInt, Int64.reduceToInt, not_true_eq_false, not_false_eq_true, false_and, and_false, true_and, and_true, false_or, or_false, true_or, or_true] at hc156
  try simp only [Int32.lt_iff_toInt_lt, Int64.lt_iff_toInt_lt, ← Int32.toInt_inj, ← Int64.toInt_inj, Int32.reduceToInt, Int64.reduceToInt, not_true_eq_false, not_false_eq_true, false_and, and_false, true_and, and_true, false_or, or_false, true_or, or_true] at hc165
  try simp only [Int32.lt_iff_toInt_lt, Int64.lt_iff_toInt_lt, ← Int32.toInt_inj, ← Int64.toInt_inj, Int32.reduceToInt, Int64.reduceToInt, not_true_eq_false, not_false_eq_true, false_and, and_false, true_and, and_true, false_or, or_false, true_or, or_true] at hc167
  try simp only [Int32.lt_iff_toInt_lt, Int64.lt_iff_toInt_lt, ← Int32.toInt_inj, ← Int64.toInt_inj, Int32.reduceToInt, Int64.reduceToInt, not_true_eq_false, not_false_eq_true, false_and, and_false, true_and, and_true, false_or, or_false, true_or, or_true] at hc169
  have := Int64.le_toInt q0; have := Int64.toInt_lt q0
  have := Int64.le_toInt q1; have := Int64.toInt_lt q1
  have := Int64.le_toInt q2; have := Int64.toInt_lt q2
  have := Int64.le_toInt q3; have := Int64.toInt_lt q3
  have := Int32.le_toInt p4; have := Int32.toInt_lt p4
  have := Int32.le_toInt v113; have := Int32.toInt_lt v113
  have := Int32.le_toInt v143; have := Int32.toInt_lt v143
  have := Int64.le_toInt v147; have := Int64.toInt_lt v147
  have := Int64.le_toInt v151; have := Int64.toInt_lt v151
  have bl1 := Int32.le_toInt ex1; have bu1 := Int32.toInt_lt ex1
  have fa1 := c_mask p4 (1 : Int32) 1 (by decide) (by decide); rw [hex1] at fa1; try simp only [Int32.reduceToInt, Int64.reduceToInt] at fa1
  clear hex1
  try simp only [Int32.lt_iff_toInt_lt, Int64.lt_iff_toInt_lt, ← Int32.toInt_inj, ← Int64.toInt_inj, Int32.reduceToInt, Int64.reduceToInt, not_true_eq_false, not_false_eq_true, false_and, and_false, true_and, and_true, false_or, or_false, true_or, or_true] at fc2
  have bl3 := Int64.le_toInt ex3; have bu3 := Int64.toInt_lt ex3
  have fa3 := c_lsub q0 (1 : Int64); rw [hex3] at fa3; try simp only [Int32.reduceToInt, Int64.reduceToInt] at fa3
  clear hex3
  try simp only [Int32.lt_iff_toInt_lt, Int64.lt_iff_toInt_lt, ← Int32.toInt_inj, ← Int64.toInt_inj, Int32.reduceToInt, Int64.reduceToInt, not_true_eq_false, not_false_eq_true, false_and, and_false, true_and, and_true, false_or, or_false, true_or, or_true] at fc4
  try simp only [Int32.lt_iff_toInt_lt, Int64.lt_iff_toInt_lt, ← Int32.toInt_inj, ← Int64.toInt_inj, Int32.reduceToInt, Int64.reduceToInt, not_true_eq_false, not_false_eq_true, false_and, and_false, true_and, and_true, false_or, or_false, true_or, or_true] at fc5
  try simp only [Int32.lt_iff_toInt_lt, Int64.lt_iff_toInt_lt, ← Int32.toInt_inj, ← Int64.toInt_inj, Int32.reduceToInt, Int64.reduceToInt, not_true_eq_false, not_false_eq_true, false_and, and_false, true_and, and_true, false_or, or_false, true_or, or_true] at fc6
  try simp only [Int32.lt_iff_toInt_lt, Int64.lt_iff_toInt_lt, ← Int32.toInt_inj, ← Int64.toInt_inj, Int32.reduceToInt, Int64.reduceToInt, not_true_eq_false, not_false_eq_true, false_and, and_false, true_and, and_true, false_or, or_false, true_or, or_true] at fc7
  try simp only [Int32.lt_iff_toInt_lt, Int64.lt_iff_toInt_lt, ← Int32.toInt_inj, ← Int64.toInt_inj, Int32.reduceToInt, Int64.reduceToInt, not_true_eq_false, not_false_eq_true, false_and, and_false, true_and, and_true, false_or, or_false, true_or, or_true] at fc8
  all_goals omega
set_option maxRecDepth 65536 in
set_option maxHeartbeats 40000000 in
theorem own_leaf0_12 (q0 : Int64) (q1 : Int64) (q2 : Int64) (q3 : Int64) (p4 : Int32) (hc83 : (p4 &&& (1 : Int32)) = (0 : Int32)) (v113 : Int32) (hv113 : v113 = (own_f3 q0 q0)) (hc115 : ¬ (q0 = (-9223372036854775808 : Int64))) (v143 : Int32) (hv143 : v143 = (own_f3 q0 (q0 - (1 : Int64)))) (v147 : Int64) (hv147 : v147 = (own_f4 q1 q2)) (v151 : Int64) (hv151 : v151 = (own_f5 q1 q2)) (hc156 : ¬ ((own_f3 q0 v147) = (0 : Int32))) (hc165 : (own_f3 q0 v151) = (0 : Int32)) (hc167 : ¬ (v113 = (0 : Int32))) (hc169 : ¬ (v143 = (0 : Int32))) : False := by
  generalize hex1 : (p4 &&& (1 : Int32)) = ex1 at *
  have fc2 := own_f3_cases q0 q0
  generalize own_f3 q0 q0 = ex2 at *
  generalize hex3 : (q0 - (1 : Int64)) = ex3 at *
  have fc4 := own_f3_cases q0 ex3
  generalize own_f3 q0 ex3 = ex4 at *
  have fc5 := own_f4_cases q1 q2
  generalize own_f4 q1 q2 = ex5 at *
  have fc6 := own_f5_cases q1 q2
  generalize own_f5 q1 q2 = ex6 at *
  have fc7 := own_f3_cases q0 v147
  generalize own_f3 q0 v147 = ex7 at *
  have fc8 := own_f3_cases q0 v151
  generalize own_f3 q0 v151 = ex8 at *
  try simp only [Int32.lt_iff_toInt_lt, Int64.lt_iff_toInt_lt, ← Int32.toInt_inj, ← Int64.toInt_inj, Int32.reduceToInt, Int64.reduceToInt, not_true_eq_false, not_false_eq_true, false_and, and_false, true_and, and_true, false_or, or_false, true_or, or_true] at hc83
  try simp only [Int32.lt_iff_toInt_lt, Int64.lt_iff_toInt_lt, ← Int32.toInt_inj, ← Int64.toInt_inj, Int32.reduceToInt, Int64.reduceToInt, not_true_eq_false, not_false_eq_true, false_and, and_false, true_and, and_true, false_or, or_false, true_or, or_true] at hv113
  try simp only [Int32.lt_iff_toInt_lt, Int64.lt_iff_toInt_lt, ← Int32.toInt_inj, ← Int64.toInt_inj, Int32.reduceToInt, Int64.reduceToInt, not_true_eq_false, not_false_eq_true, false_and, and_false, true_and, and_true, false_or, or_false, true_or, or_true] at hc115
  try simp only [Int32.lt_iff_toInt_lt, Int64.lt_iff_toInt_lt, ← Int32.toInt_inj, ← Int64.toInt_inj, Int32.reduceToInt, Int64.reduceToInt, not_true_eq_false, not_false_eq_true, false_and, and_false, true_and, and_true, false_or, or_false, true_or, or_true] at hv143
  try simp only [Int32.lt_iff_toInt_lt, Int64.lt_iff_toInt_lt, ← Int32.toInt_inj, ← Int64.toInt_inj, Int32.reduceToInt, Int64.reduceToInt, not_true_eq_false, not_false_eq_true, false_and, and_false, true_and, and_true, false_or, or_false, true_or, or_true] at hv147
  try simp only [Int32.lt_iff_toInt_lt, Int64.lt_iff_toInt_lt, ← Int32.toInt_inj, ← Int64.toInt_inj, Int32.reduceToInt, Int64.reduceToInt, not_true_eq_false, not_false_eq_true, false_and, and_false, true_and, and_true, false_or, or_false, true_or, or_true] at hv151
  try simp only [Int32.lt_iff_toInt_lt, Int64.lt_iff_toInt_lt, ← Int32.toInt_inj, ← Int64.toInt_inj, Int32.reduceToInt, Int64.reduceToInt, not_true_eq_false, not_false_eq_true, false_and, and_false, true_and, and_true, false_or, or_false, true_or, or_true] at hc156
  try simp only [Int32.lt_iff_toInt_lt, Int64.lt_iff_toInt_lt, ← Int32.toInt_inj, ← Int64.toInt_inj, Int32.reduceToInt, Int64.reduceToInt, not_true_eq_false, not_false_eq_true, false_and, and_false, true_and, and_true, false_or, or_false, true_or, or_true] at hc165
  try simp only [Int32.lt_iff_toInt_lt, Int64.lt_iff_toInt_lt, ← Int32.toInt_inj, ← Int64.toInt_inj, Int32.reduceToInt, Int64.reduceToInt, not_true_eq_false, not_false_eq_true, false_and, and_false, true_and, and_true, false_or, or_false, true_or, or_true] at hc167
  try simp only [Int32.lt_iff_toInt_lt, Int64.lt_iff_toInt_lt, ← Int32.toInt_inj, ← Int64.toInt_inj, Int32.reduceToInt, Int64.reduceToInt, not_true_eq_false, not_false_eq_true, false_and, and_false, true_and, and_true, false_or, or_false, true_or, or_true] at hc169
  have := Int64.le_toInt q0; have := Int64.toInt_lt q0
  have := Int64.le_toInt q1; have := Int64.toInt_lt q1
  have := Int64.le_toInt q2; have := Int64.toInt_lt q2
  have := Int64.le_toInt q3; have := Int64.toInt_lt q3
  have := Int32.le_toInt p4; have := Int32.toInt_lt p4
  have := Int32.le_toInt v113; have := Int32.toInt_lt v113
  have := Int32.le_toInt v143; have := Int32.toInt_lt v143
  have := Int64.le_toInt v147; have := Int64.toInt_lt v147
  have := Int64.le_toInt v151; have := Int64.toInt_lt v151
  have bl1 := Int32.le_toInt ex1; have bu1 := Int32.toInt_lt ex1
  have fa1 := c_mask p4 (1 : Int32) 1 (by decide) (by decide); rw [hex1] at fa1; try simp only [Int32.reduceToInt, Int64.reduceToInt] at fa1
  clear hex1
  try simp only [Int32.lt_iff_toInt_lt, Int64.lt_iff_toInt_lt, ← Int32.toInt_inj, ← Int64.toInt_inj, Int32.reduceToInt, Int64.reduceToInt, not_true_eq_false, not_false_eq_true, false_and, and_false, true_and, and_true, false_or, or_false, true_or, or_true] at fc2
  have bl3 := Int64.le_toInt ex3; have bu3 := Int64.toInt_lt ex3
  have fa3 := c_lsub q0 (1 : Int64); rw [hex3] at fa3; try simp only [Int32.reduceToInt, Int64.reduceToInt] at fa3
  clear hex3
  try simp only [Int32.lt_iff_toInt_lt, Int64.lt_iff_toInt_lt, ← Int32.toInt_inj, ← Int64.toInt_inj, Int32.reduceToInt, Int64.reduceToInt, not_true_eq_false, not_false_eq_true, false_and, and_false, true_and, and_true, false_or, or_false, true_or, or_true] at fc4
  try simp only [Int32.lt_iff_toInt_lt, Int64.lt_iff_toInt_lt, ← Int32.toInt_inj, ← Int64.toInt_inj, Int32.reduceToInt, Int64.reduceToInt, not_true_eq_false, not_false_eq_true, false_and, and_false, true_and, and_true, false_or, or_false, true_or, or_true] at fc5
  try simp only [Int32.lt_iff_toInt_lt, Int64.lt_iff_toInt_lt, ← Int32.toInt_inj, ← Int64.toInt_inj, Int32.reduceToInt, Int64.reduceToInt, not_true_eq_false, not_false_eq_true, false_and, and_false, true_and, and_true, false_or, or_false, true_or, or_true] at fc6
  try simp only [Int32.lt_iff_toInt_lt, Int64.lt_iff_toInt_lt, ← Int32.toInt_inj, ← Int64.toInt_inj, Int32.reduceToInt, Int64.reduceToInt, not_true_eq_false, not_false_eq_true, false_and, and_false, true_and, and_true, false_or, or_false, true_or, or_true] at fc7
  try simp only [Int32.lt_iff_toInt_lt, Int64.lt_iff_toInt_lt, ← Int32.toInt_inj, ← Int64.toInt_inj, Int32.reduceToInt, Int64.reduceToInt, not_true_eq_false, not_false_eq_true, false_and, and_false, true_and, and_true, false_or, or_false, true_or, or_true] at fc8
  all_goals omega
set_option maxRecDepth 65536 in
set_option maxHeartbeats 40000000 in
theorem own_leaf0_13 (q0 : Int64) (q1 : Int64) (q2 : Int64) (q3 : Int64) (p4 : Int32) (hc83 : (p4 &&& (1 : Int32)) = (0 : Int32)) (v113 : Int32) (hv113 : v113 = (own_f3 q0 q0)) (hc115 : ¬ (q0 = (-9223372036854775808 : Int64))) (v143 : Int32) (hv143 : v143 = (own_f3 q0 (q0 - (1 : Int64)))) (v147 : Int64) (hv147 : v147 = (own_f4 q1 q2)) (v151 : Int64) (hv151 : v151 = (own_f5 q1 q2)) (hc156 : ¬ ((own_f3 q0 v147) = (0 : Int32))) (hc165 : ¬ ((own_f3 q0 v151) = (0 : Int32))) (hc171 : v113 = (0 : Int32)) : False := by
  generalize hex1 : (p4 &&& (1 : Int32)) = ex1 at *
  have fc2 := own_f3_cases q0 q0
  generalize own_f3 q0 q0 = ex2 at *
  generalize hex3 : (q0 - (1 : Int64)) = ex3 at *
  have fc4 := own_f3_cases q0 ex3
  generalize own_f3 q0 ex3 = ex4 at *
  have fc5 := own_f4_cases q1 q2
  generalize own_f4 q1 q2 = ex5 at *
  have fc6 := own_f5_cases q1 q2
  generalize own_f5 q1 q2 = ex6 at *
  have fc7 := own_f3_cases q0 v147
  generalize own_f3 q0 v147 = ex7 at *
  have fc8 := own_f3_cases q0 v151
  generalize own_f3 q0 v151 = ex8 at *
  try simp only [Int32.lt_iff_toInt_lt, Int64.lt_iff_toInt_lt, ← Int32.toInt_inj, ← Int64.toInt_inj, Int32.reduceToInt, Int64.reduceToInt, not_true_eq_false, not_false_eq_true, false_and, and_false, true_and, and_true, false_or, or_false, true_or, or_true] at hc83
  try simp only [Int32.lt_iff_toInt_lt, Int64.lt_iff_toInt_lt, ← Int32.toInt_inj, ← Int64.toInt_inj, Int32.reduceToInt, Int64.reduceToInt, not_true_eq_false, not_false_eq_true, false_and, and_false, true_and, and_true, false_or, or_false, true_or, or_true] at hv113
  try simp only [Int32.lt_iff_toInt_lt, Int64.lt_iff_toInt_lt, ← Int32.toInt_inj, ← Int64.toInt_inj, Int32.reduceToInt, Int64.reduceToInt, not_true_eq_false, not_false_eq_true, false_and, and_false, true_and, and_true, false_or, or_false, true_or, or_true] at hc115
  try simp only [Int32.lt_iff_toInt_lt, Int64.lt_iff_toInt_lt, ← Int32.toInt_inj, ← Int64.toInt_inj, Int32.reduceToInt, Int64.reduceToInt, not_true_eq_false, not_false_eq_true, false_and, and_false, true_and, and_true, false_or, or_false, true_or, or_true] at hv143
  try simp only [Int32.lt_iff_toInt_lt, Int64.lt_iff_toInt_lt, ← Int32.toInt_inj, ← Int64.toInt_inj, Int32.reduceToInt, Int64.reduceToInt, not_true_eq_false, not_false_eq_true, false_and, and_false, true_and, and_true, false_or, or_false, true_or, or_true] at hv147
  try simp only [Int32.lt_iff_toInt_lt, Int64.lt_iff_toInt_lt, ← Int32.toInt_inj, ← Int64.toInt_inj, Int32.reduceToInt, Int64.reduceToInt, not_true_eq_false, not_false_eq_true, false_and, and_false, true_and, and_true, false_or, or_false, true_or, or_true] at hv151
  try simp only [Int32.lt_iff_toInt_lt, Int64.lt_iff_toInt_lt, ← Int32.toInt_inj, ← Int64.toInt_inj, Int32.reduceToInt, Int64.reduceToInt, not_true_eq_false, not_false_eq_true, false_and, and_false, true_and, and_true, false_or, or_false, true_or, or_true] at hc156
  try simp only [Int32.lt_iff_toInt_lt, Int64.lt_iff_toInt_lt, ← Int32.toInt_inj, ← Int64.toInt_inj, Int32.reduceToInt, Int64.reduceToInt, not_true_eq_false, not_false_eq_true, false_and, and_false, true_and, and_true, false_or, or_false, true_or, or_true] at hc165
  try simp only [Int32.lt_iff_toInt_lt, Int64.lt_iff_toInt_lt, ← Int32.toInt_inj, ← Int64.toInt_inj, Int32.reduceToInt, Int64.reduceToInt, not_true_eq_false, not_false_eq_true, false_and, and_false, true_and, and_true, false_or, or_false, true_or, or_true] at hc171
  have := Int64.le_toInt q0; have := Int64.toInt_lt q0
  have := Int64.le_toInt q1; have := Int64.toInt_lt q1
  have := Int64.le_toInt q2; have := Int64.toInt_lt q2
  have := Int64.le_toInt q3; have := Int64.toInt_lt q3
  have := Int32.le_toInt p4; have := Int32.toInt_lt p4
  have := Int32.le_toInt v113; have := Int32.toInt_lt v113
  have := Int32.le_toInt v143; have := Int32.toInt_lt v143
  have := Int64.le_toInt v147; have := Int64.toInt_lt v147
  have := Int64.le_toInt v151; have := Int64.toInt_lt v151
  have bl1 := Int32.le_toInt ex1; have bu1 := Int32.toInt_lt ex1
  have fa1 := c_mask p4 (1 : Int32) 1 (by decide) (by decide); rw [hex1] at fa1; try simp only [Int32.reduceToInt, Int64.reduceToInt] at fa1
  clear hex1
  try simp only [Int32.lt_iff_toInt_lt, Int64.lt_iff_toInt_lt, ← Int32.toInt_inj, ← Int64.toInt_inj, Int32.reduceToInt, Int64.reduceToInt, not_true_eq_false, not_false_eq_true, false_and, and_false, true_and, and_true, false_or, or_false, true_or, or_true] at fc2
  have bl3 := Int64.le_toInt ex3; have bu3 := Int64.toInt_lt ex3
  have fa3 := c_lsub q0 (1 : Int64); rw [hex3] at fa3; try simp only [Int32.reduceToInt, Int64.reduceToInt] at fa3
  clear hex3
  try simp only [Int32.lt_iff_toInt_lt, Int64.lt_iff_toInt_lt, ← Int32.toInt_inj, ← Int64.toInt_inj, Int32.reduceToInt, Int64.reduceToInt, not_true_eq_false, not_false_eq_true, false_and, and_false, true_and, and_true, false_or, or_false, true_or, or_true] at fc4
  try simp only [Int32.lt_iff_toInt_lt, Int64.lt_iff_toInt_lt, ← Int32.toInt_inj, ← Int64.toInt_inj, Int32.reduceToInt, Int64.reduceToInt, not_true_eq_false, not_false_eq_true, false_and, and_false, true_and, and_true, false_or, or_false, true_or, or_true] at fc5
  try simp only [Int32.lt_iff_toInt_lt, Int64.lt_iff_toInt_lt, ← Int32.toInt_inj, ← Int64.toInt_inj, Int32.reduceToInt, Int64.reduceToInt, not_true_eq_false, not_false_eq_true, false_and, and_false, true_and, and_true, false_or, or_false, true_or, or_true] at fc6
  try simp only [Int32.lt_iff_toInt_lt, Int64.lt_iff_toInt_lt, ← Int32.toInt_inj, ← Int64.toInt_inj, Int32.reduceToInt, Int64.reduceToInt, not_true_eq_false, not_false_eq_true, false_and, and_false, true_and, and_true, false_or, or_false, true_or, or_true] at fc7
  try simp only [Int32.lt_iff_toInt_lt, Int64.lt_iff_toInt_lt, ← Int32.toInt_inj, ← Int64.toInt_inj, Int32.reduceToInt, Int64.reduceToInt, not_true_eq_false, not_false_eq_true, false_and, and_false, true_and, and_true, false_or, or_false, true_or, or_true] at fc8
  all_goals omega
set_option maxRecDepth 65536 in
set_option maxHeartbeats 40000000 in
theorem own_leaf0_15 (q0 : Int64) (q1 : Int64) (q2 : Int64) (q3 : Int64) (p4 : Int32) (hc83 : (p4 &&& (1 : Int32)) = (0 : Int32)) (v113 : Int32) (hv113 : v113 = (own_f3 q0 q0)) (hc115 : ¬ (q0 = (-9223372036854775808 : Int64))) (v143 : Int32) (hv143 : v143 = (own_f3 q0 (q0 - (1 : Int64)))) (v147 : Int64) (hv147 : v147 = (own_f4 q1 q2)) (v151 : Int64) (hv151 : v151 = (own_f5 q1 q2)) (hc156 : ¬ ((own_f3 q0 v147) = (0 : Int32))) (hc165 : ¬ ((own_f3 q0 v151) = (0 : Int32))) (hc171 : ¬ (v113 = (0 : Int32))) (hc173 : ¬ (v143 = (0 : Int32))) : False := by
  generalize hex1 : (p4 &&& (1 : Int32)) = ex1 at *
  have fc2 := own_f3_cases q0 q0
  generalize own_f3 q0 q0 = ex2 at *
  generalize hex3 : (q0 - (1 : Int64)) = ex3 at *
  have fc4 := own_f3_cases q0 ex3
  generalize own_f3 q0 ex3 = ex4 at *
  have fc5 := own_f4_cases q1 q2
  generalize own_f4 q1 q2 = ex5 at *
  have fc6 := own_f5_cases q1 q2
  generalize own_f5 q1 q2 = ex6 at *
  have fc7 := own_f3_cases q0 v147
  generalize own_f3 q0 v147 = ex7 at *
  have fc8 := own_f3_cases q0 v151
  generalize own_f3 q0 v151 = ex8 at *
  try simp only [Int32.lt_iff_toInt_lt, Int64.lt_iff_toInt_lt, ← Int32.toInt_inj, ← Int64.toInt_inj, Int32.reduceToInt, Int64.reduceToInt, not_true_eq_false, not_false_eq_true, false_and, and_false, true_and, and_true, false_or, or_false, true_or, or_true] at hc83
  try simp only [Int32.lt_iff_toInt_lt, Int64.lt_iff_toInt_lt, ← Int32.toInt_inj, ← Int64.toInt_inj, Int32.reduceToInt, Int64.reduceToInt, not_true_eq_false, not_false_eq_true, false_and, and_false, true_and, and_true, false_or, or_false, true_or, or_true] at hv113
  try simp only [Int32.lt_iff_toInt_lt, Int64.lt_iff_toInt_lt, ← Int32.toInt_inj, ← Int64.toInt_inj, Int32.reduceToInt, Int64.reduceToInt, not_true_eq_false, not_false_eq_true, false_and, and_false, true_and, and_true, false_or, or_false, true_or, or_true] at hc115
  try simp only [Int32.lt_iff_toInt_lt, Int64.lt_iff_toInt_lt, ← Int32.toInt_inj, ← Int64.toInt_inj, Int32.reduceToInt, Int64.reduceToInt, not_true_eq_false, not_false_eq_true, false_and, and_false, true_and, and_true, false_or, or_false, true_or, or_true] at hv143
  try simp only [Int32.lt_iff_toInt_lt, Int64.lt_iff_toInt_lt, ← Int32.toInt_inj, ← Int64.toInt_inj, Int32.reduceToInt, Int64.reduceToInt, not_true_eq_false, not_false_eq_true, false_and, and_false, true_and, and_true, false_or, or_false, true_or, or_true] at hv147
  try simp only [Int32.lt_iff_toInt_lt, Int64.lt_iff_toInt_lt, ← Int32.toInt_inj, ← Int64.toInt_inj, Int32.reduceToInt, Int64.reduceToInt, not_true_eq_false, not_false_eq_true, false_and, and_false, true_and, and_true, false_or, or_false, true_or, or_true] at hv151
  try simp only [Int32.lt_iff_toInt_lt, Int64.lt_iff_toInt_lt, ← Int32.toInt_inj, ← Int64.toInt_inj, Int32.reduceToInt, Int64.reduceToInt, not_true_eq_false, not_false_eq_true, false_and, and_false, true_and, and_true, false_or, or_false, true_or, or_true] at hc156
  try simp only [Int32.lt_iff_toInt_lt, Int64.lt_iff_toInt_lt, ← Int32.toInt_inj, ← Int64.toInt_inj, Int32.reduceToInt, Int64.reduceToInt, not_true_eq_false, not_false_eq_true, false_and, and_false, true_and, and_true, false_or, or_false, true_or, or_true] at hc165
  try simp only [Int32.lt_iff_toInt_lt, Int64.lt_iff_toInt_lt, ← Int32.toInt_inj, ← Int64.toInt_inj, Int32.reduceToInt, Int64.reduceToInt, not_true_eq_false, not_false_eq_true, false_and, and_false, true_and, and_true, false_or, or_false, true_or, or_true] at hc171
  try simp only [Int32.lt_iff_toInt_lt, Int64.lt_iff_toInt_lt, ← Int32.toInt_inj, ← Int64.toInt_inj, Int32.reduceToInt, Int64.reduceToInt, not_true_eq_false, not_false_eq_true, false_and, and_false, true_and, and_true, false_or, or_false, true_or, or_true] at hc173
  have := Int64.le_toInt q0; have := Int64.toInt_lt q0
  have := Int64.le_toInt q1; have := Int64.toInt_lt q1
  have := Int64.le_toInt q2; have := Int64.toInt_lt q2
  have := Int64.le_toInt q3; have := Int64.toInt_lt q3
  have := Int32.le_toInt p4; have := Int32.toInt_lt p4
  have := Int32.le_toInt v113; have := Int32.toInt_lt v113
  have := Int32.le_toInt v143; have := Int32.toInt_lt v143
  have := Int64.le_toInt v147; have := Int64.toInt_lt v147
  have := Int64.le_toInt v151; have := Int64.toInt_lt v151
  have bl1 := Int32.le_toInt ex1; have bu1 := Int32.toInt_lt ex1
  have fa1 := c_mask p4 (1 : Int32) 1 (by decide) (by decide); rw [hex1] at fa1; try simp only [Int32.reduceToInt, Int64.reduceToInt] at fa1
  clear hex1
  try simp only [Int32.lt_iff_toInt_lt, Int64.lt_iff_toInt_lt, ← Int32.toInt_inj, ← Int64.toInt_inj, Int32.reduceToInt, Int64.reduceToInt, not_true_eq_false, not_false_eq_true, false_and, and_false, true_and, and_true, false_or, or_false, true_or, or_true] at fc2
  have bl3 := Int64.le_toInt ex3; have bu3 := Int64.toInt_lt ex3
  have fa3 := c_lsub q0 (1 : Int64); rw [hex3] at fa3; try simp only [Int32.reduceToInt, Int64.reduceToInt] at fa3
  clear hex3
  try simp only [Int32.lt_iff_toInt_lt, Int64.lt_iff_toInt_lt, ← Int32.toInt_inj, ← Int64.toInt_inj, Int32.reduceToInt, Int64.reduceToInt, not_true_eq_false, not_false_eq_true, false_and, and_false, true_and, and_true, false_or, or_false, true_or, or_true] at fc4
  try simp only [Int32.lt_iff_toInt_lt, Int64.lt_iff_toInt_lt, ← Int32.toInt_inj, ← Int64.toInt_inj, Int32.reduceToInt, Int64.reduceToInt, not_true_eq_false, not_false_eq_true, false_and, and_false, true_and, and_true, false_or, or_false, true_or, or_true] at fc5
  try simp only [Int32.lt_iff_toInt_lt, Int64.lt_iff_toInt_lt, ← Int32.toInt_inj, ← Int64.toInt_inj, Int32.reduceToInt, Int64.reduceToInt, not_true_eq_false, not_false_eq_true, false_and, and_false, true_and, and_true, false_or, or_false, true_or, or_true] at fc6
  try simp only [Int32.lt_iff_toInt_lt, Int64.lt_iff_toInt_lt, ← Int32.toInt_inj, ← Int64.toInt_inj, Int32.reduceToInt, Int64.reduceToInt, not_true_eq_false, not_false_eq_true, false_and, and_false, true_and, and_true, false_or, or_false, true_or, or_true] at fc7
  try simp only [Int32.lt_iff_toInt_lt, Int64.lt_iff_toInt_lt, ← Int32.toInt_inj, ← Int64.toInt_inj, Int32.reduceToInt, Int64.reduceToInt, not_true_eq_false, not_false_eq_true, false_and, and_false, true_and, and_true, false_or, or_false, true_or, or_true] at fc8
  all_goals omega
set_option maxRecDepth 65536 in
set_option maxHeartbeats 40000000 in
theorem own_leaf0_16 (q0 : Int64) (q1 : Int64) (q2 : Int64) (q3 : Int64) (p4 : Int32) (hc83 : ¬ ((p4 &&& (1 : Int32)) = (0 : Int32))) (v200 : Int32) (hv200 : v200 = (own_f3 q0 q0)) (hc202 : q0 = (-9223372036854775808 : Int64)) (v206 : Int64) (hv206 : v206 = (own_f4 q1 q2)) (v210 : Int64) (hv210 : v210 = (own_f5 q1 q2)) (hc215 : (own_f3 q0 v206) = (0 : Int32)) (hc217 : v200 = (0 : Int32)) : False := by
  generalize hex1 : (p4 &&& (1 : Int32)) = ex1 at *
  have fc2 := own_f3_cases q0 q0
  generalize own_f3 q0 q0 = ex2 at *
  have fc3 := own_f4_cases q1 q2
  generalize own_f4 q1 q2 = ex3 at *
  have fc4 := own_f5_cases q1 q2
  generalize own_f5 q1 q2 = ex4 at *
  have fc5 := own_f3_cases q0 v206
  generalize own_f3 q0 v206 = ex5 at *
  try simp only [Int32.lt_iff_toInt_lt, Int64.lt_iff_toInt_lt, ← Int32.toInt_inj, ← Int64.toInt_inj, Int32.reduceToInt, Int64.reduceToInt, not_true_eq_false, not_false_eq_true, false_and, and_false, true_and, and_true, false_or, or_false, true_or, or_true] at hc83
  try simp only [Int32.lt_iff_toInt_lt, Int64.lt_iff_toInt_lt, ← Int32.toInt_inj, ← Int64.toInt_inj, Int32.reduceToInt, Int64.reduceToInt, not_true_eq_false, not_false_eq_true, false_and, and_false, true_and, and_true, false_or, or_false, true_or, or_true] at hv200
  try simp only [Int32.lt_iff_toInt_lt, Int64.lt_iff_toInt_lt, ← Int32.toInt_inj, ← Int64.toInt_inj, Int32.reduceToInt, Int64.reduceToInt, not_true_eq_false, not_false_eq_true, false_and, and_false, true_and, and_true, false_or, or_false, true_or, or_true] at hc202
  try simp only [Int32.lt_iff_toInt_lt, Int64.lt_iff_toInt_lt, ← Int32.toInt_inj, ← Int64.toInt_inj, Int32.reduceToInt, Int64.reduceToInt, not_true_eq_false, not_false_eq_true, false_and, and_false, true_and, and_true, false_or, or_false, true_or, or_true] at hv206
  try simp only [Int32.lt_iff_toInt_lt, Int64.lt_iff_toInt_lt, ← Int32.toInt_inj, ← Int64.toInt_inj, Int32.reduceToInt, Int64.reduceToInt, not_true_eq_false, not_false_eq_true, false_and, and_false, true_and, and_true, false_or, or_false, true_or, or_true] at hv210
  try simp only [Int32.lt_iff_toInt_lt, Int64.lt_iff_toInt_lt, ← Int32.toInt_inj, ← Int64.toInt_inj, Int32.reduceToInt, Int64.reduceToInt, not_true_eq_false, not_false_eq_true, false_and, and_false, true_and, and_true, false_or, or_false, true_or, or_true] at hc215
  try simp only [Int32.lt_iff_toInt_lt, Int64.lt_iff_toInt_lt, ← Int32.toInt_inj, ← Int64.toInt_inj, Int32.reduceToInt, Int64.reduceToInt, not_true_eq_false, not_false_eq_true, false_and, and_false, true_and, and_true, false_or, or_false, true_or, or_true] at hc217
  have := Int64.le_toInt q0; have := Int64.toInt_lt q0
  have := Int64.le_toInt q1; have := Int64.toInt_lt q1
  have := Int64.le_toInt q2; have := Int64.toInt_lt q2
  have := Int64.le_toInt q3; have := Int64.toInt_lt q3
  have := Int32.le_toInt p4; have := Int32.toInt_lt p4
  have := Int32.le_toInt v200; have := Int32.toInt_lt v200
  have := Int64.le_toInt v206; have := Int64.toInt_lt v206
  have := Int64.le_toInt v210; have := Int64.toInt_lt v210
  have bl1 := Int32.le_toInt ex1; have bu1 := Int32.toInt_lt ex1
  have fa1 := c_mask p4 (1 : Int32) 1 (by decide) (by decide); rw [hex1] at fa1; try simp only [Int32.reduceToInt, Int64.reduceToInt] at fa1
  clear hex1
  try simp only [Int32.lt_iff_toInt_lt, Int64.lt_iff_toInt_lt, ← Int32.toInt_inj, ← Int64.toInt_inj, Int32.reduceToInt, Int64.reduceToInt, not_true_eq_false, not_false_eq_true, false_and, and_false, true_and, and_true, false_or, or_false, true_or, or_true] at fc2
  try simp only [Int32.lt_iff_toInt_lt, Int64.lt_iff_toInt_lt, ← Int32.toInt_inj, ← Int64.toInt_inj, Int32.reduceToInt, Int64.reduceToInt, not_true_eq_false, not_false_eq_true, false_and, and_false, true_and, and_true, false_or, or_false, true_or, or_true] at fc3
  try simp only [Int32.lt_iff_toInt_lt, Int64.lt_iff_toInt_lt, ← Int32.toInt_inj, ← Int64.toInt_inj, Int32.reduceToInt, Int64.reduceToInt, not_true_eq_false, not_false_eq_true, false_and, and_false, true_and, and_true, false_or, or_false, true_or, or_true] at fc4
  try simp only [Int32.lt_iff_toInt_lt, Int64.lt_iff_toInt_lt, ← Int32.toInt_inj, ← Int64.toInt_inj, Int32.reduceToInt, Int64.reduceToInt, not_true_eq_false, not_false_eq_true, false_and, and_false, true_and, and_true, false_or, or_false, true_or, or_true] at fc5
  all_goals omega
set_option maxRecDepth 65536 in
set_option maxHeartbeats 40000000 in
theorem own_leaf0_18 (q0 : Int64) (q1 : Int64) (q2 : Int64) (q3 : Int64) (p4 : Int32) (hc83 : ¬ ((p4 &&& (1 : Int32)) = (0 : Int32))) (v200 : Int32) (hv200 : v200 = (own_f3 q0 q0)) (hc202 : q0 = (-9223372036854775808 : Int64)) (v206 : Int64) (hv206 : v206 = (own_f4 q1 q2)) (v210 : Int64) (hv210 : v210 = (own_f5 q1 q2)) (hc215 : ¬ ((own_f3 q0 v206) = (0 : Int32))) (hc222 : (own_f3 q0 v210) = (0 : Int32)) (hc224 : v200 = (0 : Int32)) : False := by
  generalize hex1 : (p4 &&& (1 : Int32)) = ex1 at *
  have fc2 := own_f3_cases q0 q0
  generalize own_f3 q0 q0 = ex2 at *
  have fc3 := own_f4_cases q1 q2
  generalize own_f4 q1 q2 = ex3 at *
  have fc4 := own_f5_cases q1 q2
  generalize own_f5 q1 q2 = ex4 at *
  have fc5 := own_f3_cases q0 v206
  generalize own_f3 q0 v206 = ex5 at *
  have fc6 := own_f3_cases q0 v210
  generalize own_f3 q0 v210 = ex6 at *
  try simp only [Int32.lt_iff_toInt_lt, Int64.lt_iff_toInt_lt, ← Int32.toInt_inj, ← Int64.toInt_inj, Int32.reduceToInt, Int64.reduceToInt, not_true_eq_false, not_false_eq_true, false_and, and_false, true_and, and_true, false_or, or_false, true_or, or_true] at hc83
  try simp only [Int32.lt_iff_toInt_lt, Int64.lt_iff_toInt_lt, ← Int32.toInt_inj, ← Int64.toInt_inj, Int32.reduceToInt, Int64.reduceToInt, not_true_eq_false, not_false_eq_true, false_and, and_false, true_and, and_true, false_or, or_false, true_or, or_true] at hv200
  try simp only [Int32.lt_iff_toInt_lt, Int64.lt_iff_toInt_lt, ← Int32.toInt_inj, ← Int64.toInt_inj, Int32.reduceToInt, Int64.reduceToInt, not_true_eq_false, not_false_eq_true, false_and, and_false, true_and, and_true, false_or, or_false, true_or, or_true] at hc202
  try simp only [Int32.lt_iff_toInt_lt, Int64.lt_iff_toInt_lt, ← Int32.toInt_inj, ← Int64.toInt_inj, Int32.reduceToInt, Int64.reduceToInt, not_true_eq_false, not_false_eq_true, false_and, and_false, true_and, and_true, false_or, or_false, true_or, or_true] at hv206
  try simp only [Int32.lt_iff_toInt_lt, Int64.lt_iff_toInt_lt, ← Int32.toInt_inj, ← Int64.toInt_inj, Int32.reduceToInt, Int64.reduceToInt, not_true_eq_false, not_false_eq_true, false_and, and_false, true_and, and_true, false_or, or_false, true_or, or_true] at hv210
  try simp only [Int32.lt_iff_toInt_lt, Int64.lt_iff_toInt_lt, ← Int32.toInt_inj, ← Int64.toInt_inj, Int32.reduceToInt, Int64.reduceToInt, not_true_eq_false, not_false_eq_true, false_and, and_false, true_and, and_true, false_or, or_false, true_or, or_true] at hc215
  try simp only [Int32.lt_iff_toInt_lt, Int64.lt_iff_toInt_lt, ← Int32.toInt_inj, ← Int64.toInt_inj, Int32.reduceToInt, Int64.reduceToInt, not_true_eq_false, not_false_eq_true, false_and, and_false, true_and, and_true, false_or, or_false, true_or, or_true] at hc222
  try simp only [Int32.lt_iff_toInt_lt, Int64.lt_iff_toInt_lt, ← Int32.toInt_inj, ← Int64.toInt_inj, Int32.reduceToInt, Int64.reduceToInt, not_true_eq_false, not_false_eq_true, false_and, and_false, true_and, and_true, false_or, or_false, true_or, or_true] at hc224
  have := Int64.le_toInt q0; have := Int64.toInt_lt q0
  have := Int64.le_toInt q1; have := Int64.toInt_lt q1
  have := Int64.le_toInt q2; have := Int64.toInt_lt q2
  have := Int64.le_toInt q3; have := Int64.toInt_lt q3
  have := Int32.le_toInt p4; have := Int32.toInt_lt p4
  have := Int32.le_toInt v200; have := Int32.toInt_lt v200
  have := Int64.le_toInt v206; have := Int64.toInt_lt v206
  have := Int64.le_toInt v210; have := Int64.toInt_lt v210
  have bl1 := Int32.le_toInt ex1; have bu1 := Int32.toInt_lt ex1
  have fa1 := c_mask p4 (1 : Int32) 1 (by decide) (by decide); rw [hex1] at fa1; try simp only [Int32.reduceToInt, Int64.reduceToInt] at fa1
  clear hex1
  try simp only [Int32.lt_iff_toInt_lt, Int64.lt_iff_toInt_lt, ← Int32.toInt_inj, ← Int64.toInt_inj, Int32.reduceToInt, Int64.reduceToInt, not_true_eq_false, not_false_eq_true, false_and, and_false, true_and, and_true, false_or, or_false, true_or, or_true] at fc2
  try simp only [Int32.lt_iff_toInt_lt, Int64.lt_iff_toInt_lt, ← Int32.toInt_inj, ← Int64.toInt_inj, Int32.reduceToInt, Int64.reduceToInt, not_true_eq_false, not_false_eq_true, false_and, and_false, true_and, and_true, false_or, or_false, true_or, or_true] at fc3
  try simp only [Int32.lt_iff_toInt_lt, Int64.lt_iff_toInt_lt, ← Int32.toInt_inj, ← Int64.toInt_inj, Int32.reduceToInt, Int64.reduceToInt, not_true_eq_false, not_false_eq_true, false_and, and_false, true_and, and_true, false_or, or_false, true_or, or_true] at fc4
  try simp only [Int32.lt_iff_toInt_lt, Int64.lt_iff_toInt_lt, ← Int32.toInt_inj, ← Int64.toInt_inj, Int32.reduceToInt, Int64.reduceToInt, not_true_eq_false, not_false_eq_true, false_and, and_false, true_and, and_true, false_or, or_false, true_or, or_true] at fc5
  try simp only [Int32.lt_iff_toInt_lt, Int64.lt_iff_toInt_lt, ← Int32.toInt_inj, ← Int64.toInt_inj, Int32.reduceToInt, Int64.reduceToInt, not_true_eq_false, not_false_eq_true, false_and, and_false, true_and, and_true, false_or, or_false, true_or, or_true] at fc6
  all_goals omega
set_option maxRecDepth 65536 in
set_option maxHeartbeats 40000000 in
theorem own_leaf0_19 (q0 : Int64) (q1 : Int64) (q2 : Int64) (q3 : Int64) (p4 : Int32) (hc83 : ¬ ((p4 &&& (1 : Int32)) = (0 : Int32))) (v200 : Int32) (hv200 : v200 = (own_f3 q0 q0)) (hc202 : q0 = (-9223372036854775808 : Int64)) (v206 : Int64) (hv206 : v206 = (own_f4 q1 q2)) (v210 : Int64) (hv210 : v210 = (own_f5 q1 q2)) (hc215 : ¬ ((own_f3 q0 v206) = (0 : Int32))) (hc222 : (own_f3 q0 v210) = (0 : Int32)) (hc224 : ¬ (v200 = (0 : Int32))) : False := by
  generalize hex1 : (p4 &&& (1 : Int32)) = ex1 at *
  have fc2 := own_f3_cases q0 q0
  generalize own_f3 q0 q0 = ex2 at *
  have fc3 := own_f4_cases q1 q2
  generalize own_f4 q1 q2 = ex3 at *
  have fc4 := own_f5_cases q1 q2
  generalize own_f5 q1 q2 = ex4 at *
  have fc5 := own_f3_cases q0 v206
  generalize own_f3 q0 v206 = ex5 at *
  have fc6 := own_f3_cases q0 v210
  generalize own_f3 q0 v210 = ex6 at *
  try simp only [Int32.lt_iff_toInt_lt, Int64.lt_iff_toInt_lt, ← Int32.toInt_inj, ← Int64.toInt_inj, Int32.reduceToInt, Int64.reduceToInt, not_true_eq_false, not_false_eq_true, false_and, and_false, true_and, and_true, false_or, or_false, true_or, or_true] at hc83
  try simp only [Int32.lt_iff_toInt_lt, Int64.lt_iff_toInt_lt, ← Int32.toInt_inj, ← Int64.toInt_inj, Int32.reduceToInt, Int64.reduceToInt, not_true_eq_false, not_false_eq_true, false_and, and_false, true_and, and_true, false_or, or_false, true_or, or_true] at hv200
  try simp only [Int32.lt_iff_toInt_lt, Int64.lt_iff_toInt_lt, ← Int32.toInt_inj, ← Int64.toInt_inj, Int32.reduceToInt, Int64.reduceToInt, not_true_eq_false, not_false_eq_true, false_and, and_false, true_and, and_true, false_or, or_false, true_or, or_true] at hc202
  try simp only [Int32.lt_iff_toInt_lt, Int64.lt_iff_toInt_lt, ← Int32.toInt_inj, ← Int64.toInt_inj, Int32.reduceToInt, Int64.reduceToInt, not_true_eq_false, not_false_eq_true, false_and, and_false, true_and, and_true, false_or, or_false, true_or, or_true] at hv206
  try simp only [Int32.lt_iff_toInt_lt, Int64.lt_iff_toInt_lt, ← Int32.toInt_inj, ← Int64.toInt_inj, Int32.reduceToInt, Int64.reduceToInt, not_true_eq_false, not_false_eq_true, false_and, and_false, true_and, and_true, false_or, or_false, true_or, or_true] at hv210
  try simp only [Int32.lt_iff_toInt_lt, Int64.lt_iff_toInt_lt, ← Int32.toInt_inj, ← Int64.toInt_inj, Int32.reduceToInt, Int64.reduceToInt, not_true_eq_false, not_false_eq_true, false_and, and_false, true_and, and_true, false_or, or_false, true_or, or_true] at hc215
  try simp only [Int32.lt_iff_toInt_lt, Int64.lt_iff_toInt_lt, ← Int32.toInt_inj, ← Int64.toInt_inj, Int32.reduceToInt, Int64.reduceToInt, not_true_eq_false, not_false_eq_true, false_and, and_false, true_and, and_true, false_or, or_false, true_or, or_true] at hc222
  try simp only [Int32.lt_iff_toInt_lt, Int64.lt_iff_toInt_lt, ← Int32.toInt_inj, ← Int64.toInt_inj, Int32.reduceToInt, Int64.reduceToInt, not_true_eq_false, not_false_eq_true, false_and, and_false, true_and, and_true, false_or, or_false, true_or, or_true] at hc224
  have := Int64.le_toInt q0; have := Int64.toInt_lt q0
  have := Int64.le_toInt q1; have := Int64.toInt_lt q1
  have := Int64.le_toInt q2; have := Int64.toInt_lt q2
  have := Int64.le_toInt q3; have := Int64.toInt_lt q3
  have := Int32.le_toInt p4; have := Int32.toInt_lt p4
  have := Int32.le_toInt v200; have := Int32.toInt_lt v200
  have := Int64.le_toInt v206; have := Int64.toInt_lt v206
  have := Int64.le_toInt v210; have := Int64.toInt_lt v210
  have bl1 := Int32.le_toInt ex1; have bu1 := Int32.toInt_lt ex1
  have fa1 := c_mask p4 (1 : Int32) 1 (by decide) (by decide); rw [hex1] at fa1; try simp only [Int32.reduceToInt, Int64.reduceToInt] at fa1
  clear hex1
  try simp only [Int32.lt_iff_toInt_lt, Int64.lt_iff_toInt_lt, ← Int32.toInt_inj, ← Int64.toInt_inj, Int32.reduceToInt, Int64.reduceToInt, not_true_eq_false, not_false_eq_true, false_and, and_false, true_and, and_true, false_or, or_false, true_or, or_true] at fc2
  try simp only [Int32.lt_iff_toInt_lt, Int64.lt_iff_toInt_lt, ← Int32.toInt_inj, ← Int64.toInt_inj, Int32.reduceToInt, Int64.reduceToInt, not_true_eq_false, not_false_eq_true, false_and, and_false, true_and, and_true, false_or, or_false, true_or, or_true] at fc3
  try simp only [Int32.lt_iff_toInt_lt, Int64.lt_iff_toInt_lt, ← Int32.toInt_inj, ← Int64.toInt_inj, Int32.reduceToInt, Int64.reduceToInt, not_true_eq_false, not_false_eq_true, false_and, and_false, true_and, and_true, false_or, or_false, true_or, or_true] at fc4
  try simp only [Int32.lt_iff_toInt_lt, Int64.lt_iff_toInt_lt, ← Int32.toInt_inj, ← Int64.toInt_inj, Int32.reduceToInt, Int64.reduceToInt, not_true_eq_false, not_false_eq_true, false_and, and_false, true_and, and_true, false_or, or_false, true_or, or_true] at fc5
  try simp only [Int32.lt_iff_toInt_lt, Int64.lt_iff_toInt_lt, ← Int32.toInt_inj, ← Int64.toInt_inj, Int32.reduceToInt, Int64.reduceToInt, not_true_eq_false, not_false_eq_true, false_and, and_false, true_and, and_true, false_or, or_false, true_or, or_true] at fc6
  all_goals omega
set_option maxRecDepth 65536 in
set_option maxHeartbeats 40000000 in
theorem own_leaf0_20 (q0 : Int64) (q1 : Int64) (q2 : Int64) (q3 : Int64) (p4 : Int32) (hc83 : ¬ ((p4 &&& (1 : Int32)) = (0 : Int32))) (v200 : Int32) (hv200 : v200 = (own_f3 q0 q0)) (hc202 : q0 = (-9223372036854775808 : Int64)) (v206 : Int64) (hv206 : v206 = (own_f4 q1 q2)) (v210 : Int64) (hv210 : v210 = (own_f5 q1 q2)) (hc215 : ¬ ((own_f3 q0 v206) = (0 : Int32))) (hc222 : ¬ ((own_f3 q0 v210) = (0 : Int32))) (hc226 : v200 = (0 : Int32)) : False := by
  generalize hex1 : (p4 &&& (1 : Int32)) = ex1 at *
  have fc2 := own_f3_cases q0 q0
  generalize own_f3 q0 q0 = ex2 at *
  have fc3 := own_f4_cases q1 q2
  generalize own_f4 q1 q2 = ex3 at *
  have fc4 := own_f5_cases q1 q2
  generalize own_f5 q1 q2 = ex4 at *
  have fc5 := own_f3_cases q0 v206
  generalize own_f3 q0 v206 = ex5 at *
  have fc6 := own_f3_cases q0 v210
  generalize own_f3 q0 v210 = ex6 at *
  try simp only [Int32.lt_iff_toInt_lt, Int64.lt_iff_toInt_lt, ← Int32.toInt_inj, ← Int64.toInt_inj, Int32.reduceToInt, Int64.reduceToInt, not_true_eq_false, not_false_eq_true, false_and, and_false, true_and, and_true, false_or, or_false, true_or, or_true] at hc83
  try simp only [Int32.lt_iff_toInt_lt, Int64.lt_iff_toInt_lt, ← Int32.toInt_inj, ← Int64.toInt_inj, Int32.reduceToInt, Int64.reduceToInt, not_true_eq_false, not_false_eq_true, false_and, and_false, true_and, and_true, false_or, or_false, true_or, or_true] at hv200
  try simp only [Int32.lt_iff_toInt_lt, Int64.lt_iff_toInt_lt, ← Int32.toInt_inj, ← Int64.toInt_inj, Int32.reduceToInt, Int64.reduceToInt, not_true_eq_false, not_false_eq_true, false_and, and_false, true_and, and_true, false_or, or_false, true_or, or_true] at hc202
  try simp only [Int32.lt_iff_toInt_lt, Int64.lt_iff_toInt_lt, ← Int32.toInt_inj, ← Int64.toInt_inj, Int32.reduceToInt, Int64.reduceToInt, not_true_eq_false, not_false_eq_true, false_and, and_false, true_and, and_true, false_or, or_false, true_or, or_true] at hv206
  try simp only [Int32.lt_iff_toInt_lt, Int64.lt_iff_toInt_lt, ← Int32.toInt_inj, ← Int64.toInt_inj, Int32.reduceToInt, Int64.reduceToInt, not_true_eq_false, not_false_eq_true, false_and, and_false, true_and, and_true, false_or, or_false, true_or, or_true] at hv210
  try simp only [Int32.lt_iff_toInt_lt, Int64.lt_iff_toInt_lt, ← Int32.toInt_inj, ← Int64.toInt_inj, Int32.reduceToInt, Int64.reduceToInt, not_true_eq_false, not_false_eq_true, false_and, and_false, true_and, and_true, false_or, or_false, true_or, or_true] at hc215
  try simp only [Int32.lt_iff_toInt_lt, Int64.lt_iff_toInt_lt, ← Int32.toInt_inj, ← Int64.toInt_inj, Int32.reduceToInt, Int64.reduceToInt, not_true_eq_false, not_false_eq_true, false_and, and_false, true_and, and_true, false_or, or_false, true_or, or_true] at hc222
  try simp only [Int32.lt_iff_toInt_lt, Int64.lt_iff_toInt_lt, ← Int32.toInt_inj, ← Int64.toInt_inj, Int32.reduceToInt, Int64.reduceToInt, not_true_eq_false, not_false_eq_true, false_and, and_false, true_and, and_true, false_or, or_false, true_or, or_true] at hc226
  have := Int64.le_toInt q0; have := Int64.toInt_lt q0
  have := Int64.le_toInt q1; have := Int64.toInt_lt q1
  have := Int64.le_toInt q2; have := Int64.toInt_lt q2
  have := Int64.le_toInt q3; have := Int64.toInt_lt q3
  have := Int32.le_toInt p4; have := Int32.toInt_lt p4
  have := Int32.le_toInt v200; have := Int32.toInt_lt v200
  have := Int64.le_toInt v206; have := Int64.toInt_lt v206
  have := Int64.le_toInt v210; have := Int64.toInt_lt v210
  have bl1 := Int32.le_toInt ex1; have bu1 := Int32.toInt_lt ex1
  have fa1 := c_mask p4 (1 : Int32) 1 (by decide) (by decide); rw [hex1] at fa1; try simp only [Int32.reduceToInt, Int64.reduceToInt] at fa1
  clear hex1
  try simp only [Int32.lt_iff_toInt_lt, Int64.lt_iff_toInt_lt, ← Int32.toInt_inj, ← Int64.toInt_inj, Int32.reduceToInt, Int64.reduceToInt, not_true_eq_false, not_false_eq_true, false_and, and_false, true_and, and_true, false_or, or_false, true_or, or_true] at fc2
  try simp only [Int32.lt_iff_toInt_lt, Int64.lt_iff_toInt_lt, ← Int32.toInt_inj, ← Int64.toInt_inj, Int32.reduceToInt, Int64.reduceToInt, not_true_eq_false, not_false_eq_true, false_and, and_false, true_and, and_true, false_or, or_false, true_or, or_true] at fc3
  try simp only [Int32.lt_iff_toInt_lt, Int64.lt_iff_toInt_lt, ← Int32.toInt_inj, ← Int64.toInt_inj, Int32.reduceToInt, Int64.reduceToInt, not_true_eq_false, not_false_eq_true, false_and, and_false, true_and, and_true, false_or, or_false, true_or, or_true] at fc4
  try simp only [Int32.lt_iff_toInt_lt, Int64.lt_iff_toInt_lt, ← Int32.toInt_inj, ← Int64.toInt_inj, Int32.reduceToInt, Int64.reduceToInt, not_true_eq_false, not_false_eq_true, false_and, and_false, true_and, and_true, false_or, or_false, true_or, or_true] at fc5
  try simp only [Int32.lt_iff_toInt_lt, Int64.lt_iff_toInt_lt, ← Int32.toInt_inj, ← Int64.toInt_inj, Int32.reduceToInt, Int64.reduceToInt, not_true_eq_false, not_false_eq_true, false_and, and_false, true_and, and_true, false_or, or_false, true_or, or_true] at fc6
  all_goals omega
set_option maxRecDepth 65536 in
set_option maxHeartbeats 40000000 in
theorem own_leaf0_22 (q0 : Int64) (q1 : Int64) (q2 : Int64) (q3 : Int64) (p4 : Int32) (hc83 : ¬ ((p4 &&& (1 : Int32)) = (0 : Int32))) (v200 : Int32) (hv200 : v200 = (own_f3 q0 q0)) (hc202 : ¬ (q0 = (-9223372036854775808 : Int64))) (v230 : Int32) (hv230 : v230 = (own_f3 q0 (q0 - (1 : Int64)))) (v234 : Int64) (hv234 : v234 = (own_f4 q1 q2)) (v238 : Int64) (hv238 : v238 = (own_f5 q1 q2)) (hc243 : (own_f3 q0 v234) = (0 : Int32)) (hc245 : v200 = (0 : Int32)) : False := by
  generalize hex1 : (p4 &&& (1 : Int32)) = ex1 at *
  have fc2 := own_f3_cases q0 q0
  generalize own_f3 q0 q0 = ex2 at *
  generalize hex3 : (q0 - (1 : Int64)) = ex3 at *
  have fc4 := own_f3_cases q0 ex3
  generalize own_f3 q0 ex3 = ex4 at *
  have fc5 := own_f4_cases q1 q2
  generalize own_f4 q1 q2 = ex5 at *
  have fc6 := own_f5_cases q1 q2
  generalize own_f5 q1 q2 = ex6 at *
  have fc7 := own_f3_cases q0 v234
  generalize own_f3 q0 v234 = ex7 at *
  try simp only [Int32.lt_iff_toInt_lt, Int64.lt_iff_toInt_lt, ← Int32.toInt_inj, ← Int64.toInt_inj, Int32.reduceToInt, Int64.reduceToInt, not_true_eq_false, not_false_eq_true, false_and, and_false, true_and, and_true, false_or, or_false, true_or, or_true] at hc83
  try simp only [Int32.lt_iff_toInt_lt, Int64.lt_iff_toInt_lt, ← Int32.toInt_inj, ← Int64.toInt_inj, Int32.reduceToInt, Int64.reduceToInt, not_true_eq_false, not_false_eq_true, false_and, and_false, true_and, and_true, false_or, or_false, true_or, or_true] at hv200
  try simp only [Int32.lt_iff_toInt_lt, Int64.lt_iff_toInt_lt, ← Int32.toInt_inj, ← Int64.toInt_inj, Int32.reduceToInt, Int64.reduceToInt, not_true_eq_false, not_false_eq_true, false_and, and_false, true_and, and_true, false_or, or_false, true_or, or_true] at hc202
  try simp only [Int32.lt_iff_toInt_lt, Int64.lt_iff_toInt_lt, ← Int32.toInt_inj, ← Int64.toInt_inj, Int32.reduceToInt, Int64.reduceToInt, not_true_eq_false, not_false_eq_true, false_and, and_false, true_and, and_true, false_or, or_false, true_or, or_true] at hv230
  try simp only [Int32.lt_iff_toInt_lt, Int64.lt_iff_toInt_lt, ← Int32.toInt_inj, ← Int64.toInt_inj, Int32.reduceToInt, Int64.reduceToInt, not_true_eq_false, not_false_eq_true, false_and, and_false, true_and, and_true, false_or, or_false, true_or, or_true] at hv234
  try simp only [Int32.lt_iff_toInt_lt, Int64.lt_iff_toInt_lt, ← Int32.toInt_inj, ← Int64.toInt_inj, Int32.reduceToInt, Int64.reduceToInt, not_true_eq_false, not_false_eq_true, false_and, and_false, true_and, and_true, false_or, or_false, true_or, or_true] at hv238
  try simp only [Int32.lt_iff_toInt_lt, Int64.lt_iff_toInt_lt, ← Int32.toInt_inj, ← Int64.toInt_inj, Int32.reduceToInt, Int64.reduceToInt, not_true_eq_false, not_false_eq_true, false_and, and_false, true_and, and_true, false_or, or_false, true_or, or_true] at hc243
  try simp only [Int32.lt_iff_toInt_lt, Int64.lt_iff_toInt_lt, ← Int32.toInt_inj, ← Int64.toInt_inj, Int32.reduceToInt, Int64.reduceToInt, not_true_eq_false, not_false_eq_true, false_and, and_false, true_and, and_true, false_or, or_false, true_or, or_true] at hc245
  have := Int64.le_toInt q0; have := Int64.toInt_lt q0
  have := Int64.le_toInt q1; have := Int64.toInt_lt q1
  have := Int64.le_toInt q2; have := Int64.toInt_lt q2
  have := Int64.le_toInt q3; have := Int64.toInt_lt q3
  have := Int32.le_toInt p4; have := Int32.toInt_lt p4
  have := Int32.le_toInt v200; have := Int32.toInt_lt v200
  have := Int32.le_toInt v230; have := Int32.toInt_lt v230
  have := Int64.le_toInt v234; have := Int64.toInt_lt v234
  have := Int64.le_toInt v238; have := Int64.toInt_lt v238
  have bl1 := Int32.le_toInt ex1; have bu1 := Int32.toInt_lt ex1
  have fa1 := c_mask p4 (1 : Int32) 1 (by decide) (by decide); rw [hex1] at fa1; try simp only [Int32.reduceToInt, Int64.reduceToInt] at fa1
  clear hex1
  try simp only [Int32.lt_iff_toInt_lt, Int64.lt_iff_toInt_lt, ← Int32.toInt_inj, ← Int64.toInt_inj, Int32.reduceToInt, Int64.reduceToInt, not_true_eq_false, not_false_eq_true, false_and, and_false, true_and, and_true, false_or, or_false, true_or, or_true] at fc2
  have bl3 := Int64.le_toInt ex3; have bu3 := Int64.toInt_lt ex3
  have fa3 := c_lsub q0 (1 : Int64); rw [hex3] at fa3; try simp only [Int32.reduceToInt, Int64.reduceToInt] at fa3
  clear hex3
  try simp only [Int32.lt_iff_toInt_lt, Int64.lt_iff_toInt_lt, ← Int32.toInt_inj, ← Int64.toInt_inj, Int32.reduceToInt, Int64.reduceToInt, not_true_eq_false, not_false_eq_true, false_and, and_false, true_and, and_true, false_or, or_false, true_or, or_true] at fc4
  try simp only [Int32.lt_iff_toInt_lt, Int64.lt_iff_toInt_lt, ← Int32.toInt_inj, ← Int64.toInt_inj, Int32.reduceToInt, Int64.reduceToInt, not_true_eq_false, not_false_eq_true, false_and, and_false, true_and, and_true, false_or, or_false, true_or, or_true] at fc5
  try simp only [Int32.lt_iff_toInt_lt, Int64.lt_iff_toInt_lt, ← Int32.toInt_inj, ← Int64.toInt_inj, Int32.reduceToInt, Int64.reduceToInt, not_true_eq_false, not_false_eq_true, false_and, and_false, true_and, and_true, false_or, or_false, true_or, or_true] at fc6
  try simp only [Int32.lt_iff_toInt_lt, Int64.lt_iff_toInt_lt, ← Int32.toInt_inj, ← Int64.toInt_inj, Int32.reduceToInt, Int64.reduceToInt, not_true_eq_false, not_false_eq_true, false_and, and_false, true_and, and_true, false_or, or_false, true_or, or_true] at fc7
  all_goals omega
set_option maxRecDepth 65536 in
set_option maxHeartbeats 40000000 in
theorem own_leaf0_24 (q0 : Int64) (q1 : Int64) (q2 : Int64) (q3 : Int64) (p4 : Int32) (hc83 : ¬ ((p4 &&& (1 : Int32)) = (0 : Int32))) (v200 : Int32) (hv200 : v200 = (own_f3 q0 q0)) (hc202 : ¬ (q0 = (-9223372036854775808 : Int64))) (v230 : Int32) (hv230 : v230 = (own_f3 q0 (q0 - (1 : Int64)))) (v234 : Int64) (hv234 : v234 = (own_f4 q1 q2)) (v238 : Int64) (hv238 : v238 = (own_f5 q1 q2)) (hc243 : (own_f3 q0 v234) = (0 : Int32)) (hc245 : ¬ (v200 = (0 : Int32))) (hc247 : ¬ (v230 = (0 : Int32))) : False := by
  generalize hex1 : (p4 &&& (1 : Int32)) = ex1 at *
  have fc2 := own_f3_cases q0 q0
  generalize own_f3 q0 q0 = ex2 at *
  generalize hex3 : (q0 - (1 : Int64)) = ex3 at *
  have fc4 := own_f3_cases q0 ex3
  generalize own_f3 q0 ex3 = ex4 at *
  have fc5 := own_f4_cases q1 q2
  generalize own_f4 q1 q2 = ex5 at *
  have fc6 := own_f5_cases q1 q2
  generalize own_f5 q1 q2 = ex6 at *
  have fc7 := own_f3_cases q0 v234
  generalize own_f3 q0 v234 = ex7 at *
  try simp only [Int32.lt_iff_toInt_lt, Int64.lt_iff_toInt_lt, ← Int32.toInt_inj, ← Int64.toInt_inj, Int32.reduceToInt, Int64.reduceToInt, not_true_eq_false, not_false_eq_true, false_and, and_false, true_and, and_true, false_or, or_false, true_or, or_true] at hc83
  try simp only [Int32.lt_iff_toInt_lt, Int64.lt_iff_toInt_lt, ← Int32.toInt_inj, ← Int64.toInt_inj, Int32.reduceToInt, Int64.reduceToInt, not_true_eq_false, not_false_eq_true, false_and, and_false, true_and, and_true, false_or, or_false, true_or, or_true] at hv200
  try simp only [Int32.lt_iff_toInt_lt, Int64.lt_iff_toInt_lt, ← Int32.toInt_inj, ← Int64.toInt_inj, Int32.reduceToInt, Int64.reduceToInt, not_true_eq_false, not_false_eq_true, false_and, and_false, true_and, and_true, false_or, or_false, true_or, or_true] at hc202
  try simp only [Int32.lt_iff_toInt_lt, Int64.lt_iff_toInt_lt, ← Int32.toInt_inj, ← Int64.toInt_inj, Int32.reduceToInt, Int64.reduceToInt, not_true_eq_false, not_false_eq_true, false_and, and_false, true_and, and_true, false_or, or_false, true_or, or_true] at hv230
  try simp only [Int32.lt_iff_toInt_lt, Int64.lt_iff_toInt_lt, ← Int32.toInt_inj, ← Int64.toInt_inj, Int32.reduceToInt, Int64.reduceToInt, not_true_eq_false, not_false_eq_true, false_and, and_false, true_and, and_true, false_or, or_false, true_or, or_true] at hv234
  try simp only [Int32.lt_iff_toInt_lt, Int64.lt_iff_toInt_lt, ← Int32.toInt_inj, ← Int64.toInt_inj, Int32.reduceToInt, Int64.reduceToInt, not_true_eq_false, not_false_eq_true, false_and, and_false, true_and, and_true, false_or, or_false, true_or, or_true] at hv238
  try simp only [Int32.lt_iff_toInt_lt, Int64.lt_iff_toInt_lt, ← Int32.toInt_inj, ← Int64.toInt_inj, Int32.reduceToInt, Int64.reduceToInt, not_true_eq_false, not_false_eq_true, false_and, and_false, true_and, and_true, false_or, or_false, true_or, or_true] at hc243
  try simp only [Int32.lt_iff_toInt_lt, Int64.lt_iff_toInt_lt, ← Int32.toInt_inj, ← Int64.toInt_inj, Int32.reduceToInt, Int64.reduceToInt, not_true_eq_false, not_false_eq_true, false_and, and_false, true_and, and_true, false_or, or_false, true_or, or_true] at hc245
  try simp only [Int32.lt_iff_toInt_lt, Int64.lt_iff_toInt_lt, ← Int32.toInt_inj, ← Int64.toInt_inj, Int32.reduceToInt, Int64.reduceToInt, not_true_eq_false, not_false_eq_true, false_and, and_false, true_and, and_true, false_or, or_false, true_or, or_true] at hc247
  have := Int64.le_toInt q0; have := Int64.toInt_lt q0
  have := Int64.le_toInt q1; have := Int64.toInt_lt q1
  have := Int64.le_toInt q2; have := Int64.toInt_lt q2
  have := Int64.le_toInt q3; have := Int64.toInt_lt q3
  have := Int32.le_toInt p4; have := Int32.toInt_lt p4
  have := Int32.le_toInt v200; have := Int32.toInt_lt v200
  have := Int32.le_toInt v230; have := Int32.toInt_lt v230
  have := Int64.le_toInt v234; have := Int64.toInt_lt v234
  have := Int64.le_toInt v238; have := Int64.toInt_lt v238
  have bl1 := Int32.le_toInt ex1; have bu1 := Int32.toInt_lt ex1
  have fa1 := c_mask p4 (1 : Int32) 1 (by decide) (by decide); rw [hex1] at fa1; try simp only [Int32.reduceToInt, Int64.reduceToInt] at fa1
  clear hex1
  try simp only [Int32.lt_iff_toInt_lt, Int64.lt_iff_toInt_lt, ← Int32.toInt_inj, ← Int64.toInt_inj, Int32.reduceToInt, Int64.reduceToInt, not_true_eq_false, not_false_eq_true, false_and, and_false, true_and, and_true, false_or, or_false, true_or, or_true] at fc2
  have bl3 := Int64.le_toInt ex3; have bu3 := Int64.toInt_lt ex3
  have fa3 := c_lsub q0 (1 : Int64); rw [hex3] at fa3; try simp only [Int32.reduceToInt, Int64.reduceToInt] at fa3
  clear hex3
  try simp only [Int32.lt_iff_toInt_lt, Int64.lt_iff_toInt_lt, ← Int32.toInt_inj, ← Int64.toInt_inj, Int32.reduceToInt, Int64.reduceToInt, not_true_eq_false, not_false_eq_true, false_and, and_false, true_and, and_true, false_or, or_false, true_or, or_true] at fc4
  try simp only [Int32.lt_iff_toInt_lt, Int64.lt_iff_toInt_lt, ← Int32.toInt_inj, ← Int64.toInt_inj, Int32.reduceToInt, Int64.reduceToInt, not_true_eq_false, not_false_eq_true, false_and, and_false, true_and, and_true, false_or, or_false, true_or, or_true] at fc5
  try simp only [Int32.lt_iff_toInt_lt, Int64.lt_iff_toInt_lt, ← Int32.toInt_inj, ← Int64.toInt_inj, Int32.reduceToInt, Int64.reduceToInt, not_true_eq_false, not_false_eq_true, false_and, and_false, true_and, and_true, false_or, or_false, true_or, or_true] at fc6
  try simp only [Int32.lt_iff_toInt_lt, Int64.lt_iff_toInt_lt, ← Int32.toInt_inj, ← Int64.toInt_inj, Int32.reduceToInt, Int64.reduceToInt, not_true_eq_false, not_false_eq_true, false_and, and_false, true_and, and_true, false_or, or_false, true_or, or_true] at fc7
  all_goals omega
set_option maxRecDepth 65536 in
set_option maxHeartbeats 40000000 in
theorem own_leaf0_25 (q0 : Int64) (q1 : Int64) (q2 : Int64) (q3 : Int64) (p4 : Int32) (hc83 : ¬ ((p4 &&& (1 : Int32)) = (0 : Int32))) (v200 : Int32) (hv200 : v200 = (own_f3 q0 q0)) (hc202 : ¬ (q0 = (-9223372036854775808 : Int64))) (v230 : Int32) (hv230 : v230 = (own_f3 q0 (q0 - (1 : Int64)))) (v234 : Int64) (hv234 : v234 = (own_f4 q1 q2)) (v238 : Int64) (hv238 : v238 = (own_f5 q1 q2)) (hc243 : ¬ ((own_f3 q0 v234) = (0 : Int32))) (hc252 : (own_f3 q0 v238) = (0 : Int32)) (hc254 : v200 = (0 : Int32)) : False := by
  generalize hex1 : (p4 &&& (1 : Int32)) = ex1 at *
  have fc2 := own_f3_cases q0 q0
  generalize own_f3 q0 q0 = ex2 at *
  generalize hex3 : (q0 - (1 : Int64)) = ex3 at *
  have fc4 := own_f3_cases q0 ex3
  generalize own_f3 q0 ex3 = ex4 at *
  have fc5 := own_f4_cases q1 q2
  generalize own_f4 q1 q2 = ex5 at *
  have fc6 := own_f5_cases q1 q2
  generalize own_f5 q1 q2 = ex6 at *
  have fc7 := own_f3_cases q0 v234
  generalize own_f3 q0 v234 = ex7 at *
  have fc8 := own_f3_cases q0 v238
  generalize own_f3 q0 v238 = ex8 at *
  try simp only [Int32.lt_iff_toInt_lt, Int64.lt_iff_toInt_lt, ← Int32.toInt_inj, ← Int64.toInt_inj, Int32.reduceToInt, Int64.reduceToInt, not_true_eq_false, not_false_eq_true, false_and, and_false, true_and, and_true, false_or, or_false, true_or, or_true] at hc83
  try simp only [Int32.lt_iff_toInt_lt, Int64.lt_iff_toInt_lt, ← Int32.toInt_inj, ← Int64.toInt_inj, Int32.reduceToInt, Int64.reduceToInt, not_true_eq_false, not_false_eq_true, false_and, and_false, true_and, and_true, false_or, or_false, true_or, or_true] at hv200
  try simp only [Int32.lt_iff_toInt_lt, Int64.lt_iff_toInt_lt, ← Int32.toInt_inj, ← Int64.toInt_inj, Int32.reduceToInt, Int64.reduceToInt, not_true_eq_false, not_false_eq_true, false_and, and_false, true_and, and_true, false_or, or_false, true_or, or_true] at hc202
  try simp only [Int32.lt_iff_toInt_lt, Int64.lt_iff_toInt_lt, ← Int32.toInt_inj, ← Int64.toInt_inj, Int32.reduceToInt, Int64.reduceToInt, not_true_eq_false, not_false_eq_true, false_and, and_false, true_and, and_true, false_or, or_false, true_or, or_true] at hv230
  try simp only [Int32.lt_iff_toInt_lt, Int64.lt_iff_toInt_lt, ← Int32.toInt_inj, ← Int64.toInt_inj, Int32.reduceToInt, Int64.reduceToInt, not_true_eq_false, not_false_eq_true, false_and, and_false, true_and, and_true, false_or, or_false, true_or, or_true] at hv234
  try simp only [Int32.lt_iff_toInt_lt, Int64.lt_iff_toInt_lt, ← Int32.toInt_inj, ← Int64.toInt_inj, Int32.reduceToInt, Int64.reduceToInt, not_true_eq_false, not_false_eq_true, false_and, and_false, true_and, and_true, false_or, or_false, true_or, or_true] at hv238
  try simp only [Int32.lt_iff_toInt_lt, Int64.lt_iff_toInt_lt, ← Int32.toInt_inj, ← Int64.toInt_inj, Int32.reduceToInt, Int64.reduceToInt, not_true_eq_false, not_false_eq_true, false_and, and_false, true_and, and_true, false_or, or_false, true_or, or_true] at hc243
  try simp only [Int32.lt_iff_toInt_lt, Int64.lt_iff_toInt_lt, ← Int32.toInt_inj, ← Int64.toInt_inj, Int32.reduceToInt, Int64.reduceToInt, not_true_eq_false, not_false_eq_true, false_and, and_false, true_and, and_true, false_or, or_false, true_or, or_true] at hc252
  try simp only [Int32.lt_iff_toInt_lt, Int64.lt_iff_toInt_lt, ← Int32.toInt_inj, ← Int64.toInt_inj, Int32.reduceToInt, Int64.reduceToInt, not_true_eq_false, not_false_eq_true, false_and, and_false, true_and, and_true, false_or, or_false, true_or, or_true] at hc254
  have := Int64.le_toInt q0; have := Int64.toInt_lt q0
  have := Int64.le_toInt q1; have := Int64.toInt_lt q1
  have := Int64.le_toInt q2; have := Int64.toInt_lt q2
  have := Int64.le_toInt q3; have := Int64.toInt_lt q3
  have := Int32.le_toInt p4; have := Int32.toInt_lt p4
  have := Int32.le_toInt v200; have := Int32.toInt_lt v200
  have := Int32.le_toInt v230; have := Int32.toInt_lt v230
  have := Int64.le_toInt v234; have := Int64.toInt_lt v234
  have := Int64.le_toInt v238; have := Int64.toInt_lt v238
  have bl1 := Int32.le_toInt ex1; have bu1 := Int32.toInt_lt ex1
  have fa1 := c_mask p4 (1 : Int32) 1 (by decide) (by decide); rw [hex1] at fa1; try simp only [Int32.reduceToInt, Int64.reduceToInt] at fa1
  clear hex1
  try simp only [Int32.lt_iff_toInt_lt, Int64.lt_iff_toInt_lt, ← Int32.toInt_inj, ← Int64.toInt_inj, Int32.reduceToInt, Int64.reduceToInt, not_true_eq_false, not_false_eq_true, false_and, and_false, true_and, and_true, false_or, or_false, true_or, or_true] at fc2
  have bl3 := Int64.le_toInt ex3; have bu3 := Int64.toInt_lt ex3
  have fa3 := c_lsub q0 (1 : Int64); rw [hex3] at fa3; try simp only [Int32.reduceToInt, Int64.reduceToInt] at fa3
  clear hex3
  try simp only [Int32.lt_iff_toInt_lt, Int64.lt_iff_toInt_lt, ← Int32.toInt_inj, ← Int64.toInt_inj, Int32.reduceToInt, Int64.reduceToInt, not_true_eq_false, not_false_eq_true, false_and, and_false, true_and, and_true, false_or, or_false, true_or, or_true] at fc4
  try simp only [Int32.lt_iff_toInt_lt, Int64.lt_iff_toInt_lt, ← Int32.toInt_inj, ← Int64.toInt_inj, Int32.reduceToInt, Int64.reduceToInt, not_true_eq_false, not_false_eq_true, false_and, and_false, true_and, and_true, false_or, or_false, true_or, or_true] at fc5
  try simp only [Int32.lt_iff_toInt_lt, Int64.lt_iff_toInt_lt, ← Int32.toInt_inj, ← Int64.toInt_inj, Int32.reduceToInt, Int64.reduceToInt, not_true_eq_false, not_false_eq_true, false_and, and_false, true_and, and_true, false_or, or_false, true_or, or_true] at fc6
  try simp only [Int32.lt_iff_toInt_lt, Int64.lt_iff_toInt_lt, ← Int32.toInt_inj, ← Int64.toInt_inj, Int32.reduceToInt, Int64.reduceToInt, not_true_eq_false, not_false_eq_true, false_and, and_false, true_and, and_true, false_or, or_false, true_or, or_true] at fc7
  try simp only [Int32.lt_iff_toInt_lt, Int64.lt_iff_toInt_lt, ← Int32.toInt_inj, ← Int64.toInt_inj, Int32.reduceToInt, Int64.reduceToInt, not_true_eq_false, not_false_eq_true, false_and, and_false, true_and, and_true, false_or, or_false, true_or, or_true] at fc8
  all_goals omega
set_option maxRecDepth 65536 in
set_option maxHeartbeats 40000000 in
theorem own_leaf0_26 (q0 : Int64) (q1 : Int64) (q2 : Int64) (q3 : Int64) (p4 : Int32) (hc83 : ¬ ((p4 &&& (1 : Int32)) = (0 : Int32))) (v200 : Int32) (hv200 : v200 = (own_f3 q0 q0)) (hc202 : ¬ (q0 = (-9223372036854775808 : Int64))) (v230 : Int32) (hv230 : v230 = (own_f3 q0 (q0 - (1 : Int64)))) (v234 : Int64) (hv234 : v234 = (own_f4 q1 q2)) (v238 : Int64) (hv238 : v238 = (own_f5 q1 q2)) (hc243 : ¬ ((own_f3 q0 v234) = (0 : Int32))) (hc252 : (own_f3 q0 v238) = (0 : Int32)) (hc254 : ¬ (v200 = (0 : Int32))) (hc256 : v230 = (0 : Int32)) : False := by
  generalize hex1 : (p4 &&& (1 : Int32)) = ex1 at *
  have fc2 := own_f3_cases q0 q0
  generalize own_f3 q0 q0 = ex2 at *
  generalize hex3 : (q0 - (1 : Int64)) = ex3 at *
  have fc4 := own_f3_cases q0 ex3
  generalize own_f3 q0 ex3 = ex4 at *
  have fc5 := own_f4_cases q1 q2
  generalize own_f4 q1 q2 = ex5 at *
  have fc6 := own_f5_cases q1 q2
  generalize own_f5 q1 q2 = ex6 at *
  have fc7 := own_f3_cases q0 v234
  generalize own_f3 q0 v234 = ex7 at *
  have fc8 := own_f3_cases q0 v238
  generalize own_f3 q0 v238 = ex8 at *
  try simp only [Int32.lt_iff_toInt_lt, Int64.lt_iff_toInt_lt, ← Int32.toInt_inj, ← Int64.toInt_inj, Int32.reduceToInt, Int64.reduceToInt, not_true_eq_false, not_false_eq_true, false_and, and_false, true_and, and_true, false_or, or_false, true_or, or_true] at hc83
  try simp only [Int32.lt_iff_toInt_lt, Int64.lt_iff_toInt_lt, ← Int32.toInt_inj, ← Int64.toInt_inj, Int32.reduceToInt, Int64.reduceToInt, not_true_eq_false, not_false_eq_true, false_and, and_false, true_and, and_true, false_or, or_false, true_or, or_true] at hv200
  try simp only [Int32.lt_iff_toInt_lt, Int64.lt_iff_toInt_lt, ← Int32.toInt_inj, ← Int64.toInt_inj, Int32.reduceToInt, Int64.reduceToInt, not_true_eq_false, not_false_eq_true, false_and, and_false, true_and, and_true, false_or, or_false, true_or, or_true] at hc202
  try simp only [Int32.lt_iff_toInt_lt, Int64.lt_iff_toInt_lt, ← Int32.toInt_inj, ← Int64.toInt_inj, Int32.reduceToInt, Int64.reduceToInt, not_true_eq_false, not_false_eq_true, false_and, and_false, true_and, and_true, false_or, or_false, true_or, or_true] at hv230
  try simp only [Int32.lt_iff_toInt_lt, Int64.lt_iff_toInt_lt, ← Int32.toInt_inj, ← Int64.toInt_inj, Int32.reduceToInt, Int64.reduceToInt, not_true_eq_false, not_false_eq_true, false_and, and_false, true_and, and_true, false_or, or_false, true_or, or_true] at hv234
  try simp only [Int32.lt_iff_toInt_lt, Int64.lt_iff_toInt_lt, ← Int32.toInt_inj, ← Int64.toInt_inj, Int32.reduceToInt, Int64.reduceToInt, not_true_eq_false, not_false_eq_true, false_and, and_false, true_and, and_true, false_or, or_false, true_or, or_true] at hv238
  try simp only [Int32.lt_iff_toInt_lt, Int64.lt_iff_toInt_lt, ← Int32.toInt_inj, ← Int64.toInt_inj, Int32.reduceToInt, Int64.reduceToInt, not_true_eq_false, not_false_eq_true, false_and, and_false, true_and, and_true, false_or, or_false, true_or, or_true] at hc243
  try simp only [Int32.lt_iff_toInt_lt, Int64.lt_iff_toInt_lt, ← Int32.toInt_inj, ← Int64.toInt_inj, Int32.reduceToInt, Int64.reduceToInt, not_true_eq_false, not_false_eq_true, false_and, and_false, true_and, and_true, false_or, or_false, true_or, or_true] at hc252
  try simp only [Int32.lt_iff_toInt_lt, Int64.lt_iff_toInt_lt, ← Int32.toInt_inj, ← Int64.toInt_inj, Int32.reduceToInt, Int64.reduceToInt, not_true_eq_false, not_false_eq_true, false_and, and_false, true_and, and_true, false_or, or_false, true_or, or_true] at hc254
  try simp only [Int32.lt_iff_toInt_lt, Int64.lt_iff_toInt_lt, ← Int32.toInt_inj, ← Int64.toInt_inj, Int32.reduceToInt, Int64.reduceToInt, not_true_eq_false, not_false_eq_true, false_and, and_false, true_and, and_true, false_or, or_false, true_or, or_true] at hc256
  have := Int64.le_toInt q0; have := Int64.toInt_lt q0
  have := Int64.le_toInt q1; have := Int64.toInt_lt q1
  have := Int64.le_toInt q2; have := Int64.toInt_lt q2
  have := Int64.le_toInt q3; have := Int64.toInt_lt q3
  have := Int32.le_toInt p4; have := Int32.toInt_lt p4
  have := Int32.le_toInt v200; have := Int32.toInt_lt v200
  have := Int32.le_toInt v230; have := Int32.toInt_lt v230
  have := Int64.le_toInt v234; have := Int64.toInt_lt v234
  have := Int64.le_toInt v238; have := Int64.toInt_lt v238
  have bl1 := Int32.le_toInt ex1; have bu1 := Int32.toInt_lt ex1
  have fa1 := c_mask p4 (1 : Int32) 1 (by decide) (by decide); rw [hex1] at fa1; try simp only [Int32.reduceToInt, Int64.reduceToInt] at fa1
  clear hex1
  try simp only [Int32.lt_iff_toInt_lt, Int64.lt_iff_toInt_lt, ← Int32.toInt_inj, ← Int64.toInt_inj, Int32.reduceToInt, Int64.reduceToInt, not_true_eq_false, not_false_eq_true, false_and, and_false, true_and, and_true, false_or, or_false, true_or, or_true] at fc2
  have bl3 := Int64.le_toInt ex3; have bu3 := Int64.toInt_lt ex3
  have fa3 := c_lsub q0 (1 : Int64); rw [hex3] at fa3; try simp only [Int32.reduceToInt, Int64.reduceToInt] at fa3
  clear hex3
  try simp only [Int32.lt_iff_toInt_lt, Int64.lt_iff_toInt_lt, ← Int32.toInt_inj, ← Int64.toInt_inj, Int32.reduceToInt, Int64.reduceToInt, not_true_eq_false, not_false_eq_true, false_and, and_false, true_and, and_true, false_or, or_false, true_or, or_true] at fc4
  try simp only [Int32.lt_iff_toInt_lt, Int64.lt_iff_toInt_lt, ← Int32.toInt_inj, ← Int64.toInt_inj, Int32.reduceToInt, Int64.reduceToInt, not_true_eq_false, not_false_eq_true, false_and, and_false, true_and, and_true, false_or, or_false, true_or, or_true] at fc5
  try simp only [Int32.lt_iff_toInt_lt, Int64.lt_iff_toInt_lt, ← Int32.toInt_inj, ← Int64.toInt_inj, Int32.reduceToInt, Int64.reduceToInt, not_true_eq_false, not_false_eq_true, false_and, and_false, true_and, and_true, false_or, or_false, true_or, or_true] at fc6
  try simp only [Int32.lt_iff_toInt_lt, Int64.lt_iff_toInt_lt, ← Int32.toInt_inj, ← Int64.toInt_inj, Int32.reduceToInt, Int64.reduceToInt, not_true_eq_false, not_false_eq_true, false_and, and_false, true_and, and_true, false_or, or_false, true_or, or_true] at fc7
  try simp only [Int32.lt_iff_toInt_lt, Int64.lt_iff_toInt_lt, ← Int32.toInt_inj, ← Int64.toInt_inj, Int32.reduceToInt, Int64.reduceToInt, not_true_eq_false, not_false_eq_true, false_and, and_false, true_and, and_true, false_or, or_false, true_or, or_true] at fc8
  all_goals omega
set_option maxRecDepth 65536 in
set_option maxHeartbeats 40000000 in
theorem own_leaf0_27 (q0 : Int64) (q1 : Int64) (q2 : Int64) (q3 : Int64) (p4 : Int32) (hc83 : ¬ ((p4 &&& (1 : Int32)) = (0 : Int32))) (v200 : Int32) (hv200 : v200 = (own_f3 q0 q0)) (hc202 : ¬ (q0 = (-9223372036854775808 : Int64))) (v230 : Int32) (hv230 : v230 = (own_f3 q0 (q0 - (1 : Int64)))) (v234 : Int64) (hv234 : v234 = (own_f4 q1 q2)) (v238 : Int64) (hv238 : v238 = (own_f5 q1 q2)) (hc243 : ¬ ((own_f3 q0 v234) = (0 : Int32))) (hc252 : (own_f3 q0 v238) = (0 : Int32)) (hc254 : ¬ (v200 = (0 : Int32))) (hc256 : ¬ (v230 = (0 : Int32))) : False := by
  generalize hex1 : (p4 &&& (1 : Int32)) = ex1 at *
  have fc2 := own_f3_cases q0 q0
  generalize own_f3 q0 q0 = ex2 at *
  generalize hex3 : (q0 - (1 : Int64)) = ex3 at *
  have fc4 := own_f3_cases q0 ex3
  generalize own_f3 q0 ex3 = ex4 at *
  have fc5 := own_f4_cases q1 q2
  generalize own_f4 q1 q2 = ex5 at *
  have fc6 := own_f5_cases q1 q2
  generalize own_f5 q1 q2 = ex6 at *
  have fc7 := own_f3_cases q0 v234
  generalize own_f3 q0 v234 = ex7 at *
  have fc8 := own_f3_cases q0 v238
  generalize own_f3 q0 v238 = ex8 at *
  try simp only [Int32.lt_iff_toInt_lt, Int64.lt_iff_toInt_lt, ← Int32.toInt_inj, ← Int64.toInt_inj, Int32.reduceToInt, Int64.reduceToInt, not_true_eq_false, not_false_eq_true, false_and, and_false, true_and, and_true, false_or, or_false, true_or, or_true] at hc83
  try simp only [Int32.lt_iff_toInt_lt, Int64.lt_iff_toInt_lt, ← Int32.toInt_inj, ← Int64.toInt_inj, Int32.reduceToInt, Int64.reduceToInt, not_true_eq_false, not_false_eq_true, false_and, and_false, true_and, and_true, false_or, or_false, true_or, or_true] at hv200
  try simp only [Int32.lt_iff_toInt_lt, Int64.lt_iff_toInt_lt, ← Int32.toInt_inj, ← Int64.toInt_inj, Int32.reduceToInt, Int64.reduceToInt, not_true_eq_false, not_false_eq_true, false_and, and_false, true_and, and_true, false_or, or_false, true_or, or_true] at hc202
  try simp only [Int32.lt_iff_toInt_lt, Int64.lt_iff_toInt_lt, ← Int32.toInt_inj, ← Int64.toInt_inj, Int32.reduceToInt, Int64.reduceToInt, not_true_eq_false, not_false_eq_true, false_and, and_false, true_and, and_true, false_or, or_false, true_or, or_true] at hv230
  try simp only [Int32.lt_iff_toInt_lt, Int64.lt_iff_toInt_lt, ← Int32.toInt_inj, ← Int64.toInt_inj, Int32.reduceToInt, Int64.reduceToInt, not_true_eq_false, not_false_eq_true, false_and, and_false, true_and, and_true, false_or, or_false, true_or, or_true] at hv234
  try simp only [Int32.lt_iff_toInt_lt, Int64.lt_iff_toInt_lt, ← Int32.toInt_inj, ← Int64.toInt_inj, Int32.reduceToInt, Int64.reduceToInt, not_true_eq_false, not_false_eq_true, false_and, and_false, true_and, and_true, false_or, or_false, true_or, or_true] at hv238
  try simp only [Int32.lt_iff_toInt_lt, Int64.lt_iff_toInt_lt, ← Int32.toInt_inj, ← Int64.toInt_inj, Int32.reduceToInt, Int64.reduceToInt, not_true_eq_false, not_false_eq_true, false_and, and_false, true_and, and_true, false_or, or_false, true_or, or_true] at hc243
  try simp only [Int32.lt_iff_toInt_lt, Int64.lt_iff_toInt_lt, ← Int32.toInt_inj, ← Int64.toInt_inj, Int32.reduceToInt, Int64.reduceToInt, not_true_eq_false, not_false_eq_true, false_and, and_false, true_and, and_true, false_or, or_false, true_or, or_true] at hc252
  try simp only [Int32.lt_iff_toInt_lt, Int64.lt_iff_toInt_lt, ← Int32.toInt_inj, ← Int64.toInt_inj, Int32.reduceToInt, Int64.reduceToInt, not_true_eq_false, not_false_eq_true, false_and, and_false, true_and, and_true, false_or, or_false, true_or, or_true] at hc254
  try simp only [Int32.lt_iff_toInt_lt, Int64.lt_iff_toInt_lt, ← Int32.toInt_inj, ← Int64.toInt_inj, Int32.reduceToInt, Int64.reduceToInt, not_true_eq_false, not_false_eq_true, false_and, and_false, true_and, and_true, false_or, or_false, true_or, or_true] at hc256
  have := Int64.le_toInt q0; have := Int64.toInt_lt q0
  have := Int64.le_toInt q1; have := Int64.toInt_lt q1
  have := Int64.le_toInt q2; have := Int64.toInt_lt q2
  have := Int64.le_toInt q3; have := Int64.toInt_lt q3
  have := Int32.le_toInt p4; have := Int32.toInt_lt p4
  have := Int32.le_toInt v200; have := Int32.toInt_lt v200
  have := Int32.le_toInt v230; have := Int32.toInt_lt v230
  have := Int64.le_toInt v234; have := Int64.toInt_lt v234
  have := Int64.le_toInt v238; have := Int64.toInt_lt v238
  have bl1 := Int32.le_toInt ex1; have bu1 := Int32.toInt_lt ex1
  have fa1 := c_mask p4 (1 : Int32) 1 (by decide) (by decide); rw [hex1] at fa1; try simp only [Int32.reduceToInt, Int64.reduceToInt] at fa1
  clear hex1
  try simp only [Int32.lt_iff_toInt_lt, Int64.lt_iff_toInt_lt, ← Int32.toInt_inj, ← Int64.toInt_inj, Int32.reduceToInt, Int64.reduceToInt, not_true_eq_false, not_false_eq_true, false_and, and_false, true_and, and_true, false_or, or_false, true_or, or_true] at fc2
  have bl3 := Int64.le_toInt ex3; have bu3 := Int64.toInt_lt ex3
  have fa3 := c_lsub q0 (1 : Int64); rw [hex3] at fa3; try simp only [Int32.reduceToInt, Int64.reduceToInt] at fa3
  clear hex3
  try simp only [Int32.lt_iff_toInt_lt, Int64.lt_iff_toInt_lt, ← Int32.toInt_inj, ← Int64.toInt_inj, Int32.reduceToInt, Int64.reduceToInt, not_true_eq_false, not_false_eq_true, false_and, and_false, true_and, and_true, false_or, or_false, true_or, or_true] at fc4
  try simp only [Int32.lt_iff_toInt_lt, Int64.lt_iff_toInt_lt, ← Int32.toInt_inj, ← Int64.toInt_inj, Int32.reduceToInt, Int64.reduceToInt, not_true_eq_false, not_false_eq_true, false_and, and_false, true_and, and_true, false_or, or_false, true_or, or_true] at fc5
  try simp only [Int32.lt_iff_toInt_lt, Int64.lt_iff_toInt_lt, ← Int32.toInt_inj, ← Int64.toInt_inj, Int32.reduceToInt, Int64.reduceToInt, not_true_eq_false, not_false_eq_true, false_and, and_false, true_and, and_true, false_or, or_false, true_or, or_true] at fc6
  try simp only [Int32.lt_iff_toInt_lt, Int64.lt_iff_toInt_lt, ← Int32.toInt_inj, ← Int64.toInt_inj, Int32.reduceToInt, Int64.reduceToInt, not_true_eq_false, not_false_eq_true, false_and, and_false, true_and, and_true, false_or, or_false, true_or, or_true] at fc7
  try simp only [Int32.lt_iff_toInt_lt, Int64.lt_iff_toInt_lt, ← Int32.toInt_inj, ← Int64.toInt_inj, Int32.reduceToInt, Int64.reduceToInt, not_true_eq_false, not_false_eq_true, false_and, and_false, true_and, and_true, false_or, or_false, true_or, or_true] at fc8
  all_goals omega
set_option maxRecDepth 65536 in
set_option maxHeartbeats 40000000 in
theorem own_leaf0_28 (q0 : Int64) (q1 : Int64) (q2 : Int64) (q3 : Int64) (p4 : Int32) (hc83 : ¬ ((p4 &&& (1 : Int32)) = (0 : Int32))) (v200 : Int32) (hv200 : v200 = (own_f3 q0 q0)) (hc202 : ¬ (q0 = (-9223372036854775808 : Int64))) (v230 : Int32) (hv230 : v230 = (own_f3 q0 (q0 - (1 : Int64)))) (v234 : Int64) (hv234 : v234 = (own_f4 q1 q2)) (v238 : Int64) (hv238 : v238 = (own_f5 q1 q2)) (hc243 : ¬ ((own_f3 q0 v234) = (0 : Int32))) (hc252 : ¬ ((own_f3 q0 v238) = (0 : Int32))) (hc258 : v200 = (0 : Int32)) : False := by
  generalize hex1 : (p4 &&& (1 : Int32)) = ex1 at *
  have fc2 := own_f3_cases q0 q0
  generalize own_f3 q0 q0 = ex2 at *
  generalize hex3 : (q0 - (1 : Int64)) = ex3 at *
  have fc4 := own_f3_cases q0 ex3
  generalize own_f3 q0 ex3 = ex4 at *
  have fc5 := own_f4_cases q1 q2
  generalize own_f4 q1 q2 = ex5 at *
  have fc6 := own_f5_cases q1 q2
  generalize own_f5 q1 q2 = ex6 at *
  have fc7 := own_f3_cases q0 v234
  generalize own_f3 q0 v234 = ex7 at *
  have fc8 := own_f3_cases q0 v238
  generalize own_f3 q0 v238 = ex8 at *
  try simp only [Int32.lt_iff_toInt_lt, Int64.lt_iff_toInt_lt, ← Int32.toInt_inj, ← Int64.toInt_inj, Int32.reduceToInt, Int64.reduceToInt, not_true_eq_false, not_false_eq_true, false_and, and_false, true_and, and_true, false_or, or_false, true_or, or_true] at hc83
  try simp only [Int32.lt_iff_toInt_lt, Int64.lt_iff_toInt_lt, ← Int32.toInt_inj, ← Int64.toInt_inj, Int32.reduceToInt, Int64.reduceToInt, not_true_eq_false, not_false_eq_true, false_and, and_false, true_and, and_true, false_or, or_false, true_or, or_true] at hv200
  try simp only [Int32.lt_iff_toInt_lt, Int64.lt_iff_toInt_lt, ← Int32.toInt_inj, ← Int64.toInt_inj, Int32.reduceToInt, Int64.reduceToInt, not_true_eq_false, not_false_eq_true, false_and, and_false, true_and, and_true, false_or, or_false, true_or, or_true] at hc202
  try simp only [Int32.lt_iff_toInt_lt, Int64.lt_iff_toInt_lt, ← Int32.toInt_inj, ← Int64.toInt_inj, Int32.reduceToInt, Int64.reduceToInt, not_true_eq_false, not_false_eq_true, false_and, and_false, true_and, and_true, false_or, or_false, true_or, or_true] at hv230
  try simp only [Int32.lt_iff_toInt_lt, Int64.lt_iff_toInt_lt, ← Int32.toInt_inj, ← Int64.toInt_inj, Int32.reduceToInt, Int64.reduceToInt, not_true_eq_false, not_false_eq_true, false_and, and_false, true_and, and_true, false_or, or_false, true_or, or_true] at hv234
  try simp only [Int32.lt_iff_toInt_lt, Int64.lt_iff_toInt_lt, ← Int32.toInt_inj, ← Int64.toInt_inj, Int32.reduceToInt, Int64.reduceToInt, not_true_eq_false, not_false_eq_true, false_and, and_false, true_and, and_true, false_or, or_false, true_or, or_true] at hv238
  try simp only [Int32.lt_iff_toInt_lt, Int64.lt_iff_toInt_lt, ← Int32.toInt_inj, ← Int64.toInt_inj, Int32.reduceToInt, Int64.reduceToInt, not_true_eq_false, not_false_eq_true, false_and, and_false, true_and, and_true, false_or, or_false, true_or, or_true] at hc243
  try simp only [Int32.lt_iff_toInt_lt, Int64.lt_iff_toInt_lt, ← Int32.toInt_inj, ← Int64.toInt_inj, Int32.reduceToInt, Int64.reduceToInt, not_true_eq_false, not_false_eq_true, false_and, and_false, true_and, and_true, false_or, or_false, true_or, or_true] at hc252
  try simp only [Int32.lt_iff_toInt_lt, Int64.lt_iff_toInt_lt, ← Int32.toInt_inj, ← Int64.toInt_inj, Int32.reduceToInt, Int64.reduceToInt, not_true_eq_false, not_false_eq_true, false_and, and_false, true_and, and_true, false_or, or_false, true_or, or_true] at hc258
  have := Int64.le_toInt q0; have := Int64.toInt_lt q0
  have := Int64.le_toInt q1; have := Int64.toInt_lt q1
  have := Int64.le_toInt q2; have := Int64.toInt_lt q2
  have := Int64.le_toInt q3; have := Int64.toInt_lt q3
  have := Int32.le_toInt p4; have := Int32.toInt_lt p4
  have := Int32.le_toInt v200; have := Int32.toInt_lt v200
  have := Int32.le_toInt v230; have := Int32.toInt_lt v230
  have := Int64.le_toInt v234; have := Int64.toInt_lt v234
  have := Int64.le_toInt v238; have := Int64.toInt_lt v238
  have bl1 := Int32.le_toInt ex1; have bu1 := Int32.toInt_lt ex1
  have fa1 := c_mask p4 (1 : Int32) 1 (by decide) (by decide); rw [hex1] at fa1; try simp only [Int32.reduceToInt, Int64.reduceToInt] at fa1
  clear hex1
  try simp only [Int32.lt_iff_toInt_lt, Int64.lt_iff_toInt_lt, ← Int32.toInt_inj, ← Int64.toInt_inj, Int32.reduceToInt, Int64.reduceToInt, not_true_eq_false, not_false_eq_true, false_and, and_false, true_and, and_true, false_or, or_false, true_or, or_true] at fc2
  have bl3 := Int64.le_toInt ex3; have bu3 := Int64.toInt_lt ex3
  have fa3 := c_lsub q0 (1 : Int64); rw [hex3] at fa3; try simp only [Int32.reduceToInt, Int64.reduceToInt] at fa3
  clear hex3
  try simp only [Int32.lt_iff_toInt_lt, Int64.lt_iff_toInt_lt, ← Int32.toInt_inj, ← Int64.toInt_inj, Int32.reduceToInt, Int64.reduceToInt, not_true_eq_false, not_false_eq_true, false_and, and_false, true_and, and_true, false_or, or_false, true_or, or_true] at fc4
  try simp only [Int32.lt_iff_toInt_lt, Int64.lt_iff_toInt_lt, ← Int32.toInt_inj, ← Int64.toInt_inj, Int32.reduceToInt, Int64.reduceToInt, not_true_eq_false, not_false_eq_true, false_and, and_false, true_and, and_true, false_or, or_false, true_or, or_true] at fc5
  try simp only [Int32.lt_iff_toInt_lt, Int64.lt_iff_toInt_lt, ← Int32.toInt_inj, ← Int64.toInt_inj, Int32.reduceToInt, Int64.reduceToInt, not_true_eq_false, not_false_eq_true, false_and, and_false, true_and, and_true, false_or, or_false, true_or, or_true] at fc6
  try simp only [Int32.lt_iff_toInt_lt, Int64.lt_iff_toInt_lt, ← Int32.toInt_inj, ← Int64.toInt_inj, Int32.reduceToInt, Int64.reduceToInt, not_true_eq_false, not_false_eq_true, false_and, and_false, true_and, and_true, false_or, or_false, true_or, or_true] at fc7
  try simp only [Int32.lt_iff_toInt_lt, Int64.lt_iff_toInt_lt, ← Int32.toInt_inj, ← Int64.toInt_inj, Int32.reduceToInt, Int64.reduceToInt, not_true_eq_false, not_false_eq_true, false_and, and_false, true_and, and_true, false_or, or_false, true_or, or_true] at fc8
  all_goals omega
set_option maxRecDepth 65536 in
set_option maxHeartbeats 40000000 in
theorem own_leaf0_30 (q0 : Int64) (q1 : Int64) (q2 : Int64) (q3 : Int64) (p4 : Int32) (hc83 : ¬ ((p4 &&& (1 : Int32)) = (0 : Int32))) (v200 : Int32) (hv200 : v200 = (own_f3 q0 q0)) (hc202 : ¬ (q0 = (-9223372036854775808 : Int64))) (v230 : Int32) (hv230 : v230 = (own_f3 q0 (q0 - (1 : Int64)))) (v234 : Int64) (hv234 : v234 = (own_f4 q1 q2)) (v238 : Int64) (hv238 : v238 = (own_f5 q1 q2)) (hc243 : ¬ ((own_f3 q0 v234) = (0 : Int32))) (hc252 : ¬ ((own_f3 q0 v238) = (0 : Int32))) (hc258 : ¬ (v200 = (0 : Int32))) (hc260 : ¬ (v230 = (0 : Int32))) : False := by
  generalize hex1 : (p4 &&& (1 : Int32)) = ex1 at *
  have fc2 := own_f3_cases q0 q0
  generalize own_f3 q0 q0 = ex2 at *
  generalize hex3 : (q0 - (1 : Int64)) = ex3 at *
  have fc4 := own_f3_cases q0 ex3
  generalize own_f3 q0 ex3 = ex4 at *
  have fc5 := own_f4_cases q1 q2
  generalize own_f4 q1 q2 = ex5 at *
  have fc6 := own_f5_cases q1 q2
  generalize own_f5 q1 q2 = ex6 at *
  have fc7 := own_f3_cases q0 v234
  generalize own_f3 q0 v234 = ex7 at *
  have fc8 := own_f3_cases q0 v238
  generalize own_f3 q0 v238 = ex8 at *
  try simp only [Int32.lt_iff_toInt_lt, Int64.lt_iff_toInt_lt, ← Int32.toInt_inj, ← Int64.toInt_inj, Int32.reduceToInt, Int64.reduceToInt, not_true_eq_false, not_false_eq_true, false_and, and_false, true_and, and_true, false_or, or_false, true_or, or_true] at hc83
  try simp only [Int32.lt_iff_toInt_lt, Int64.lt_iff_toInt_lt, ← Int32.toInt_inj, ← Int64.toInt_inj, Int32.reduceToInt, Int64.reduceToInt, not_true_eq_false, not_false_eq_true, false_and, and_false, true_and, and_true, false_or, or_false, true_or, or_true] at hv200
  try simp only [Int32.lt_iff_toInt_lt, Int64.lt_iff_toInt_lt, ← Int32.toInt_inj, ← Int64.toInt_inj, Int32.reduceToInt, Int64.reduceToInt, not_true_eq_false, not_false_eq_true, false_and, and_false, true_and, and_true, false_or, or_false, true_or, or_true] at hc202
  try simp only [Int32.lt_iff_toInt_lt, Int64.lt_iff_toInt_lt, ← Int32.toInt_inj, ← Int64.toInt_inj, Int32.reduceToInt, Int64.reduceToInt, not_true_eq_false, not_false_eq_true, false_and, and_false, true_and, and_true, false_or, or_false, true_or, or_true] at hv230
  try simp only [Int32.lt_iff_toInt_lt, Int64.lt_iff_toInt_lt, ← Int32.toInt_inj, ← Int64.toInt_inj, Int32.reduceToInt, Int64.reduceToInt, not_true_eq_false, not_false_eq_true, false_and, and_false, true_and, and_true, false_or, or_false, true_or, or_true] at hv234
  try simp only [Int32.lt_iff_toInt_lt, Int64.lt_iff_toInt_lt, ← Int32.toInt_inj, ← Int64.toInt_inj, Int32.reduceToInt, Int64.reduceToInt, not_true_eq_false, not_false_eq_true, false_and, and_false, true_and, and_true, false_or, or_false, true_or, or_true] at hv238
  try simp only [Int32.lt_iff_toInt_lt, Int64.lt_iff_toInt_lt, ← Int32.toInt_inj, ← Int64.toInt_inj, Int32.reduceToInt, Int64.reduceToInt, not_true_eq_false, not_false_eq_true, false_and, and_false, true_and, and_true, false_or, or_false, true_or, or_true] at hc243
  try simp only [Int32.lt_iff_toInt_lt, Int64.lt_iff_toInt_lt, ← Int32.toInt_inj, ← Int64.toInt_inj, Int32.reduceToInt, Int64.reduceToInt, not_true_eq_false, not_false_eq_true, false_and, and_false, true_and, and_true, false_or, or_false, true_or, or_true] at hc252
  try simp only [Int32.lt_iff_toInt_lt, Int64.lt_iff_toInt_lt, ← Int32.toInt_inj, ← Int64.toInt_inj, Int32.reduceToInt, Int64.reduceToInt, not_true_eq_false, not_false_eq_true, false_and, and_false, true_and, and_true, false_or, or_false, true_or, or_true] at hc258
  try simp only [Int32.lt_iff_toInt_lt, Int64.lt_iff_toInt_lt, ← Int32.toInt_inj, ← Int64.toInt_inj, Int32.reduceToInt, Int64.reduceToInt, not_true_eq_false, not_false_eq_true, false_and, and_false, true_and, and_true, false_or, or_false, true_or, or_true] at hc260
  have := Int64.le_toInt q0; have := Int64.toInt_lt q0
  have := Int64.le_toInt q1; have := Int64.toInt_lt q1
  have := Int64.le_toInt q2; have := Int64.toInt_lt q2
  have := Int64.le_toInt q3; have := Int64.toInt_lt q3
  have := Int32.le_toInt p4; have := Int32.toInt_lt p4
  have := Int32.le_toInt v200; have := Int32.toInt_lt v200
  have := Int32.le_toInt v230; have := Int32.toInt_lt v230
  have := Int64.le_toInt v234; have := Int64.toInt_lt v234
  have := Int64.le_toInt v238; have := Int64.toInt_lt v238
  have bl1 := Int32.le_toInt ex1; have bu1 := Int32.toInt_lt ex1
  have fa1 := c_mask p4 (1 : Int32) 1 (by decide) (by decide); rw [hex1] at fa1; try simp only [Int32.reduceToInt, Int64.reduceToInt] at fa1
  clear hex1
  try simp only [Int32.lt_iff_toInt_lt, Int64.lt_iff_toInt_lt, ← Int32.toInt_inj, ← Int64.toInt_inj, Int32.reduceToInt, Int64.reduceToInt, not_true_eq_false, not_false_eq_true, false_and, and_false, true_and, and_true, false_or, or_false, true_or, or_true] at fc2
  have bl3 := Int64.le_toInt ex3; have bu3 := Int64.toInt_lt ex3
  have fa3 := c_lsub q0 (1 : Int64); rw [hex3] at fa3; try simp only [Int32.reduceToInt, Int64.reduceToInt] at fa3
  clear hex3
  try simp only [Int32.lt_iff_toInt_lt, Int64.lt_iff_toInt_lt, ← Int32.toInt_inj, ← Int64.toInt_inj, Int32.reduceToInt, Int64.reduceToInt, not_true_eq_false, not_false_eq_true, false_and, and_false, true_and, and_true, false_or, or_false, true_or, or_true] at fc4
  try simp only [Int32.lt_iff_toInt_lt, Int64.lt_iff_toInt_lt, ← Int32.toInt_inj, ← Int64.toInt_inj, Int32.reduceToInt, Int64.reduceToInt, not_true_eq_false, not_false_eq_true, false_and, and_false, true_and, and_true, false_or, or_false, true_or, or_true] at fc5
  try simp only [Int32.lt_iff_toInt_lt, Int64.lt_iff_toInt_lt, ← Int32.toInt_inj, ← Int64.toInt_inj, Int32.reduceToInt, Int64.reduceToInt, not_true_eq_false, not_false_eq_true, false_and, and_false, true_and, and_true, false_or, or_false, true_or, or_true] at fc6
  try simp only [Int32.lt_iff_toInt_lt, Int64.lt_iff_toInt_lt, ← Int32.toInt_inj, ← Int64.toInt_inj, Int32.reduceToInt, Int64.reduceToInt, not_true_eq_false, not_false_eq_true, false_and, and_false, true_and, and_true, false_or, or_false, true_or, or_true] at fc7
  try simp only [Int32.lt_iff_toInt_lt, Int64.lt_iff_toInt_lt, ← Int32.toInt_inj, ← Int64.toInt_inj, Int32.reduceToInt, Int64.reduceToInt, not_true_eq_false, not_false_eq_true, false_and, and_false, true_and, and_true, false_or, or_false, true_or, or_true] at fc8
  all_goals omega
theorem own_pn41 : plainName "com/example/syncline/syncline/store/RecordIsExpiredAtPinLaw" = true := by first | (simp [plainName, overriddenIn]; done) | decide +kernel
theorem own_ef0 (m : MethodId) (q0 : Int64) (q1 : Int64) (q2 : Int64) (q3 : Int64) (p4 : Int32) : entryFrame m #[(.long q0), (.long q1), (.long q2), (.long q3), (.int p4)] maxLocals = mkF m 0 #[.val (.long q0), .second, .val (.long q1), .second, .val (.long q2), .second, .val (.long q3), .second, .val (.int p4), .unset, .unset, .unset, .unset, .unset, .unset, .unset, .unset, .unset] [] := by first | (simp [entryFrame, mkF, argsToLocals, Value.category, maxLocals]; done) | rfl
def own_Q0 (Z : State) (q0 : Int64) (q1 : Int64) (q2 : Int64) (q3 : Int64) (p4 : Int32) (h0 : Heap) (n0 : Nat) (v : Option Value) (h : Heap) (L : List Loc) : Prop := v = some (.int 1) ∧ Fr n0 L
set_option maxRecDepth 65536 in
set_option maxHeartbeats 40000000 in
theorem own_rm0 (l : Launch) (Z : State) (av : Array Value) (hw : ∀ d ∈ tables_1, d.before av Z = true) (ws : List Jvm.Cond) (q0 : Int64) (q1 : Int64) (q2 : Int64) (q3 : Int64) (p4 : Int32) (h0 : Heap) (n0 : Nat) (Z0 : n0 ≤ h0.size) :
    MetFree l x (head1 (Jvm.Cond.code x code maxLocals ret :: ws) room_1) (fun a U => a = #[(.long q0), (.long q1), (.long q2), (.long q3), (.int p4)] ∧ Z.Warmed39 U.vm ∧ U.heap = h0) (fun _ _ _ _ _ => True) (fun _ U o U' => ∃ v L, o = .returned v ∧ own_Q0 Z q0 q1 q2 q3 p4 h0 n0 v U'.heap L ∧ ReturnedEndW U o U' L room_1.cells room_1.slots) := by
  refine MetFree.of_bodySF (plainFor_of_name own_pn41) hisR ?_
  intro p e s m args below meth c s₁ Bd hml0 hP hK
  obtain ⟨rfl, hZ, hh⟩ := hP
  have hx := Bd.exec
  have hby := Bd.bytes
  have hml : c.maxLocals = 18 := hml0
  have hown : s.vm.findClass "com/example/syncline/syncline/store/RecordIsExpiredAtPinLaw" = some m.cls := findClass_of_methodNamed Bd.named
  have hnm := (name_of_methodNamed Bd.named Bd.method).1
  have X0 : Stand p l e room_1 s m #[(.long q0), (.long q1), (.long q2), (.long q3), (.int p4)] below meth c s₁ [] 0 0 := Stand.of_body Bd
  have e0 : s₁.heap = h0 := by rw [← hh, Bd.state]; rfl
  have N0 := Fr.nil n0
  have hS0 : s.Since s.vm s.heap.size := (State.WarmedH.refl s).since _
  have hk0 : s.heap.size ≤ h0.size := Nat.le_of_eq (congrArg Array.size hh)
  have wS := own_wS hw
  have pre0 : ∀ t, Steps p.tables e below (s₁.setTop (mkF m 0 #[.val (.long q0), .second, .val (.long q1), .second, .val (.long q2), .second, .val (.long q3), .second, .val (.int p4), .unset, .unset, .unset, .unset, .unset, .unset, .unset, .unset, .unset] [])) t → Steps p.tables e below (s₁.setTop (entryFrame m #[(.long q0), (.long q1), (.long q2), (.long q3), (.int p4)] maxLocals)) t := fun t k => castTop (own_ef0 m q0 q1 q2 q3 p4) k
  have pre82 : ∀ t, Steps p.tables e below (s₁.setTop (mkF m 4 #[.val (.long q0), .second, .val (.long q1), .second, .val (.long q2), .second, .val (.long q3), .second, .val (.int p4), .unset, .unset, .unset, .unset, .unset, .unset, .unset, .unset, .unset] [(.int (p4 &&& (1 : Int32)))])) t → Steps p.tables e below (s₁.setTop (entryFrame m #[(.long q0), (.long q1), (.long q2), (.long q3), (.int p4)] maxLocals)) t := fun t kk => pre0 t (by
    show Steps p.tables e below (s₁.setTop (mkF m 0 #[.val (.long q0), .second, .val (.long q1), .second, .val (.long q2), .second, .val (.long q3), .second, .val (.int p4), .unset, .unset, .unset, .unset, .unset, .unset, .unset, .unset, .unset] [])) _
    refine XS.iload X0.here hx rfl (hb hby at_0) rfl ?_
    show Steps p.tables e below (s₁.setTop (mkF m 2 #[.val (.long q0), .second, .val (.long q1), .second, .val (.long q2), .second, .val (.long q3), .second, .val (.int p4), .unset, .unset, .unset, .unset, .unset, .unset, .unset, .unset, .unset] [(.int p4)])) _
    refine XS.iconst X0.here hx rfl (hb hby at_2) ?_
    show Steps p.tables e below (s₁.setTop (mkF m 3 #[.val (.long q0), .second, .val (.long q1), .second, .val (.long q2), .second, .val (.long q3), .second, .val (.int p4), .unset, .unset, .unset, .unset, .unset, .unset, .unset, .unset, .unset] [(.int (1 : Int32)), (.int p4)])) _
    refine XS.iand X0.here hx rfl (hb hby at_3) rfl ?_
    show Steps p.tables e below (s₁.setTop (mkF m 4 #[.val (.long q0), .second, .val (.long q1), .second, .val (.long q2), .second, .val (.long q3), .second, .val (.int p4), .unset, .unset, .unset, .unset, .unset, .unset, .unset, .unset, .unset] [(.int (p4 &&& (1 : Int32)))])) _
    exact kk)
  by_cases hc83 : (p4 &&& (1 : Int32)) = (0 : Int32)
  · obtain ⟨b84, T84, h84, k1_84, X84, e84, E84, hS84, hk84, hZ84, hown84, st84⟩ := ldcS (s := s) (vm0 := s.vm) X0 hx hZ hown (hw _ (List.mem_of_getElem? (i := 38) rfl)) wS e0 hS0 hk0 (g := (mkF m 11 #[.val (.long q0), .second, .val (.long q1), .second, .val (.long q2), .second, .val (.long q3), .second, .val (.int p4), .unset, .unset, .unset, .unset, .unset, .unset, .unset, .unset, .unset] [])) rfl (hb hby at_11) (n := 4) (by decide) (by decide) (by decide) (by decide)
    have z85 : n0 ≤ h84.size := Nat.le_trans Z0 E84.1
    have K86 : Keep h0 h84 [] := (Keep.refl h0 []).ext E84
    obtain ⟨T87, h87, X87, e87, E87, A87, D87, -, st87⟩ := newO X84 hx hZ84 hown84 (hw _ (List.mem_of_getElem? (i := 0) rfl)) (hw _ (List.mem_of_getElem? (i := 1) rfl)) (hw _ (List.mem_of_getElem? (i := 2) rfl)) e84 (g := (mkF m 15 #[.val (.long q0), .second, .val (.long q1), .second, .val (.long q2), .second, .val (.long q3), .second, .val (.int p4), .val (.ref b84), .unset, .unset, .unset, .unset, .unset, .unset, .unset, .unset] [])) rfl (hb hby at_15) (by decide) (by decide)
    obtain ⟨b87, g87⟩ : ∃ z, z = h84.size := ⟨_, rfl⟩
    have g_b87 : n0 ≤ b87 := Nat.le_trans z85 (Nat.le_of_eq g87.symm)
    have sz_b87 : h0.size ≤ b87 := Nat.le_trans K86.1 (Nat.le_of_eq g87.symm)
    rw [← g87] at A87 D87 st87
    have z88 : n0 ≤ h87.size := Nat.le_trans z85 E87.1
    have hk89 := Nat.le_trans hk84 E87.1
    have K90 : Keep h0 h87 [] := K86.ext E87
    have f91 : Fld Z h87 b87 "com/example/syncline/syncline/store/Record" "value" "Ljava/lang/String;" .null := D87 (Or.inr (hw _ (List.mem_of_getElem? (i := 18) rfl))) (ty := (.object "java/lang/String")) (by decide)
    have f92 : Fld Z h87 b87 "com/example/syncline/syncline/store/Record" "expiresAtMillis" "J" (.long (0 : Int64)) := D87 (Or.inr (hw _ (List.mem_of_getElem? (i := 20) rfl))) (ty := .long) (by decide)
    have f93 : Fld Z h87 b87 "com/example/syncline/syncline/store/Record" "time" "J" (.long (0 : Int64)) := D87 (Or.inr (hw _ (List.mem_of_getElem? (i := 22) rfl))) (ty := .long) (by decide)
    have f94 : Fld Z h87 b87 "com/example/syncline/syncline/store/Record" "node" "Ljava/lang/String;" .null := D87 (Or.inr (hw _ (List.mem_of_getElem? (i := 24) rfl))) (ty := (.object "java/lang/String")) (by decide)
    obtain ⟨b95, T95, h95, k1_95, X95, e95, E95, hS95, hk95, hZ95, hown95, st95⟩ := ldcS (s := s) (vm0 := T84.vm) X87 hx hZ84 hown84 (hw _ (List.mem_of_getElem? (i := 3) rfl)) wS e87 hS84 hk89 (g := (mkF m 24 #[.val (.long q0), .second, .val (.long q1), .second, .val (.long q2), .second, .val (.long q3), .second, .val (.int p4), .val (.ref b84), .unset, .unset, .unset, .unset, .unset, .unset, .unset, .unset] [(.long q3), (.long q0), (.ref b84), (.ref b87), (.ref b87)])) rfl (hb hby at_24) (n := 4) (by decide) (by decide) (by decide) (by decide)
    have f96 := A87.ext E95
    have f97 := f91.ext E95
    have f98 := f92.ext E95
    have f99 := f93.ext E95
    have f100 := f94.ext E95
    have z101 : n0 ≤ h95.size := Nat.le_trans z88 E95.1
    have K102 : Keep h0 h95 [] := K90.ext E95
    obtain ⟨_, _, ⟨T103, L103, k103, n103⟩, -, X103, ⟨Lc103, hQ103, l103, y103, z103⟩, st103⟩ := X95.specialBack hx (y := (⟨"com/example/syncline/syncline/store/Record", "<init>", "(Ljava/lang/String;JJLjava/lang/String;)V"⟩ : MethodName)) rfl hown95 (mvT hZ95 (hw _ (List.mem_of_getElem? (i := 11) rfl))) (mvT hZ95 (hw _ (List.mem_of_getElem? (i := 12) rfl))) (mvT hZ95 (hw _ (List.mem_of_getElem? (i := 13) rfl))) (by decide) (backOf (W := 1) (own_rmRS l Z av hw [] b87 b84 q0 q3 b95 h95 n0 z101 f96 f97 f98 f99 f100 g_b87) hZ95 (hw _ (List.mem_of_getElem? (i := 13) rfl)) (hw _ (List.mem_of_getElem? (i := 2) rfl)) (by decide) (by decide)) (g := (mkF m 26 #[.val (.long q0), .second, .val (.long q1), .second, .val (.long q2), .second, .val (.long q3), .second, .val (.int p4), .val (.ref b84), .unset, .unset, .unset, .unset, .unset, .unset, .unset, .unset] [(.ref b95), (.long q3), (.long q0), (.ref b84), (.ref b87), (.ref b87)])) rfl (by rw [hml]; rfl) (Steps.refl _) (a := b87) (argsL := [(.ref b84), (.long q0), (.long q3), (.ref b95)]) (rest := [(.ref b87)]) (lenOf own_pd0 rfl) rfl (by show 2 * 0 + _ ≤ _; exact Nat.le_of_eq rfl) (hb hby at_26) (fun _ _ => ⟨rfl, e95, (by decide : 5 + 0 ≤ _), (by decide : 20 + 0 ≤ _)⟩)
    dsimp only [Pt.U, Pt.locs, Pt.cells, Pt.slots] at X103 l103 y103 z103 st103 hQ103
    subst l103 y103 z103
    obtain ⟨rfl, N103q, K103, f105, f106⟩ := hQ103
    have K107 : Keep h0 T103.heap [] := K102.trans K103 (allS (Or.inr sz_b87) all0)
    have z108 : n0 ≤ T103.heap.size := Nat.le_trans z101 K103.1
    have hk109 := Nat.le_trans hk95 K103.1
    have N104 := Fr.app N0 N103q
    obtain ⟨cq110, kq110, q110a, q110b, q110c⟩ := isOf hZ95 rfl f105
    obtain ⟨_, _, ⟨T110, L110, k110, n110⟩, -, X110, ⟨Lc110, hQ110, l110, y110, z110⟩, st110⟩ := X103.virtualBack hx (y := (⟨"com/example/syncline/syncline/store/Record", "isExpiredAt", "(J)Z"⟩ : MethodName)) (z := (⟨"com/example/syncline/syncline/store/Record", "isExpiredAt", "(J)Z"⟩ : MethodName)) hown95 (mvT hZ95 (hw _ (List.mem_of_getElem? (i := 25) rfl))) (mvT hZ95 (hw _ (List.mem_of_getElem? (i := 26) rfl))) (notFace_of_selects (args := #[]) (mvT hZ95 (hw _ (List.mem_of_getElem? (i := 28) rfl)))) (mvT hZ95 (hw _ (List.mem_of_getElem? (i := 28) rfl))) (mvT hZ95 (hw _ (List.mem_of_getElem? (i := 27) rfl))) (by decide) (backOf (W := 0) (own_rm3 l Z av hw [] b87 q0 (q0) T103.heap n0 z108 f106) hZ95 (hw _ (List.mem_of_getElem? (i := 29) rfl)) (hw _ (List.mem_of_getElem? (i := 2) rfl)) (by decide) (by decide)) q110a q110c (g := (mkF m 34 #[.val (.long q0), .second, .val (.long q1), .second, .val (.long q2), .second, .val (.long q3), .second, .val (.int p4), .val (.ref b84), .val (.ref b87), .unset, .unset, .unset, .unset, .unset, .unset, .unset] [(.long q0), (.ref b87)])) rfl (by rw [hml]; rfl) (Steps.refl _) (argsL := [(.long q0)]) (rest := []) (lenOf own_pd1 rfl) rfl (by show 2 * 0 + _ ≤ _; exact Nat.le_of_eq rfl) (hb hby at_34) (fun _ _ => ⟨rfl, rfl, (by decide : 5 + 0 ≤ _), (by decide : 20 + 0 ≤ _)⟩)
    dsimp only [Pt.U, Pt.locs, Pt.cells, Pt.slots] at X110 l110 y110 z110 st110 hQ110
    subst l110 y110 z110
    obtain ⟨rfl, N110q, e112⟩ := hQ110
    have N111 := Fr.app N104 N110q
    obtain ⟨v113, hv113⟩ : ∃ z : Int32, z = (own_f3 q0 q0) := ⟨_, rfl⟩
    have pre114 : ∀ t, Steps p.tables e below (T110.setTop (mkF m 44 #[.val (.long q0), .second, .val (.long q1), .second, .val (.long q2), .second, .val (.long q3), .second, .val (.int p4), .val (.ref b84), .val (.ref b87), .val (.int v113), .unset, .unset, .unset, .unset, .unset, .unset] [(.int (lcmpW q0 (-9223372036854775808 : Int64)))])) t → Steps p.tables e below (s₁.setTop (entryFrame m #[(.long q0), (.long q1), (.long q2), (.long q3), (.int p4)] maxLocals)) t := fun t kk => pre82 t (by
      show Steps p.tables e below (s₁.setTop (mkF m 4 #[.val (.long q0), .second, .val (.long q1), .second, .val (.long q2), .second, .val (.long q3), .second, .val (.int p4), .unset, .unset, .unset, .unset, .unset, .unset, .unset, .unset, .unset] [(.int (p4 &&& (1 : Int32)))])) _
      refine XS.ifYes X0.here hx rfl (pc0 := 4) (pc' := 11) rfl (hb hby at_4) rfl ((if0 _ _).trans (teq hc83).1) (by decide) (by decide) ?_
      show Steps p.tables e below (s₁.setTop (mkF m 11 #[.val (.long q0), .second, .val (.long q1), .second, .val (.long q2), .second, .val (.long q3), .second, .val (.int p4), .unset, .unset, .unset, .unset, .unset, .unset, .unset, .unset, .unset] [])) _
      refine st84 _ ?_
      show Steps p.tables e below (T84.setTop (mkF m 13 #[.val (.long q0), .second, .val (.long q1), .second, .val (.long q2), .second, .val (.long q3), .second, .val (.int p4), .unset, .unset, .unset, .unset, .unset, .unset, .unset, .unset, .unset] [(.ref b84)])) _
      refine XS.astore X84.here hx rfl (hb hby at_13) rfl rfl (l' := #[.val (.long q0), .second, .val (.long q1), .second, .val (.long q2), .second, .val (.long q3), .second, .val (.int p4), .val (.ref b84), .unset, .unset, .unset, .unset, .unset, .unset, .unset, .unset]) rfl ?_
      show Steps p.tables e below (T84.setTop (mkF m 15 #[.val (.long q0), .second, .val (.long q1), .second, .val (.long q2), .second, .val (.long q3), .second, .val (.int p4), .val (.ref b84), .unset, .unset, .unset, .unset, .unset, .unset, .unset, .unset] [])) _
      refine st87 _ ?_
      show Steps p.tables e below (T87.setTop (mkF m 18 #[.val (.long q0), .second, .val (.long q1), .second, .val (.long q2), .second, .val (.long q3), .second, .val (.int p4), .val (.ref b84), .unset, .unset, .unset, .unset, .unset, .unset, .unset, .unset] [(.ref b87)])) _
      refine XS.dup X87.here hx rfl (hb hby at_18) rfl rfl ?_
      show Steps p.tables e below (T87.setTop (mkF m 19 #[.val (.long q0), .second, .val (.long q1), .second, .val (.long q2), .second, .val (.long q3), .second, .val (.int p4), .val (.ref b84), .unset, .unset, .unset, .unset, .unset, .unset, .unset, .unset] [(.ref b87), (.ref b87)])) _
      refine XS.aload X87.here hx rfl (hb hby at_19) rfl rfl ?_
      show Steps p.tables e below (T87.setTop (mkF m 21 #[.val (.long q0), .second, .val (.long q1), .second, .val (.long q2), .second, .val (.long q3), .second, .val (.int p4), .val (.ref b84), .unset, .unset, .unset, .unset, .unset, .unset, .unset, .unset] [(.ref b84), (.ref b87), (.ref b87)])) _
      refine XS.lloadN X87.here hx rfl (hb hby at_21) rfl ?_
      show Steps p.tables e below (T87.setTop (mkF m 22 #[.val (.long q0), .second, .val (.long q1), .second, .val (.long q2), .second, .val (.long q3), .second, .val (.int p4), .val (.ref b84), .unset, .unset, .unset, .unset, .unset, .unset, .unset, .unset] [(.long q0), (.ref b84), (.ref b87), (.ref b87)])) _
      refine XS.lload X87.here hx rfl (hb hby at_22) rfl ?_
      show Steps p.tables e below (T87.setTop (mkF m 24 #[.val (.long q0), .second, .val (.long q1), .second, .val (.long q2), .second, .val (.long q3), .second, .val (.int p4), .val (.ref b84), .unset, .unset, .unset, .unset, .unset, .unset, .unset, .unset] [(.long q3), (.long q0), (.ref b84), (.ref b87), (.ref b87)])) _
      refine st95 _ ?_
      show Steps p.tables e below (T95.setTop (mkF m 26 #[.val (.long q0), .second, .val (.long q1), .second, .val (.long q2), .second, .val (.long q3), .second, .val (.int p4), .val (.ref b84), .unset, .unset, .unset, .unset, .unset, .unset, .unset, .unset] [(.ref b95), (.long q3), (.long q0), (.ref b84), (.ref b87), (.ref b87)])) _
      refine st103.trans ?_
      show Steps p.tables e below (T103.setTop (mkF m 29 #[.val (.long q0), .second, .val (.long q1), .second, .val (.long q2), .second, .val (.long q3), .second, .val (.int p4), .val (.ref b84), .unset, .unset, .unset, .unset, .unset, .unset, .unset, .unset] [(.ref b87)])) _
      refine XS.astore X103.here hx rfl (hb hby at_29) rfl rfl (l' := #[.val (.long q0), .second, .val (.long q1), .second, .val (.long q2), .second, .val (.long q3), .second, .val (.int p4), .val (.ref b84), .val (.ref b87), .unset, .unset, .unset, .unset, .unset, .unset, .unset]) rfl ?_
      show Steps p.tables e below (T103.setTop (mkF m 31 #[.val (.long q0), .second, .val (.long q1), .second, .val (.long q2), .second, .val (.long q3), .second, .val (.int p4), .val (.ref b84), .val (.ref b87), .unset, .unset, .unset, .unset, .unset, .unset, .unset] [])) _
      refine XS.aload X103.here hx rfl (hb hby at_31) rfl rfl ?_
      show Steps p.tables e below (T103.setTop (mkF m 33 #[.val (.long q0), .second, .val (.long q1), .second, .val (.long q2), .second, .val (.long q3), .second, .val (.int p4), .val (.ref b84), .val (.ref b87), .unset, .unset, .unset, .unset, .unset, .unset, .unset] [(.ref b87)])) _
      refine XS.lloadN X103.here hx rfl (hb hby at_33) rfl ?_
      show Steps p.tables e below (T103.setTop (mkF m 34 #[.val (.long q0), .second, .val (.long q1), .second, .val (.long q2), .second, .val (.long q3), .second, .val (.int p4), .val (.ref b84), .val (.ref b87), .unset, .unset, .unset, .unset, .unset, .unset, .unset] [(.long q0), (.ref b87)])) _
      refine st110.trans ?_
      show Steps p.tables e below (T110.setTop (mkF m 37 #[.val (.long q0), .second, .val (.long q1), .second, .val (.long q2), .second, .val (.long q3), .second, .val (.int p4), .val (.ref b84), .val (.ref b87), .unset, .unset, .unset, .unset, .unset, .unset, .unset] [(.int (own_f3 q0 q0))])) _
      refine castTop (congrArg (fun z : Int32 => mkF m 37 #[.val (.long q0), .second, .val (.long q1), .second, .val (.long q2), .second, .val (.long q3), .second, .val (.int p4), .val (.ref b84), .val (.ref b87), .unset, .unset, .unset, .unset, .unset, .unset, .unset] [(.int z)]) hv113.symm) ?_
      show Steps p.tables e below (T110.setTop (mkF m 37 #[.val (.long q0), .second, .val (.long q1), .second, .val (.long q2), .second, .val (.long q3), .second, .val (.int p4), .val (.ref b84), .val (.ref b87), .unset, .unset, .unset, .unset, .unset, .unset, .unset] [(.int v113)])) _
      refine XS.istore X110.here hx rfl (hb hby at_37) rfl (l' := #[.val (.long q0), .second, .val (.long q1), .second, .val (.long q2), .second, .val (.long q3), .second, .val (.int p4), .val (.ref b84), .val (.ref b87), .val (.int v113), .unset, .unset, .unset, .unset, .unset, .unset]) rfl ?_
      show Steps p.tables e below (T110.setTop (mkF m 39 #[.val (.long q0), .second, .val (.long q1), .second, .val (.long q2), .second, .val (.long q3), .second, .val (.int p4), .val (.ref b84), .val (.ref b87), .val (.int v113), .unset, .unset, .unset, .unset, .unset, .unset] [])) _
      refine XS.lloadN X110.here hx rfl (hb hby at_39) rfl ?_
      show Steps p.tables e below (T110.setTop (mkF m 40 #[.val (.long q0), .second, .val (.long q1), .second, .val (.long q2), .second, .val (.long q3), .second, .val (.int p4), .val (.ref b84), .val (.ref b87), .val (.int v113), .unset, .unset, .unset, .unset, .unset, .unset] [(.long q0)])) _
      refine X110.ldc2Long hx hown95 (mvT hZ95 (hw _ (List.mem_of_getElem? (i := 30) rfl))) (g := (mkF m 40 #[.val (.long q0), .second, .val (.long q1), .second, .val (.long q2), .second, .val (.long q3), .second, .val (.int p4), .val (.ref b84), .val (.ref b87), .val (.int v113), .unset, .unset, .unset, .unset, .unset, .unset] [(.long q0)])) rfl (hb hby at_40) _ ?_
      show Steps p.tables e below (T110.setTop (mkF m 43 #[.val (.long q0), .second, .val (.long q1), .second, .val (.long q2), .second, .val (.long q3), .second, .val (.int p4), .val (.ref b84), .val (.ref b87), .val (.int v113), .unset, .unset, .unset, .unset, .unset, .unset] [(.long (-9223372036854775808 : Int64)), (.long q0)])) _
      refine XS.lcmp X110.here hx rfl (hb hby at_43) rfl ?_
      show Steps p.tables e below (T110.setTop (mkF m 44 #[.val (.long q0), .second, .val (.long q1), .second, .val (.long q2), .second, .val (.long q3), .second, .val (.int p4), .val (.ref b84), .val (.ref b87), .val (.int v113), .unset, .unset, .unset, .unset, .unset, .unset] [(.int (lcmpW q0 (-9223372036854775808 : Int64)))])) _
      exact kk)
    by_cases hc115 : q0 = (-9223372036854775808 : Int64)
    · obtain ⟨_, _, ⟨T116, L116, k116, n116⟩, -, X116, ⟨Lc116, hQ116, l116, y116, z116⟩, st116⟩ := Jvm.LawKit.callS X110 hx (y := (⟨"java/lang/Math", "min", "(JJ)J"⟩ : MethodName)) hown95 (mvT hZ95 (hw _ (List.mem_of_getElem? (i := 31) rfl))) (mvT hZ95 (hw _ (List.mem_of_getElem? (i := 32) rfl))) (mvT hZ95 (hw _ (List.mem_of_getElem? (i := 33) rfl))) (mvT hZ95 (hw _ (List.mem_of_getElem? (i := 34) rfl))) (by decide) (backOf (W := 0) (own_rm4 l Z av hw [] q1 q2 T103.heap n0 z108 ) hZ95 (hw _ (List.mem_of_getElem? (i := 34) rfl)) (hw _ (List.mem_of_getElem? (i := 33) rfl)) (by decide) (by decide)) (g := (mkF m 64 #[.val (.long q0), .second, .val (.long q1), .second, .val (.long q2), .second, .val (.long q3), .second, .val (.int p4), .val (.ref b84), .val (.ref b87), .val (.int v113), .val (.int (0 : Int32)), .unset, .unset, .unset, .unset, .unset] [(.long q2), (.long q1)])) rfl (by rw [hml]; rfl) (argsL := [(.long q1), (.long q2)]) (rest := []) (lenOf own_pd2 rfl) rfl (by show 2 * 0 + _ ≤ _; exact Nat.le_of_eq rfl) (hb hby at_64) (fun _ _ => ⟨rfl, e112, (by decide : 5 + 0 ≤ _), (by decide : 20 + 0 ≤ _)⟩)
      dsimp only [Pt.U, Pt.locs, Pt.cells, Pt.slots] at X116 l116 y116 z116 st116 hQ116
      subst l116 y116 z116
      obtain ⟨rfl, N116q, e118⟩ := hQ116
      have N117 := Fr.app N111 N116q
      obtain ⟨v119, hv119⟩ : ∃ z : Int64, z = (own_f4 q1 q2) := ⟨_, rfl⟩
      obtain ⟨_, _, ⟨T120, L120, k120, n120⟩, -, X120, ⟨Lc120, hQ120, l120, y120, z120⟩, st120⟩ := Jvm.LawKit.callS X116 hx (y := (⟨"java/lang/Math", "max", "(JJ)J"⟩ : MethodName)) hown95 (mvT hZ95 (hw _ (List.mem_of_getElem? (i := 35) rfl))) (mvT hZ95 (hw _ (List.mem_of_getElem? (i := 36) rfl))) (mvT hZ95 (hw _ (List.mem_of_getElem? (i := 33) rfl))) (mvT hZ95 (hw _ (List.mem_of_getElem? (i := 37) rfl))) (by decide) (backOf (W := 0) (own_rm5 l Z av hw [] q1 q2 T103.heap n0 z108 ) hZ95 (hw _ (List.mem_of_getElem? (i := 37) rfl)) (hw _ (List.mem_of_getElem? (i := 33) rfl)) (by decide) (by decide)) (g := (mkF m 72 #[.val (.long q0), .second, .val (.long q1), .second, .val (.long q2), .second, .val (.long q3), .second, .val (.int p4), .val (.ref b84), .val (.ref b87), .val (.int v113), .val (.int (0 : Int32)), .val (.long v119), .second, .unset, .unset, .unset] [(.long q2), (.long q1)])) rfl (by rw [hml]; rfl) (argsL := [(.long q1), (.long q2)]) (rest := []) (lenOf own_pd2 rfl) rfl (by show 2 * 0 + _ ≤ _; exact Nat.le_of_eq rfl) (hb hby at_72) (fun _ _ => ⟨rfl, e118, (by decide : 5 + 0 ≤ _), (by decide : 20 + 0 ≤ _)⟩)
      dsimp only [Pt.U, Pt.locs, Pt.cells, Pt.slots] at X120 l120 y120 z120 st120 hQ120
      subst l120 y120 z120
      obtain ⟨rfl, N120q, e122⟩ := hQ120
      have N121 := Fr.app N117 N120q
      obtain ⟨v123, hv123⟩ : ∃ z : Int64, z = (own_f5 q1 q2) := ⟨_, rfl⟩
      obtain ⟨cq124, kq124, q124a, q124b, q124c⟩ := isOf hZ95 e122 f105
      obtain ⟨_, _, ⟨T124, L124, k124, n124⟩, -, X124, ⟨Lc124, hQ124, l124, y124, z124⟩, st124⟩ := X120.virtualBack hx (y := (⟨"com/example/syncline/syncline/store/Record", "isExpiredAt", "(J)Z"⟩ : MethodName)) (z := (⟨"com/example/syncline/syncline/store/Record", "isExpiredAt", "(J)Z"⟩ : MethodName)) hown95 (mvT hZ95 (hw _ (List.mem_of_getElem? (i := 25) rfl))) (mvT hZ95 (hw _ (List.mem_of_getElem? (i := 26) rfl))) (notFace_of_selects (args := #[]) (mvT hZ95 (hw _ (List.mem_of_getElem? (i := 28) rfl)))) (mvT hZ95 (hw _ (List.mem_of_getElem? (i := 28) rfl))) (mvT hZ95 (hw _ (List.mem_of_getElem? (i := 27) rfl))) (by decide) (backOf (W := 0) (own_rm3 l Z av hw [] b87 v119 (q0) T103.heap n0 z108 f106) hZ95 (hw _ (List.mem_of_getElem? (i := 29) rfl)) (hw _ (List.mem_of_getElem? (i := 2) rfl)) (by decide) (by decide)) q124a q124c (g := (mkF m 81 #[.val (.long q0), .second, .val (.long q1), .second, .val (.long q2), .second, .val (.long q3), .second, .val (.int p4), .val (.ref b84), .val (.ref b87), .val (.int v113), .val (.int (0 : Int32)), .val (.long v119), .second, .val (.long v123), .second, .unset] [(.long v119), (.ref b87)])) rfl (by rw [hml]; rfl) (Steps.refl _) (argsL := [(.long v119)]) (rest := []) (lenOf own_pd1 rfl) rfl (by show 2 * 0 + _ ≤ _; exact Nat.le_of_eq rfl) (hb hby at_81) (fun _ _ => ⟨rfl, e122, (by decide : 5 + 0 ≤ _), (by decide : 20 + 0 ≤ _)⟩)
      dsimp only [Pt.U, Pt.locs, Pt.cells, Pt.slots] at X124 l124 y124 z124 st124 hQ124
      subst l124 y124 z124
      obtain ⟨rfl, N124q, e126⟩ := hQ124
      have N125 := Fr.app N121 N124q
      have pre127 : ∀ t, Steps p.tables e below (T124.setTop (mkF m 84 #[.val (.long q0), .second, .val (.long q1), .second, .val (.long q2), .second, .val (.long q3), .second, .val (.int p4), .val (.ref b84), .val (.ref b87), .val (.int v113), .val (.int (0 : Int32)), .val (.long v119), .second, .val (.long v123), .second, .unset] [(.int (own_f3 q0 v119))])) t → Steps p.tables e below (s₁.setTop (entryFrame m #[(.long q0), (.long q1), (.long q2), (.long q3), (.int p4)] maxLocals)) t := fun t kk => pre114 t (by
        show Steps p.tables e below (T110.setTop (mkF m 44 #[.val (.long q0), .second, .val (.long q1), .second, .val (.long q2), .second, .val (.long q3), .second, .val (.int p4), .val (.ref b84), .val (.ref b87), .val (.int v113), .unset, .unset, .unset, .unset, .unset, .unset] [(.int (lcmpW q0 (-9223372036854775808 : Int64)))])) _
        refine XS.ifNo X110.here hx rfl (hb hby at_44) rfl ((if0 _ _).trans (teq ((lw_eq q0 (-9223372036854775808 : Int64)).mpr hc115)).2) ?_
        show Steps p.tables e below (T110.setTop (mkF m 47 #[.val (.long q0), .second, .val (.long q1), .second, .val (.long q2), .second, .val (.long q3), .second, .val (.int p4), .val (.ref b84), .val (.ref b87), .val (.int v113), .unset, .unset, .unset, .unset, .unset, .unset] [])) _
        refine XS.iconst X110.here hx rfl (hb hby at_47) ?_
        show Steps p.tables e below (T110.setTop (mkF m 48 #[.val (.long q0), .second, .val (.long q1), .second, .val (.long q2), .second, .val (.long q3), .second, .val (.int p4), .val (.ref b84), .val (.ref b87), .val (.int v113), .unset, .unset, .unset, .unset, .unset, .unset] [(.int (0 : Int32))])) _
        refine XS.goto X110.here hx rfl (pc0 := 48) (pc' := 59) rfl (hb hby at_48) (by decide) (by decide) ?_
        show Steps p.tables e below (T110.setTop (mkF m 59 #[.val (.long q0), .second, .val (.long q1), .second, .val (.long q2), .second, .val (.long q3), .second, .val (.int p4), .val (.ref b84), .val (.ref b87), .val (.int v113), .unset, .unset, .unset, .unset, .unset, .unset] [(.int (0 : Int32))])) _
        refine XS.istore X110.here hx rfl (hb hby at_59) rfl (l' := #[.val (.long q0), .second, .val (.long q1), .second, .val (.long q2), .second, .val (.long q3), .second, .val (.int p4), .val (.ref b84), .val (.ref b87), .val (.int v113), .val (.int (0 : Int32)), .unset, .unset, .unset, .unset, .unset]) rfl ?_
        show Steps p.tables e below (T110.setTop (mkF m 61 #[.val (.long q0), .second, .val (.long q1), .second, .val (.long q2), .second, .val (.long q3), .second, .val (.int p4), .val (.ref b84), .val (.ref b87), .val (.int v113), .val (.int (0 : Int32)), .unset, .unset, .unset, .unset, .unset] [])) _
        refine XS.lloadN X110.here hx rfl (hb hby at_61) rfl ?_
        show Steps p.tables e below (T110.setTop (mkF m 62 #[.val (.long q0), .second, .val (.long q1), .second, .val (.long q2), .second, .val (.long q3), .second, .val (.int p4), .val (.ref b84), .val (.ref b87), .val (.int v113), .val (.int (0 : Int32)), .unset, .unset, .unset, .unset, .unset] [(.long q1)])) _
        refine XS.lload X110.here hx rfl (hb hby at_62) rfl ?_
        show Steps p.tables e below (T110.setTop (mkF m 64 #[.val (.long q0), .second, .val (.long q1), .second, .val (.long q2), .second, .val (.long q3), .second, .val (.int p4), .val (.ref b84), .val (.ref b87), .val (.int v113), .val (.int (0 : Int32)), .unset, .unset, .unset, .unset, .unset] [(.long q2), (.long q1)])) _
        refine st116 _ ?_
        show Steps p.tables e below (T116.setTop (mkF m 67 #[.val (.long q0), .second, .val (.long q1), .second, .val (.long q2), .second, .val (.long q3), .second, .val (.int p4), .val (.ref b84), .val (.ref b87), .val (.int v113), .val (.int (0 : Int32)), .unset, .unset, .unset, .unset, .unset] [(.long (own_f4 q1 q2))])) _
        refine castTop (congrArg (fun z : Int64 => mkF m 67 #[.val (.long q0), .second, .val (.long q1), .second, .val (.long q2), .second, .val (.long q3), .second, .val (.int p4), .val (.ref b84), .val (.ref b87), .val (.int v113), .val (.int (0 : Int32)), .unset, .unset, .unset, .unset, .unset] [(.long z)]) hv119.symm) ?_
        show Steps p.tables e below (T116.setTop (mkF m 67 #[.val (.long q0), .second, .val (.long q1), .second, .val (.long q2), .second, .val (.long q3), .second, .val (.int p4), .val (.ref b84), .val (.ref b87), .val (.int v113), .val (.int (0 : Int32)), .unset, .unset, .unset, .unset, .unset] [(.long v119)])) _
        refine XS.lstore X116.here hx rfl (hb hby at_67) rfl (l' := #[.val (.long q0), .second, .val (.long q1), .second, .val (.long q2), .second, .val (.long q3), .second, .val (.int p4), .val (.ref b84), .val (.ref b87), .val (.int v113), .val (.int (0 : Int32)), .val (.long v119), .second, .unset, .unset, .unset]) rfl ?_
        show Steps p.tables e below (T116.setTop (mkF m 69 #[.val (.long q0), .second, .val (.long q1), .second, .val (.long q2), .second, .val (.long q3), .second, .val (.int p4), .val (.ref b84), .val (.ref b87), .val (.int v113), .val (.int (0 : Int32)), .val (.long v119), .second, .unset, .unset, .unset] [])) _
        refine XS.lloadN X116.here hx rfl (hb hby at_69) rfl ?_
        show Steps p.tables e below (T116.setTop (mkF m 70 #[.val (.long q0), .second, .val (.long q1), .second, .val (.long q2), .second, .val (.long q3), .second, .val (.int p4), .val (.ref b84), .val (.ref b87), .val (.int v113), .val (.int (0 : Int32)), .val (.long v119), .second, .unset, .unset, .unset] [(.long q1)])) _
        refine XS.lload X116.here hx rfl (hb hby at_70) rfl ?_
        show Steps p.tables e below (T116.setTop (mkF m 72 #[.val (.long q0), .second, .val (.long q1), .second, .val (.long q2), .second, .val (.long q3), .second, .val (.int p4), .val (.ref b84), .val (.ref b87), .val (.int v113), .val (.int (0 : Int32)), .val (.long v119), .second, .unset, .unset, .unset] [(.long q2), (.long q1)])) _
        refine st120 _ ?_
        show Steps p.tables e below (T120.setTop (mkF m 75 #[.val (.long q0), .second, .val (.long q1), .second, .val (.long q2), .second, .val (.long q3), .second, .val (.int p4), .val (.ref b84), .val (.ref b87), .val (.int v113), .val (.int (0 : Int32)), .val (.long v119), .second, .unset, .unset, .unset] [(.long (own_f5 q1 q2))])) _
        refine castTop (congrArg (fun z : Int64 => mkF m 75 #[.val (.long q0), .second, .val (.long q1), .second, .val (.long q2), .second, .val (.long q3), .second, .val (.int p4), .val (.ref b84), .val (.ref b87), .val (.int v113), .val (.int (0 : Int32)), .val (.long v119), .second, .unset, .unset, .unset] [(.long z)]) hv123.symm) ?_
        show Steps p.tables e below (T120.setTop (mkF m 75 #[.val (.long q0), .second, .val (.long q1), .second, .val (.long q2), .second, .val (.long q3), .second, .val (.int p4), .val (.ref b84), .val (.ref b87), .val (.int v113), .val (.int (0 : Int32)), .val (.long v119), .second, .unset, .unset, .unset] [(.long v123)])) _
        refine XS.lstore X120.here hx rfl (hb hby at_75) rfl (l' := #[.val (.long q0), .second, .val (.long q1), .second, .val (.long q2), .second, .val (.long q3), .second, .val (.int p4), .val (.ref b84), .val (.ref b87), .val (.int v113), .val (.int (0 : Int32)), .val (.long v119), .second, .val (.long v123), .second, .unset]) rfl ?_
        show Steps p.tables e below (T120.setTop (mkF m 77 #[.val (.long q0), .second, .val (.long q1), .second, .val (.long q2), .second, .val (.long q3), .second, .val (.int p4), .val (.ref b84), .val (.ref b87), .val (.int v113), .val (.int (0 : Int32)), .val (.long v119), .second, .val (.long v123), .second, .unset] [])) _
        refine XS.aload X120.here hx rfl (hb hby at_77) rfl rfl ?_
        show Steps p.tables e below (T120.setTop (mkF m 79 #[.val (.long q0), .second, .val (.long q1), .second, .val (.long q2), .second, .val (.long q3), .second, .val (.int p4), .val (.ref b84), .val (.ref b87), .val (.int v113), .val (.int (0 : Int32)), .val (.long v119), .second, .val (.long v123), .second, .unset] [(.ref b87)])) _
        refine XS.lload X120.here hx rfl (hb hby at_79) rfl ?_
        show Steps p.tables e below (T120.setTop (mkF m 81 #[.val (.long q0), .second, .val (.long q1), .second, .val (.long q2), .second, .val (.long q3), .second, .val (.int p4), .val (.ref b84), .val (.ref b87), .val (.int v113), .val (.int (0 : Int32)), .val (.long v119), .second, .val (.long v123), .second, .unset] [(.long v119), (.ref b87)])) _
        refine st124.trans ?_
        show Steps p.tables e below (T124.setTop (mkF m 84 #[.val (.long q0), .second, .val (.long q1), .second, .val (.long q2), .second, .val (.long q3), .second, .val (.int p4), .val (.ref b84), .val (.ref b87), .val (.int v113), .val (.int (0 : Int32)), .val (.long v119), .second, .val (.long v123), .second, .unset] [(.int (own_f3 q0 v119))])) _
        exact kk)
      by_cases hc128 : (own_f3 q0 v119) = (0 : Int32)
      · have pre129 : ∀ t, Steps p.tables e below (T124.setTop (mkF m 106 #[.val (.long q0), .second, .val (.long q1), .second, .val (.long q2), .second, .val (.long q3), .second, .val (.int p4), .val (.ref b84), .val (.ref b87), .val (.int v113), .val (.int (0 : Int32)), .val (.long v119), .second, .val (.long v123), .second, .val (.int (1 : Int32))] [(.int v113)])) t → Steps p.tables e below (s₁.setTop (entryFrame m #[(.long q0), (.long q1), (.long q2), (.long q3), (.int p4)] maxLocals)) t := fun t kk => pre127 t (by
          show Steps p.tables e below (T124.setTop (mkF m 84 #[.val (.long q0), .second, .val (.long q1), .second, .val (.long q2), .second, .val (.long q3), .second, .val (.int p4), .val (.ref b84), .val (.ref b87), .val (.int v113), .val (.int (0 : Int32)), .val (.long v119), .second, .val (.long v123), .second, .unset] [(.int (own_f3 q0 v119))])) _
          refine XS.ifYes X124.here hx rfl (pc0 := 84) (pc' := 97) rfl (hb hby at_84) rfl ((if0 _ _).trans (teq hc128).1) (by decide) (by decide) ?_
          show Steps p.tables e below (T124.setTop (mkF m 97 #[.val (.long q0), .second, .val (.long q1), .second, .val (.long q2), .second, .val (.long q3), .second, .val (.int p4), .val (.ref b84), .val (.ref b87), .val (.int v113), .val (.int (0 : Int32)), .val (.long v119), .second, .val (.long v123), .second, .unset] [])) _
          refine XS.iconst X124.here hx rfl (hb hby at_97) ?_
          show Steps p.tables e below (T124.setTop (mkF m 98 #[.val (.long q0), .second, .val (.long q1), .second, .val (.long q2), .second, .val (.long q3), .second, .val (.int p4), .val (.ref b84), .val (.ref b87), .val (.int v113), .val (.int (0 : Int32)), .val (.long v119), .second, .val (.long v123), .second, .unset] [(.int (1 : Int32))])) _
          refine XS.goto X124.here hx rfl (pc0 := 98) (pc' := 102) rfl (hb hby at_98) (by decide) (by decide) ?_
          show Steps p.tables e below (T124.setTop (mkF m 102 #[.val (.long q0), .second, .val (.long q1), .second, .val (.long q2), .second, .val (.long q3), .second, .val (.int p4), .val (.ref b84), .val (.ref b87), .val (.int v113), .val (.int (0 : Int32)), .val (.long v119), .second, .val (.long v123), .second, .unset] [(.int (1 : Int32))])) _
          refine XS.istore X124.here hx rfl (hb hby at_102) rfl (l' := #[.val (.long q0), .second, .val (.long q1), .second, .val (.long q2), .second, .val (.long q3), .second, .val (.int p4), .val (.ref b84), .val (.ref b87), .val (.int v113), .val (.int (0 : Int32)), .val (.long v119), .second, .val (.long v123), .second, .val (.int (1 : Int32))]) rfl ?_
          show Steps p.tables e below (T124.setTop (mkF m 104 #[.val (.long q0), .second, .val (.long q1), .second, .val (.long q2), .second, .val (.long q3), .second, .val (.int p4), .val (.ref b84), .val (.ref b87), .val (.int v113), .val (.int (0 : Int32)), .val (.long v119), .second, .val (.long v123), .second, .val (.int (1 : Int32))] [])) _
          refine XS.iload X124.here hx rfl (hb hby at_104) rfl ?_
          show Steps p.tables e below (T124.setTop (mkF m 106 #[.val (.long q0), .second, .val (.long q1), .second, .val (.long q2), .second, .val (.long q3), .second, .val (.int p4), .val (.ref b84), .val (.ref b87), .val (.int v113), .val (.int (0 : Int32)), .val (.long v119), .second, .val (.long v123), .second, .val (.int (1 : Int32))] [(.int v113)])) _
          exact kk)
        by_cases hc130 : v113 = (0 : Int32)
        · exact (own_leaf0_1 q0 q1 q2 q3 p4 hc83 v113 hv113 hc115 v119 hv119 v123 hv123 hc128 hc130).elim
        · obtain ⟨fs, hr, hrun, hended, hR1, hR2, hR3, hR4⟩ := Stand.leaveW (s := s) (vm₁ := T95.vm) X124 hS95 (by rw [e126]; exact hk109) (v := some (.int (1 : Int32))) (fun h => by rw [Bd.returns] at h; cases h)
          refine ⟨_, _, pre129 _ ?_, hrun, hended, _, _, rfl, ?_, hR1, hR2, hR3, hR4.mono (by decide) (by decide)⟩
          · show Steps p.tables e below (T124.setTop (mkF m 106 #[.val (.long q0), .second, .val (.long q1), .second, .val (.long q2), .second, .val (.long q3), .second, .val (.int p4), .val (.ref b84), .val (.ref b87), .val (.int v113), .val (.int (0 : Int32)), .val (.long v119), .second, .val (.long v123), .second, .val (.int (1 : Int32))] [(.int v113)])) _
            refine XS.ifNo X124.here hx rfl (hb hby at_106) rfl ((if0 _ _).trans (feq hc130).1) ?_
            show Steps p.tables e below (T124.setTop (mkF m 109 #[.val (.long q0), .second, .val (.long q1), .second, .val (.long q2), .second, .val (.long q3), .second, .val (.int p4), .val (.ref b84), .val (.ref b87), .val (.int v113), .val (.int (0 : Int32)), .val (.long v119), .second, .val (.long v123), .second, .val (.int (1 : Int32))] [])) _
            refine XS.iload X124.here hx rfl (hb hby at_109) rfl ?_
            show Steps p.tables e below (T124.setTop (mkF m 111 #[.val (.long q0), .second, .val (.long q1), .second, .val (.long q2), .second, .val (.long q3), .second, .val (.int p4), .val (.ref b84), .val (.ref b87), .val (.int v113), .val (.int (0 : Int32)), .val (.long v119), .second, .val (.long v123), .second, .val (.int (1 : Int32))] [(.int (0 : Int32))])) _
            refine XS.ifNo X124.here hx rfl (hb hby at_111) rfl ((if0 _ _).trans (teq (by decide : (0 : Int32) = (0 : Int32))).2) ?_
            show Steps p.tables e below (T124.setTop (mkF m 114 #[.val (.long q0), .second, .val (.long q1), .second, .val (.long q2), .second, .val (.long q3), .second, .val (.int p4), .val (.ref b84), .val (.ref b87), .val (.int v113), .val (.int (0 : Int32)), .val (.long v119), .second, .val (.long v123), .second, .val (.int (1 : Int32))] [])) _
            refine XS.iload X124.here hx rfl (hb hby at_114) rfl ?_
            show Steps p.tables e below (T124.setTop (mkF m 116 #[.val (.long q0), .second, .val (.long q1), .second, .val (.long q2), .second, .val (.long q3), .second, .val (.int p4), .val (.ref b84), .val (.ref b87), .val (.int v113), .val (.int (0 : Int32)), .val (.long v119), .second, .val (.long v123), .second, .val (.int (1 : Int32))] [(.int (1 : Int32))])) _
            refine XS.ifNo X124.here hx rfl (hb hby at_116) rfl ((if0 _ _).trans (feq (by decide : ¬ ((1 : Int32) = (0 : Int32)))).1) ?_
            show Steps p.tables e below (T124.setTop (mkF m 119 #[.val (.long q0), .second, .val (.long q1), .second, .val (.long q2), .second, .val (.long q3), .second, .val (.int p4), .val (.ref b84), .val (.ref b87), .val (.int v113), .val (.int (0 : Int32)), .val (.long v119), .second, .val (.long v123), .second, .val (.int (1 : Int32))] [])) _
            refine XS.iconst X124.here hx rfl (hb hby at_119) ?_
            show Steps p.tables e below (T124.setTop (mkF m 120 #[.val (.long q0), .second, .val (.long q1), .second, .val (.long q2), .second, .val (.long q3), .second, .val (.int p4), .val (.ref b84), .val (.ref b87), .val (.int v113), .val (.int (0 : Int32)), .val (.long v119), .second, .val (.long v123), .second, .val (.int (1 : Int32))] [(.int (1 : Int32))])) _
            refine XS.goto X124.here hx rfl (pc0 := 120) (pc' := 124) rfl (hb hby at_120) (by decide) (by decide) ?_
            show Steps p.tables e below (T124.setTop (mkF m 124 #[.val (.long q0), .second, .val (.long q1), .second, .val (.long q2), .second, .val (.long q3), .second, .val (.int p4), .val (.ref b84), .val (.ref b87), .val (.int v113), .val (.int (0 : Int32)), .val (.long v119), .second, .val (.long v123), .second, .val (.int (1 : Int32))] [(.int (1 : Int32))])) _
            exact retN X124 hx (t := .boolean) Bd.returns (by simp) (hb hby at_124) hr
          · show own_Q0 Z q0 q1 q2 q3 p4 h0 n0 _ T124.heap _
            rw [e126]
            exact ⟨rfl, N125⟩
      · obtain ⟨cq131, kq131, q131a, q131b, q131c⟩ := isOf hZ95 e126 f105
        obtain ⟨_, _, ⟨T131, L131, k131, n131⟩, -, X131, ⟨Lc131, hQ131, l131, y131, z131⟩, st131⟩ := X124.virtualBack hx (y := (⟨"com/example/syncline/syncline/store/Record", "isExpiredAt", "(J)Z"⟩ : MethodName)) (z := (⟨"com/example/syncline/syncline/store/Record", "isExpiredAt", "(J)Z"⟩ : MethodName)) hown95 (mvT hZ95 (hw _ (List.mem_of_getElem? (i := 25) rfl))) (mvT hZ95 (hw _ (List.mem_of_getElem? (i := 26) rfl))) (notFace_of_selects (args := #[]) (mvT hZ95 (hw _ (List.mem_of_getElem? (i := 28) rfl)))) (mvT hZ95 (hw _ (List.mem_of_getElem? (i := 28) rfl))) (mvT hZ95 (hw _ (List.mem_of_getElem? (i := 27) rfl))) (by decide) (backOf (W := 0) (own_rm3 l Z av hw [] b87 v123 (q0) T103.heap n0 z108 f106) hZ95 (hw _ (List.mem_of_getElem? (i := 29) rfl)) (hw _ (List.mem_of_getElem? (i := 2) rfl)) (by decide) (by decide)) q131a q131c (g := (mkF m 91 #[.val (.long q0), .second, .val (.long q1), .second, .val (.long q2), .second, .val (.long q3), .second, .val (.int p4), .val (.ref b84), .val (.ref b87), .val (.int v113), .val (.int (0 : Int32)), .val (.long v119), .second, .val (.long v123), .second, .unset] [(.long v123), (.ref b87)])) rfl (by rw [hml]; rfl) (Steps.refl _) (argsL := [(.long v123)]) (rest := []) (lenOf own_pd1 rfl) rfl (by show 2 * 0 + _ ≤ _; exact Nat.le_of_eq rfl) (hb hby at_91) (fun _ _ => ⟨rfl, e126, (by decide : 5 + 0 ≤ _), (by decide : 20 + 0 ≤ _)⟩)
        dsimp only [Pt.U, Pt.locs, Pt.cells, Pt.slots] at X131 l131 y131 z131 st131 hQ131
        subst l131 y131 z131
        obtain ⟨rfl, N131q, e133⟩ := hQ131
        have N132 := Fr.app N125 N131q
        have pre134 : ∀ t, Steps p.tables e below (T131.setTop (mkF m 94 #[.val (.long q0), .second, .val (.long q1), .second, .val (.long q2), .second, .val (.long q3), .second, .val (.int p4), .val (.ref b84), .val (.ref b87), .val (.int v113), .val (.int (0 : Int32)), .val (.long v119), .second, .val (.long v123), .second, .unset] [(.int (own_f3 q0 v123))])) t → Steps p.tables e below (s₁.setTop (entryFrame m #[(.long q0), (.long q1), (.long q2), (.long q3), (.int p4)] maxLocals)) t := fun t kk => pre127 t (by
          show Steps p.tables e below (T124.setTop (mkF m 84 #[.val (.long q0), .second, .val (.long q1), .second, .val (.long q2), .second, .val (.long q3), .second, .val (.int p4), .val (.ref b84), .val (.ref b87), .val (.int v113), .val (.int (0 : Int32)), .val (.long v119), .second, .val (.long v123), .second, .unset] [(.int (own_f3 q0 v119))])) _
          refine XS.ifNo X124.here hx rfl (hb hby at_84) rfl ((if0 _ _).trans (feq hc128).1) ?_
          show Steps p.tables e below (T124.setTop (mkF m 87 #[.val (.long q0), .second, .val (.long q1), .second, .val (.long q2), .second, .val (.long q3), .second, .val (.int p4), .val (.ref b84), .val (.ref b87), .val (.int v113), .val (.int (0 : Int32)), .val (.long v119), .second, .val (.long v123), .second, .unset] [])) _
          refine XS.aload X124.here hx rfl (hb hby at_87) rfl rfl ?_
          show Steps p.tables e below (T124.setTop (mkF m 89 #[.val (.long q0), .second, .val (.long q1), .second, .val (.long q2), .second, .val (.long q3), .second, .val (.int p4), .val (.ref b84), .val (.ref b87), .val (.int v113), .val (.int (0 : Int32)), .val (.long v119), .second, .val (.long v123), .second, .unset] [(.ref b87)])) _
          refine XS.lload X124.here hx rfl (hb hby at_89) rfl ?_
          show Steps p.tables e below (T124.setTop (mkF m 91 #[.val (.long q0), .second, .val (.long q1), .second, .val (.long q2), .second, .val (.long q3), .second, .val (.int p4), .val (.ref b84), .val (.ref b87), .val (.int v113), .val (.int (0 : Int32)), .val (.long v119), .second, .val (.long v123), .second, .unset] [(.long v123), (.ref b87)])) _
          refine st131.trans ?_
          show Steps p.tables e below (T131.setTop (mkF m 94 #[.val (.long q0), .second, .val (.long q1), .second, .val (.long q2), .second, .val (.long q3), .second, .val (.int p4), .val (.ref b84), .val (.ref b87), .val (.int v113), .val (.int (0 : Int32)), .val (.long v119), .second, .val (.long v123), .second, .unset] [(.int (own_f3 q0 v123))])) _
          exact kk)
        by_cases hc135 : (own_f3 q0 v123) = (0 : Int32)
        · have pre136 : ∀ t, Steps p.tables e below (T131.setTop (mkF m 106 #[.val (.long q0), .second, .val (.long q1), .second, .val (.long q2), .second, .val (.long q3), .second, .val (.int p4), .val (.ref b84), .val (.ref b87), .val (.int v113), .val (.int (0 : Int32)), .val (.long v119), .second, .val (.long v123), .second, .val (.int (0 : Int32))] [(.int v113)])) t → Steps p.tables e below (s₁.setTop (entryFrame m #[(.long q0), (.long q1), (.long q2), (.long q3), (.int p4)] maxLocals)) t := fun t kk => pre134 t (by
            show Steps p.tables e below (T131.setTop (mkF m 94 #[.val (.long q0), .second, .val (.long q1), .second, .val (.long q2), .second, .val (.long q3), .second, .val (.int p4), .val (.ref b84), .val (.ref b87), .val (.int v113), .val (.int (0 : Int32)), .val (.long v119), .second, .val (.long v123), .second, .unset] [(.int (own_f3 q0 v123))])) _
            refine XS.ifYes X131.here hx rfl (pc0 := 94) (pc' := 101) rfl (hb hby at_94) rfl ((if0 _ _).trans (teq hc135).1) (by decide) (by decide) ?_
            show Steps p.tables e below (T131.setTop (mkF m 101 #[.val (.long q0), .second, .val (.long q1), .second, .val (.long q2), .second, .val (.long q3), .second, .val (.int p4), .val (.ref b84), .val (.ref b87), .val (.int v113), .val (.int (0 : Int32)), .val (.long v119), .second, .val (.long v123), .second, .unset] [])) _
            refine XS.iconst X131.here hx rfl (hb hby at_101) ?_
            show Steps p.tables e below (T131.setTop (mkF m 102 #[.val (.long q0), .second, .val (.long q1), .second, .val (.long q2), .second, .val (.long q3), .second, .val (.int p4), .val (.ref b84), .val (.ref b87), .val (.int v113), .val (.int (0 : Int32)), .val (.long v119), .second, .val (.long v123), .second, .unset] [(.int (0 : Int32))])) _
            refine XS.istore X131.here hx rfl (hb hby at_102) rfl (l' := #[.val (.long q0), .second, .val (.long q1), .second, .val (.long q2), .second, .val (.long q3), .second, .val (.int p4), .val (.ref b84), .val (.ref b87), .val (.int v113), .val (.int (0 : Int32)), .val (.long v119), .second, .val (.long v123), .second, .val (.int (0 : Int32))]) rfl ?_
            show Steps p.tables e below (T131.setTop (mkF m 104 #[.val (.long q0), .second, .val (.long q1), .second, .val (.long q2), .second, .val (.long q3), .second, .val (.int p4), .val (.ref b84), .val (.ref b87), .val (.int v113), .val (.int (0 : Int32)), .val (.long v119), .second, .val (.long v123), .second, .val (.int (0 : Int32))] [])) _
            refine XS.iload X131.here hx rfl (hb hby at_104) rfl ?_
            show Steps p.tables e below (T131.setTop (mkF m 106 #[.val (.long q0), .second, .val (.long q1), .second, .val (.long q2), .second, .val (.long q3), .second, .val (.int p4), .val (.ref b84), .val (.ref b87), .val (.int v113), .val (.int (0 : Int32)), .val (.long v119), .second, .val (.long v123), .second, .val (.int (0 : Int32))] [(.int v113)])) _
            exact kk)
          by_cases hc137 : v113 = (0 : Int32)
          · exact (own_leaf0_3 q0 q1 q2 q3 p4 hc83 v113 hv113 hc115 v119 hv119 v123 hv123 hc128 hc135 hc137).elim
          · exact (own_leaf0_4 q0 q1 q2 q3 p4 hc83 v113 hv113 hc115 v119 hv119 v123 hv123 hc128 hc135 hc137).elim
        · have pre138 : ∀ t, Steps p.tables e below (T131.setTop (mkF m 106 #[.val (.long q0), .second, .val (.long q1), .second, .val (.long q2), .second, .val (.long q3), .second, .val (.int p4), .val (.ref b84), .val (.ref b87), .val (.int v113), .val (.int (0 : Int32)), .val (.long v119), .second, .val (.long v123), .second, .val (.int (1 : Int32))] [(.int v113)])) t → Steps p.tables e below (s₁.setTop (entryFrame m #[(.long q0), (.long q1), (.long q2), (.long q3), (.int p4)] maxLocals)) t := fun t kk => pre134 t (by
            show Steps p.tables e below (T131.setTop (mkF m 94 #[.val (.long q0), .second, .val (.long q1), .second, .val (.long q2), .second, .val (.long q3), .second, .val (.int p4), .val (.ref b84), .val (.ref b87), .val (.int v113), .val (.int (0 : Int32)), .val (.long v119), .second, .val (.long v123), .second, .unset] [(.int (own_f3 q0 v123))])) _
            refine XS.ifNo X131.here hx rfl (hb hby at_94) rfl ((if0 _ _).trans (feq hc135).1) ?_
            show Steps p.tables e below (T131.setTop (mkF m 97 #[.val (.long q0), .second, .val (.long q1), .second, .val (.long q2), .second, .val (.long q3), .second, .val (.int p4), .val (.ref b84), .val (.ref b87), .val (.int v113), .val (.int (0 : Int32)), .val (.long v119), .second, .val (.long v123), .second, .unset] [])) _
            refine XS.iconst X131.here hx rfl (hb hby at_97) ?_
            show Steps p.tables e below (T131.setTop (mkF m 98 #[.val (.long q0), .second, .val (.long q1), .second, .val (.long q2), .second, .val (.long q3), .second, .val (.int p4), .val (.ref b84), .val (.ref b87), .val (.int v113), .val (.int (0 : Int32)), .val (.long v119), .second, .val (.long v123), .second, .unset] [(.int (1 : Int32))])) _
            refine XS.goto X131.here hx rfl (pc0 := 98) (pc' := 102) rfl (hb hby at_98) (by decide) (by decide) ?_
            show Steps p.tables e below (T131.setTop (mkF m 102 #[.val (.long q0), .second, .val (.long q1), .second, .val (.long q2), .second, .val (.long q3), .second, .val (.int p4), .val (.ref b84), .val (.ref b87), .val (.int v113), .val (.int (0 : Int32)), .val (.long v119), .second, .val (.long v123), .second, .unset] [(.int (1 : Int32))])) _
            refine XS.istore X131.here hx rfl (hb hby at_102) rfl (l' := #[.val (.long q0), .second, .val (.long q1), .second, .val (.long q2), .second, .val (.long q3), .second, .val (.int p4), .val (.ref b84), .val (.ref b87), .val (.int v113), .val (.int (0 : Int32)), .val (.long v119), .second, .val (.long v123), .second, .val (.int (1 : Int32))]) rfl ?_
            show Steps p.tables e below (T131.setTop (mkF m 104 #[.val (.long q0), .second, .val (.long q1), .second, .val (.long q2), .second, .val (.long q3), .second, .val (.int p4), .val (.ref b84), .val (.ref b87), .val (.int v113), .val (.int (0 : Int32)), .val (.long v119), .second, .val (.long v123), .second, .val (.int (1 : Int32))] [])) _
            refine XS.iload X131.here hx rfl (hb hby at_104) rfl ?_
            show Steps p.tables e below (T131.setTop (mkF m 106 #[.val (.long q0), .second, .val (.long q1), .second, .val (.long q2), .second, .val (.long q3), .second, .val (.int p4), .val (.ref b84), .val (.ref b87), .val (.int v113), .val (.int (0 : Int32)), .val (.long v119), .second, .val (.long v123), .second, .val (.int (1 : Int32))] [(.int v113)])) _
            exact kk)
          by_cases hc139 : v113 = (0 : Int32)
          · exact (own_leaf0_5 q0 q1 q2 q3 p4 hc83 v113 hv113 hc115 v119 hv119 v123 hv123 hc128 hc135 hc139).elim
          · obtain ⟨fs, hr, hrun, hended, hR1, hR2, hR3, hR4⟩ := Stand.leaveW (s := s) (vm₁ := T95.vm) X131 hS95 (by rw [e133]; exact hk109) (v := some (.int (1 : Int32))) (fun h => by rw [Bd.returns] at h; cases h)
            refine ⟨_, _, pre138 _ ?_, hrun, hended, _, _, rfl, ?_, hR1, hR2, hR3, hR4.mono (by decide) (by decide)⟩
            · show Steps p.tables e below (T131.setTop (mkF m 106 #[.val (.long q0), .second, .val (.long q1), .second, .val (.long q2), .second, .val (.long q3), .second, .val (.int p4), .val (.ref b84), .val (.ref b87), .val (.int v113), .val (.int (0 : Int32)), .val (.long v119), .second, .val (.long v123), .second, .val (.int (1 : Int32))] [(.int v113)])) _
              refine XS.ifNo X131.here hx rfl (hb hby at_106) rfl ((if0 _ _).trans (feq hc139).1) ?_
              show Steps p.tables e below (T131.setTop (mkF m 109 #[.val (.long q0), .second, .val (.long q1), .second, .val (.long q2), .second, .val (.long q3), .second, .val (.int p4), .val (.ref b84), .val (.ref b87), .val (.int v113), .val (.int (0 : Int32)), .val (.long v119), .second, .val (.long v123), .second, .val (.int (1 : Int32))] [])) _
              refine XS.iload X131.here hx rfl (hb hby at_109) rfl ?_
              show Steps p.tables e below (T131.setTop (mkF m 111 #[.val (.long q0), .second, .val (.long q1), .second, .val (.long q2), .second, .val (.long q3), .second, .val (.int p4), .val (.ref b84), .val (.ref b87), .val (.int v113), .val (.int (0 : Int32)), .val (.long v119), .second, .val (.long v123), .second, .val (.int (1 : Int32))] [(.int (0 : Int32))])) _
              refine XS.ifNo X131.here hx rfl (hb hby at_111) rfl ((if0 _ _).trans (teq (by decide : (0 : Int32) = (0 : Int32))).2) ?_
              show Steps p.tables e below (T131.setTop (mkF m 114 #[.val (.long q0), .second, .val (.long q1), .second, .val (.long q2), .second, .val (.long q3), .second, .val (.int p4), .val (.ref b84), .val (.ref b87), .val (.int v113), .val (.int (0 : Int32)), .val (.long v119), .second, .val (.long v123), .second, .val (.int (1 : Int32))] [])) _
              refine XS.iload X131.here hx rfl (hb hby at_114) rfl ?_
              show Steps p.tables e below (T131.setTop (mkF m 116 #[.val (.long q0), .second, .val (.long q1), .second, .val (.long q2), .second, .val (.long q3), .second, .val (.int p4), .val (.ref b84), .val (.ref b87), .val (.int v113), .val (.int (0 : Int32)), .val (.long v119), .second, .val (.long v123), .second, .val (.int (1 : Int32))] [(.int (1 : Int32))])) _
              refine XS.ifNo X131.here hx rfl (hb hby at_116) rfl ((if0 _ _).trans (feq (by decide : ¬ ((1 : Int32) = (0 : Int32)))).1) ?_
              show Steps p.tables e below (T131.setTop (mkF m 119 #[.val (.long q0), .second, .val (.long q1), .second, .val (.long q2), .second, .val (.long q3), .second, .val (.int p4), .val (.ref b84), .val (.ref b87), .val (.int v113), .val (.int (0 : Int32)), .val (.long v119), .second, .val (.long v123), .second, .val (.int (1 : Int32))] [])) _
              refine XS.iconst X131.here hx rfl (hb hby at_119) ?_
              show Steps p.tables e below (T131.setTop (mkF m 120 #[.val (.long q0), .second, .val (.long q1), .second, .val (.long q2), .second, .val (.long q3), .second, .val (.int p4), .val (.ref b84), .val (.ref b87), .val (.int v113), .val (.int (0 : Int32)), .val (.long v119), .second, .val (.long v123), .second, .val (.int (1 : Int32))] [(.int (1 : Int32))])) _
              refine XS.goto X131.here hx rfl (pc0 := 120) (pc' := 124) rfl (hb hby at_120) (by decide) (by decide) ?_
              show Steps p.tables e below (T131.setTop (mkF m 124 #[.val (.long q0), .second, .val (.long q1), .second, .val (.long q2), .second, .val (.long q3), .second, .val (.int p4), .val (.ref b84), .val (.ref b87), .val (.int v113), .val (.int (0 : Int32)), .val (.long v119), .second, .val (.long v123), .second, .val (.int (1 : Int32))] [(.int (1 : Int32))])) _
              exact retN X131 hx (t := .boolean) Bd.returns (by simp) (hb hby at_124) hr
            · show own_Q0 Z q0 q1 q2 q3 p4 h0 n0 _ T131.heap _
              rw [e133]
              exact ⟨rfl, N132⟩
    · obtain ⟨cq140, kq140, q140a, q140b, q140c⟩ := isOf hZ95 e112 f105
      obtain ⟨_, _, ⟨T140, L140, k140, n140⟩, -, X140, ⟨Lc140, hQ140, l140, y140, z140⟩, st140⟩ := X110.virtualBack hx (y := (⟨"com/example/syncline/syncline/store/Record", "isExpiredAt", "(J)Z"⟩ : MethodName)) (z := (⟨"com/example/syncline/syncline/store/Record", "isExpiredAt", "(J)Z"⟩ : MethodName)) hown95 (mvT hZ95 (hw _ (List.mem_of_getElem? (i := 25) rfl))) (mvT hZ95 (hw _ (List.mem_of_getElem? (i := 26) rfl))) (notFace_of_selects (args := #[]) (mvT hZ95 (hw _ (List.mem_of_getElem? (i := 28) rfl)))) (mvT hZ95 (hw _ (List.mem_of_getElem? (i := 28) rfl))) (mvT hZ95 (hw _ (List.mem_of_getElem? (i := 27) rfl))) (by decide) (backOf (W := 0) (own_rm3 l Z av hw [] b87 (q0 - (1 : Int64)) (q0) T103.heap n0 z108 f106) hZ95 (hw _ (List.mem_of_getElem? (i := 29) rfl)) (hw _ (List.mem_of_getElem? (i := 2) rfl)) (by decide) (by decide)) q140a q140c (g := (mkF m 56 #[.val (.long q0), .second, .val (.long q1), .second, .val (.long q2), .second, .val (.long q3), .second, .val (.int p4), .val (.ref b84), .val (.ref b87), .val (.int v113), .unset, .unset, .unset, .unset, .unset, .unset] [(.long (q0 - (1 : Int64))), (.ref b87)])) rfl (by rw [hml]; rfl) (Steps.refl _) (argsL := [(.long (q0 - (1 : Int64)))]) (rest := []) (lenOf own_pd1 rfl) rfl (by show 2 * 0 + _ ≤ _; exact Nat.le_of_eq rfl) (hb hby at_56) (fun _ _ => ⟨rfl, e112, (by decide : 5 + 0 ≤ _), (by decide : 20 + 0 ≤ _)⟩)
      dsimp only [Pt.U, Pt.locs, Pt.cells, Pt.slots] at X140 l140 y140 z140 st140 hQ140
      subst l140 y140 z140
      obtain ⟨rfl, N140q, e142⟩ := hQ140
      have N141 := Fr.app N111 N140q
      obtain ⟨v143, hv143⟩ : ∃ z : Int32, z = (own_f3 q0 (q0 - (1 : Int64))) := ⟨_, rfl⟩
      obtain ⟨_, _, ⟨T144, L144, k144, n144⟩, -, X144, ⟨Lc144, hQ144, l144, y144, z144⟩, st144⟩ := Jvm.LawKit.callS X140 hx (y := (⟨"java/lang/Math", "min", "(JJ)J"⟩ : MethodName)) hown95 (mvT hZ95 (hw _ (List.mem_of_getElem? (i := 31) rfl))) (mvT hZ95 (hw _ (List.mem_of_getElem? (i := 32) rfl))) (mvT hZ95 (hw _ (List.mem_of_getElem? (i := 33) rfl))) (mvT hZ95 (hw _ (List.mem_of_getElem? (i := 34) rfl))) (by decide) (backOf (W := 0) (own_rm4 l Z av hw [] q1 q2 T103.heap n0 z108 ) hZ95 (hw _ (List.mem_of_getElem? (i := 34) rfl)) (hw _ (List.mem_of_getElem? (i := 33) rfl)) (by decide) (by decide)) (g := (mkF m 64 #[.val (.long q0), .second, .val (.long q1), .second, .val (.long q2), .second, .val (.long q3), .second, .val (.int p4), .val (.ref b84), .val (.ref b87), .val (.int v113), .val (.int v143), .unset, .unset, .unset, .unset, .unset] [(.long q2), (.long q1)])) rfl (by rw [hml]; rfl) (argsL := [(.long q1), (.long q2)]) (rest := []) (lenOf own_pd2 rfl) rfl (by show 2 * 0 + _ ≤ _; exact Nat.le_of_eq rfl) (hb hby at_64) (fun _ _ => ⟨rfl, e142, (by decide : 5 + 0 ≤ _), (by decide : 20 + 0 ≤ _)⟩)
      dsimp only [Pt.U, Pt.locs, Pt.cells, Pt.slots] at X144 l144 y144 z144 st144 hQ144
      subst l144 y144 z144
      obtain ⟨rfl, N144q, e146⟩ := hQ144
      have N145 := Fr.app N141 N144q
      obtain ⟨v147, hv147⟩ : ∃ z : Int64, z = (own_f4 q1 q2) := ⟨_, rfl⟩
      obtain ⟨_, _, ⟨T148, L148, k148, n148⟩, -, X148, ⟨Lc148, hQ148, l148, y148, z148⟩, st148⟩ := Jvm.LawKit.callS X144 hx (y := (⟨"java/lang/Math", "max", "(JJ)J"⟩ : MethodName)) hown95 (mvT hZ95 (hw _ (List.mem_of_getElem? (i := 35) rfl))) (mvT hZ95 (hw _ (List.mem_of_getElem? (i := 36) rfl))) (mvT hZ95 (hw _ (List.mem_of_getElem? (i := 33) rfl))) (mvT hZ95 (hw _ (List.mem_of_getElem? (i := 37) rfl))) (by decide) (backOf (W := 0) (own_rm5 l Z av hw [] q1 q2 T103.heap n0 z108 ) hZ95 (hw _ (List.mem_of_getElem? (i := 37) rfl)) (hw _ (List.mem_of_getElem? (i := 33) rfl)) (by decide) (by decide)) (g := (mkF m 72 #[.val (.long q0), .second, .val (.long q1), .second, .val (.long q2), .second, .val (.long q3), .second, .val (.int p4), .val (.ref b84), .val (.ref b87), .val (.int v113), .val (.int v143), .val (.long v147), .second, .unset, .unset, .unset] [(.long q2), (.long q1)])) rfl (by rw [hml]; rfl) (argsL := [(.long q1), (.long q2)]) (rest := []) (lenOf own_pd2 rfl) rfl (by show 2 * 0 + _ ≤ _; exact Nat.le_of_eq rfl) (hb hby at_72) (fun _ _ => ⟨rfl, e146, (by decide : 5 + 0 ≤ _), (by decide : 20 + 0 ≤ _)⟩)
      dsimp only [Pt.U, Pt.locs, Pt.cells, Pt.slots] at X148 l148 y148 z148 st148 hQ148
      subst l148 y148 z148
      obtain ⟨rfl, N148q, e150⟩ := hQ148
      have N149 := Fr.app N145 N148q
      obtain ⟨v151, hv151⟩ : ∃ z : Int64, z = (own_f5 q1 q2) := ⟨_, rfl⟩
      obtain ⟨cq152, kq152, q152a, q152b, q152c⟩ := isOf hZ95 e150 f105
      obtain ⟨_, _, ⟨T152, L152, k152, n152⟩, -, X152, ⟨Lc152, hQ152, l152, y152, z152⟩, st152⟩ := X148.virtualBack hx (y := (⟨"com/example/syncline/syncline/store/Record", "isExpiredAt", "(J)Z"⟩ : MethodName)) (z := (⟨"com/example/syncline/syncline/store/Record", "isExpiredAt", "(J)Z"⟩ : MethodName)) hown95 (mvT hZ95 (hw _ (List.mem_of_getElem? (i := 25) rfl))) (mvT hZ95 (hw _ (List.mem_of_getElem? (i := 26) rfl))) (notFace_of_selects (args := #[]) (mvT hZ95 (hw _ (List.mem_of_getElem? (i := 28) rfl)))) (mvT hZ95 (hw _ (List.mem_of_getElem? (i := 28) rfl))) (mvT hZ95 (hw _ (List.mem_of_getElem? (i := 27) rfl))) (by decide) (backOf (W := 0) (own_rm3 l Z av hw [] b87 v147 (q0) T103.heap n0 z108 f106) hZ95 (hw _ (List.mem_of_getElem? (i := 29) rfl)) (hw _ (List.mem_of_getElem? (i := 2) rfl)) (by decide) (by decide)) q152a q152c (g := (mkF m 81 #[.val (.long q0), .second, .val (.long q1), .second, .val (.long q2), .second, .val (.long q3), .second, .val (.int p4), .val (.ref b84), .val (.ref b87), .val (.int v113), .val (.int v143), .val (.long v147), .second, .val (.long v151), .second, .unset] [(.long v147), (.ref b87)])) rfl (by rw [hml]; rfl) (Steps.refl _) (argsL := [(.long v147)]) (rest := []) (lenOf own_pd1 rfl) rfl (by show 2 * 0 + _ ≤ _; exact Nat.le_of_eq rfl) (hb hby at_81) (fun _ _ => ⟨rfl, e150, (by decide : 5 + 0 ≤ _), (by decide : 20 + 0 ≤ _)⟩)
      dsimp only [Pt.U, Pt.locs, Pt.cells, Pt.slots] at X152 l152 y152 z152 st152 hQ152
      subst l152 y152 z152
      obtain ⟨rfl, N152q, e154⟩ := hQ152
      have N153 := Fr.app N149 N152q
      have pre155 : ∀ t, Steps p.tables e below (T152.setTop (mkF m 84 #[.val (.long q0), .second, .val (.long q1), .second, .val (.long q2), .second, .val (.long q3), .second, .val (.int p4), .val (.ref b84), .val (.ref b87), .val (.int v113), .val (.int v143), .val (.long v147), .second, .val (.long v151), .second, .unset] [(.int (own_f3 q0 v147))])) t → Steps p.tables e below (s₁.setTop (entryFrame m #[(.long q0), (.long q1), (.long q2), (.long q3), (.int p4)] maxLocals)) t := fun t kk => pre114 t (by
        show Steps p.tables e below (T110.setTop (mkF m 44 #[.val (.long q0), .second, .val (.long q1), .second, .val (.long q2), .second, .val (.long q3), .second, .val (.int p4), .val (.ref b84), .val (.ref b87), .val (.int v113), .unset, .unset, .unset, .unset, .unset, .unset] [(.int (lcmpW q0 (-9223372036854775808 : Int64)))])) _
        refine XS.ifYes X110.here hx rfl (pc0 := 44) (pc' := 51) rfl (hb hby at_44) rfl ((if0 _ _).trans (feq (mt (lw_eq q0 (-9223372036854775808 : Int64)).mp hc115)).2) (by decide) (by decide) ?_
        show Steps p.tables e below (T110.setTop (mkF m 51 #[.val (.long q0), .second, .val (.long q1), .second, .val (.long q2), .second, .val (.long q3), .second, .val (.int p4), .val (.ref b84), .val (.ref b87), .val (.int v113), .unset, .unset, .unset, .unset, .unset, .unset] [])) _
        refine XS.aload X110.here hx rfl (hb hby at_51) rfl rfl ?_
        show Steps p.tables e below (T110.setTop (mkF m 53 #[.val (.long q0), .second, .val (.long q1), .second, .val (.long q2), .second, .val (.long q3), .second, .val (.int p4), .val (.ref b84), .val (.ref b87), .val (.int v113), .unset, .unset, .unset, .unset, .unset, .unset] [(.ref b87)])) _
        refine XS.lloadN X110.here hx rfl (hb hby at_53) rfl ?_
        show Steps p.tables e below (T110.setTop (mkF m 54 #[.val (.long q0), .second, .val (.long q1), .second, .val (.long q2), .second, .val (.long q3), .second, .val (.int p4), .val (.ref b84), .val (.ref b87), .val (.int v113), .unset, .unset, .unset, .unset, .unset, .unset] [(.long q0), (.ref b87)])) _
        refine XS.lconst X110.here hx rfl (hb hby at_54) ?_
        show Steps p.tables e below (T110.setTop (mkF m 55 #[.val (.long q0), .second, .val (.long q1), .second, .val (.long q2), .second, .val (.long q3), .second, .val (.int p4), .val (.ref b84), .val (.ref b87), .val (.int v113), .unset, .unset, .unset, .unset, .unset, .unset] [(.long (1 : Int64)), (.long q0), (.ref b87)])) _
        refine XS.lsub X110.here hx rfl (hb hby at_55) rfl ?_
        show Steps p.tables e below (T110.setTop (mkF m 56 #[.val (.long q0), .second, .val (.long q1), .second, .val (.long q2), .second, .val (.long q3), .second, .val (.int p4), .val (.ref b84), .val (.ref b87), .val (.int v113), .unset, .unset, .unset, .unset, .unset, .unset] [(.long (q0 - (1 : Int64))), (.ref b87)])) _
        refine st140.trans ?_
        show Steps p.tables e below (T140.setTop (mkF m 59 #[.val (.long q0), .second, .val (.long q1), .second, .val (.long q2), .second, .val (.long q3), .second, .val (.int p4), .val (.ref b84), .val (.ref b87), .val (.int v113), .unset, .unset, .unset, .unset, .unset, .unset] [(.int (own_f3 q0 (q0 - (1 : Int64))))])) _
        refine castTop (congrArg (fun z : Int32 => mkF m 59 #[.val (.long q0), .second, .val (.long q1), .second, .val (.long q2), .second, .val (.long q3), .second, .val (.int p4), .val (.ref b84), .val (.ref b87), .val (.int v113), .unset, .unset, .unset, .unset, .unset, .unset] [(.int z)]) hv143.symm) ?_
        show Steps p.tables e below (T140.setTop (mkF m 59 #[.val (.long q0), .second, .val (.long q1), .second, .val (.long q2), .second, .val (.long q3), .second, .val (.int p4), .val (.ref b84), .val (.ref b87), .val (.int v113), .unset, .unset, .unset, .unset, .unset, .unset] [(.int v143)])) _
        refine XS.istore X140.here hx rfl (hb hby at_59) rfl (l' := #[.val (.long q0), .second, .val (.long q1), .second, .val (.long q2), .second, .val (.long q3), .second, .val (.int p4), .val (.ref b84), .val (.ref b87), .val (.int v113), .val (.int v143), .unset, .unset, .unset, .unset, .unset]) rfl ?_
        show Steps p.tables e below (T140.setTop (mkF m 61 #[.val (.long q0), .second, .val (.long q1), .second, .val (.long q2), .second, .val (.long q3), .second, .val (.int p4), .val (.ref b84), .val (.ref b87), .val (.int v113), .val (.int v143), .unset, .unset, .unset, .unset, .unset] [])) _
        refine XS.lloadN X140.here hx rfl (hb hby at_61) rfl ?_
        show Steps p.tables e below (T140.setTop (mkF m 62 #[.val (.long q0), .second, .val (.long q1), .second, .val (.long q2), .second, .val (.long q3), .second, .val (.int p4), .val (.ref b84), .val (.ref b87), .val (.int v113), .val (.int v143), .unset, .unset, .unset, .unset, .unset] [(.long q1)])) _
        refine XS.lload X140.here hx rfl (hb hby at_62) rfl ?_
        show Steps p.tables e below (T140.setTop (mkF m 64 #[.val (.long q0), .second, .val (.long q1), .second, .val (.long q2), .second, .val (.long q3), .second, .val (.int p4), .val (.ref b84), .val (.ref b87), .val (.int v113), .val (.int v143), .unset, .unset, .unset, .unset, .unset] [(.long q2), (.long q1)])) _
        refine st144 _ ?_
        show Steps p.tables e below (T144.setTop (mkF m 67 #[.val (.long q0), .second, .val (.long q1), .second, .val (.long q2), .second, .val (.long q3), .second, .val (.int p4), .val (.ref b84), .val (.ref b87), .val (.int v113), .val (.int v143), .unset, .unset, .unset, .unset, .unset] [(.long (own_f4 q1 q2))])) _
        refine castTop (congrArg (fun z : Int64 => mkF m 67 #[.val (.long q0), .second, .val (.long q1), .second, .val (.long q2), .second, .val (.long q3), .second, .val (.int p4), .val (.ref b84), .val (.ref b87), .val (.int v113), .val (.int v143), .unset, .unset, .unset, .unset, .unset] [(.long z)]) hv147.symm) ?_
        show Steps p.tables e below (T144.setTop (mkF m 67 #[.val (.long q0), .second, .val (.long q1), .second, .val (.long q2), .second, .val (.long q3), .second, .val (.int p4), .val (.ref b84), .val (.ref b87), .val (.int v113), .val (.int v143), .unset, .unset, .unset, .unset, .unset] [(.long v147)])) _
        refine XS.lstore X144.here hx rfl (hb hby at_67) rfl (l' := #[.val (.long q0), .second, .val (.long q1), .second, .val (.long q2), .second, .val (.long q3), .second, .val (.int p4), .val (.ref b84), .val (.ref b87), .val (.int v113), .val (.int v143), .val (.long v147), .second, .unset, .unset, .unset]) rfl ?_
        show Steps p.tables e below (T144.setTop (mkF m 69 #[.val (.long q0), .second, .val (.long q1), .second, .val (.long q2), .second, .val (.long q3), .second, .val (.int p4), .val (.ref b84), .val (.ref b87), .val (.int v113), .val (.int v143), .val (.long v147), .second, .unset, .unset, .unset] [])) _
        refine XS.lloadN X144.here hx rfl (hb hby at_69) rfl ?_
        show Steps p.tables e below (T144.setTop (mkF m 70 #[.val (.long q0), .second, .val (.long q1), .second, .val (.long q2), .second, .val (.long q3), .second, .val (.int p4), .val (.ref b84), .val (.ref b87), .val (.int v113), .val (.int v143), .val (.long v147), .second, .unset, .unset, .unset] [(.long q1)])) _
        refine XS.lload X144.here hx rfl (hb hby at_70) rfl ?_
        show Steps p.tables e below (T144.setTop (mkF m 72 #[.val (.long q0), .second, .val (.long q1), .second, .val (.long q2), .second, .val (.long q3), .second, .val (.int p4), .val (.ref b84), .val (.ref b87), .val (.int v113), .val (.int v143), .val (.long v147), .second, .unset, .unset, .unset] [(.long q2), (.long q1)])) _
        refine st148 _ ?_
        show Steps p.tables e below (T148.setTop (mkF m 75 #[.val (.long q0), .second, .val (.long q1), .second, .val (.long q2), .second, .val (.long q3), .second, .val (.int p4), .val (.ref b84), .val (.ref b87), .val (.int v113), .val (.int v143), .val (.long v147), .second, .unset, .unset, .unset] [(.long (own_f5 q1 q2))])) _
        refine castTop (congrArg (fun z : Int64 => mkF m 75 #[.val (.long q0), .second, .val (.long q1), .second, .val (.long q2), .second, .val (.long q3), .second, .val (.int p4), .val (.ref b84), .val (.ref b87), .val (.int v113), .val (.int v143), .val (.long v147), .second, .unset, .unset, .unset] [(.long z)]) hv151.symm) ?_
        show Steps p.tables e below (T148.setTop (mkF m 75 #[.val (.long q0), .second, .val (.long q1), .second, .val (.long q2), .second, .val (.long q3), .second, .val (.int p4), .val (.ref b84), .val (.ref b87), .val (.int v113), .val (.int v143), .val (.long v147), .second, .unset, .unset, .unset] [(.long v151)])) _
        refine XS.lstore X148.here hx rfl (hb hby at_75) rfl (l' := #[.val (.long q0), .second, .val (.long q1), .second, .val (.long q2), .second, .val (.long q3), .second, .val (.int p4), .val (.ref b84), .val (.ref b87), .val (.int v113), .val (.int v143), .val (.long v147), .second, .val (.long v151), .second, .unset]) rfl ?_
        show Steps p.tables e below (T148.setTop (mkF m 77 #[.val (.long q0), .second, .val (.long q1), .second, .val (.long q2), .second, .val (.long q3), .second, .val (.int p4), .val (.ref b84), .val (.ref b87), .val (.int v113), .val (.int v143), .val (.long v147), .second, .val (.long v151), .second, .unset] [])) _
        refine XS.aload X148.here hx rfl (hb hby at_77) rfl rfl ?_
        show Steps p.tables e below (T148.setTop (mkF m 79 #[.val (.long q0), .second, .val (.long q1), .second, .val (.long q2), .second, .val (.long q3), .second, .val (.int p4), .val (.ref b84), .val (.ref b87), .val (.int v113), .val (.int v143), .val (.long v147), .second, .val (.long v151), .second, .unset] [(.ref b87)])) _
        refine XS.lload X148.here hx rfl (hb hby at_79) rfl ?_
        show Steps p.tables e below (T148.setTop (mkF m 81 #[.val (.long q0), .second, .val (.long q1), .second, .val (.long q2), .second, .val (.long q3), .second, .val (.int p4), .val (.ref b84), .val (.ref b87), .val (.int v113), .val (.int v143), .val (.long v147), .second, .val (.long v151), .second, .unset] [(.long v147), (.ref b87)])) _
        refine st152.trans ?_
        show Steps p.tables e below (T152.setTop (mkF m 84 #[.val (.long q0), .second, .val (.long q1), .second, .val (.long q2), .second, .val (.long q3), .second, .val (.int p4), .val (.ref b84), .val (.ref b87), .val (.int v113), .val (.int v143), .val (.long v147), .second, .val (.long v151), .second, .unset] [(.int (own_f3 q0 v147))])) _
        exact kk)
      by_cases hc156 : (own_f3 q0 v147) = (0 : Int32)
      · have pre157 : ∀ t, Steps p.tables e below (T152.setTop (mkF m 106 #[.val (.long q0), .second, .val (.long q1), .second, .val (.long q2), .second, .val (.long q3), .second, .val (.int p4), .val (.ref b84), .val (.ref b87), .val (.int v113), .val (.int v143), .val (.long v147), .second, .val (.long v151), .second, .val (.int (1 : Int32))] [(.int v113)])) t → Steps p.tables e below (s₁.setTop (entryFrame m #[(.long q0), (.long q1), (.long q2), (.long q3), (.int p4)] maxLocals)) t := fun t kk => pre155 t (by
          show Steps p.tables e below (T152.setTop (mkF m 84 #[.val (.long q0), .second, .val (.long q1), .second, .val (.long q2), .second, .val (.long q3), .second, .val (.int p4), .val (.ref b84), .val (.ref b87), .val (.int v113), .val (.int v143), .val (.long v147), .second, .val (.long v151), .second, .unset] [(.int (own_f3 q0 v147))])) _
          refine XS.ifYes X152.here hx rfl (pc0 := 84) (pc' := 97) rfl (hb hby at_84) rfl ((if0 _ _).trans (teq hc156).1) (by decide) (by decide) ?_
          show Steps p.tables e below (T152.setTop (mkF m 97 #[.val (.long q0), .second, .val (.long q1), .second, .val (.long q2), .second, .val (.long q3), .second, .val (.int p4), .val (.ref b84), .val (.ref b87), .val (.int v113), .val (.int v143), .val (.long v147), .second, .val (.long v151), .second, .unset] [])) _
          refine XS.iconst X152.here hx rfl (hb hby at_97) ?_
          show Steps p.tables e below (T152.setTop (mkF m 98 #[.val (.long q0), .second, .val (.long q1), .second, .val (.long q2), .second, .val (.long q3), .second, .val (.int p4), .val (.ref b84), .val (.ref b87), .val (.int v113), .val (.int v143), .val (.long v147), .second, .val (.long v151), .second, .unset] [(.int (1 : Int32))])) _
          refine XS.goto X152.here hx rfl (pc0 := 98) (pc' := 102) rfl (hb hby at_98) (by decide) (by decide) ?_
          show Steps p.tables e below (T152.setTop (mkF m 102 #[.val (.long q0), .second, .val (.long q1), .second, .val (.long q2), .second, .val (.long q3), .second, .val (.int p4), .val (.ref b84), .val (.ref b87), .val (.int v113), .val (.int v143), .val (.long v147), .second, .val (.long v151), .second, .unset] [(.int (1 : Int32))])) _
          refine XS.istore X152.here hx rfl (hb hby at_102) rfl (l' := #[.val (.long q0), .second, .val (.long q1), .second, .val (.long q2), .second, .val (.long q3), .second, .val (.int p4), .val (.ref b84), .val (.ref b87), .val (.int v113), .val (.int v143), .val (.long v147), .second, .val (.long v151), .second, .val (.int (1 : Int32))]) rfl ?_
          show Steps p.tables e below (T152.setTop (mkF m 104 #[.val (.long q0), .second, .val (.long q1), .second, .val (.long q2), .second, .val (.long q3), .second, .val (.int p4), .val (.ref b84), .val (.ref b87), .val (.int v113), .val (.int v143), .val (.long v147), .second, .val (.long v151), .second, .val (.int (1 : Int32))] [])) _
          refine XS.iload X152.here hx rfl (hb hby at_104) rfl ?_
          show Steps p.tables e below (T152.setTop (mkF m 106 #[.val (.long q0), .second, .val (.long q1), .second, .val (.long q2), .second, .val (.long q3), .second, .val (.int p4), .val (.ref b84), .val (.ref b87), .val (.int v113), .val (.int v143), .val (.long v147), .second, .val (.long v151), .second, .val (.int (1 : Int32))] [(.int v113)])) _
          exact kk)
        by_cases hc158 : v113 = (0 : Int32)
        · exact (own_leaf0_7 q0 q1 q2 q3 p4 hc83 v113 hv113 hc115 v143 hv143 v147 hv147 v151 hv151 hc156 hc158).elim
        · have pre159 : ∀ t, Steps p.tables e below (T152.setTop (mkF m 111 #[.val (.long q0), .second, .val (.long q1), .second, .val (.long q2), .second, .val (.long q3), .second, .val (.int p4), .val (.ref b84), .val (.ref b87), .val (.int v113), .val (.int v143), .val (.long v147), .second, .val (.long v151), .second, .val (.int (1 : Int32))] [(.int v143)])) t → Steps p.tables e below (s₁.setTop (entryFrame m #[(.long q0), (.long q1), (.long q2), (.long q3), (.int p4)] maxLocals)) t := fun t kk => pre157 t (by
            show Steps p.tables e below (T152.setTop (mkF m 106 #[.val (.long q0), .second, .val (.long q1), .second, .val (.long q2), .second, .val (.long q3), .second, .val (.int p4), .val (.ref b84), .val (.ref b87), .val (.int v113), .val (.int v143), .val (.long v147), .second, .val (.long v151), .second, .val (.int (1 : Int32))] [(.int v113)])) _
            refine XS.ifNo X152.here hx rfl (hb hby at_106) rfl ((if0 _ _).trans (feq hc158).1) ?_
            show Steps p.tables e below (T152.setTop (mkF m 109 #[.val (.long q0), .second, .val (.long q1), .second, .val (.long q2), .second, .val (.long q3), .second, .val (.int p4), .val (.ref b84), .val (.ref b87), .val (.int v113), .val (.int v143), .val (.long v147), .second, .val (.long v151), .second, .val (.int (1 : Int32))] [])) _
            refine XS.iload X152.here hx rfl (hb hby at_109) rfl ?_
            show Steps p.tables e below (T152.setTop (mkF m 111 #[.val (.long q0), .second, .val (.long q1), .second, .val (.long q2), .second, .val (.long q3), .second, .val (.int p4), .val (.ref b84), .val (.ref b87), .val (.int v113), .val (.int v143), .val (.long v147), .second, .val (.long v151), .second, .val (.int (1 : Int32))] [(.int v143)])) _
            exact kk)
          by_cases hc160 : v143 = (0 : Int32)
          · obtain ⟨fs, hr, hrun, hended, hR1, hR2, hR3, hR4⟩ := Stand.leaveW (s := s) (vm₁ := T95.vm) X152 hS95 (by rw [e154]; exact hk109) (v := some (.int (1 : Int32))) (fun h => by rw [Bd.returns] at h; cases h)
            refine ⟨_, _, pre159 _ ?_, hrun, hended, _, _, rfl, ?_, hR1, hR2, hR3, hR4.mono (by decide) (by decide)⟩
            · show Steps p.tables e below (T152.setTop (mkF m 111 #[.val (.long q0), .second, .val (.long q1), .second, .val (.long q2), .second, .val (.long q3), .second, .val (.int p4), .val (.ref b84), .val (.ref b87), .val (.int v113), .val (.int v143), .val (.long v147), .second, .val (.long v151), .second, .val (.int (1 : Int32))] [(.int v143)])) _
              refine XS.ifNo X152.here hx rfl (hb hby at_111) rfl ((if0 _ _).trans (teq hc160).2) ?_
              show Steps p.tables e below (T152.setTop (mkF m 114 #[.val (.long q0), .second, .val (.long q1), .second, .val (.long q2), .second, .val (.long q3), .second, .val (.int p4), .val (.ref b84), .val (.ref b87), .val (.int v113), .val (.int v143), .val (.long v147), .second, .val (.long v151), .second, .val (.int (1 : Int32))] [])) _
              refine XS.iload X152.here hx rfl (hb hby at_114) rfl ?_
              show Steps p.tables e below (T152.setTop (mkF m 116 #[.val (.long q0), .second, .val (.long q1), .second, .val (.long q2), .second, .val (.long q3), .second, .val (.int p4), .val (.ref b84), .val (.ref b87), .val (.int v113), .val (.int v143), .val (.long v147), .second, .val (.long v151), .second, .val (.int (1 : Int32))] [(.int (1 : Int32))])) _
              refine XS.ifNo X152.here hx rfl (hb hby at_116) rfl ((if0 _ _).trans (feq (by decide : ¬ ((1 : Int32) = (0 : Int32)))).1) ?_
              show Steps p.tables e below (T152.setTop (mkF m 119 #[.val (.long q0), .second, .val (.long q1), .second, .val (.long q2), .second, .val (.long q3), .second, .val (.int p4), .val (.ref b84), .val (.ref b87), .val (.int v113), .val (.int v143), .val (.long v147), .second, .val (.long v151), .second, .val (.int (1 : Int32))] [])) _
              refine XS.iconst X152.here hx rfl (hb hby at_119) ?_
              show Steps p.tables e below (T152.setTop (mkF m 120 #[.val (.long q0), .second, .val (.long q1), .second, .val (.long q2), .second, .val (.long q3), .second, .val (.int p4), .val (.ref b84), .val (.ref b87), .val (.int v113), .val (.int v143), .val (.long v147), .second, .val (.long v151), .second, .val (.int (1 : Int32))] [(.int (1 : Int32))])) _
              refine XS.goto X152.here hx rfl (pc0 := 120) (pc' := 124) rfl (hb hby at_120) (by decide) (by decide) ?_
              show Steps p.tables e below (T152.setTop (mkF m 124 #[.val (.long q0), .second, .val (.long q1), .second, .val (.long q2), .second, .val (.long q3), .second, .val (.int p4), .val (.ref b84), .val (.ref b87), .val (.int v113), .val (.int v143), .val (.long v147), .second, .val (.long v151), .second, .val (.int (1 : Int32))] [(.int (1 : Int32))])) _
              exact retN X152 hx (t := .boolean) Bd.returns (by simp) (hb hby at_124) hr
            · show own_Q0 Z q0 q1 q2 q3 p4 h0 n0 _ T152.heap _
              rw [e154]
              exact ⟨rfl, N153⟩
          · exact (own_leaf0_9 q0 q1 q2 q3 p4 hc83 v113 hv113 hc115 v143 hv143 v147 hv147 v151 hv151 hc156 hc158 hc160).elim
      · obtain ⟨cq161, kq161, q161a, q161b, q161c⟩ := isOf hZ95 e154 f105
        obtain ⟨_, _, ⟨T161, L161, k161, n161⟩, -, X161, ⟨Lc161, hQ161, l161, y161, z161⟩, st161⟩ := X152.virtualBack hx (y := (⟨"com/example/syncline/syncline/store/Record", "isExpiredAt", "(J)Z"⟩ : MethodName)) (z := (⟨"com/example/syncline/syncline/store/Record", "isExpiredAt", "(J)Z"⟩ : MethodName)) hown95 (mvT hZ95 (hw _ (List.mem_of_getElem? (i := 25) rfl))) (mvT hZ95 (hw _ (List.mem_of_getElem? (i := 26) rfl))) (notFace_of_selects (args := #[]) (mvT hZ95 (hw _ (List.mem_of_getElem? (i := 28) rfl)))) (mvT hZ95 (hw _ (List.mem_of_getElem? (i := 28) rfl))) (mvT hZ95 (hw _ (List.mem_of_getElem? (i := 27) rfl))) (by decide) (backOf (W := 0) (own_rm3 l Z av hw [] b87 v151 (q0) T103.heap n0 z108 f106) hZ95 (hw _ (List.mem_of_getElem? (i := 29) rfl)) (hw _ (List.mem_of_getElem? (i := 2) rfl)) (by decide) (by decide)) q161a q161c (g := (mkF m 91 #[.val (.long q0), .second, .val (.long q1), .second, .val (.long q2), .second, .val (.long q3), .second, .val (.int p4), .val (.ref b84), .val (.ref b87), .val (.int v113), .val (.int v143), .val (.long v147), .second, .val (.long v151), .second, .unset] [(.long v151), (.ref b87)])) rfl (by rw [hml]; rfl) (Steps.refl _) (argsL := [(.long v151)]) (rest := []) (lenOf own_pd1 rfl) rfl (by show 2 * 0 + _ ≤ _; exact Nat.le_of_eq rfl) (hb hby at_91) (fun _ _ => ⟨rfl, e154, (by decide : 5 + 0 ≤ _), (by decide : 20 + 0 ≤ _)⟩)
        dsimp only [Pt.U, Pt.locs, Pt.cells, Pt.slots] at X161 l161 y161 z161 st161 hQ161
        subst l161 y161 z161
        obtain ⟨rfl, N161q, e163⟩ := hQ161
        have N162 := Fr.app N153 N161q
        have pre164 : ∀ t, Steps p.tables e below (T161.setTop (mkF m 94 #[.val (.long q0), .second, .val (.long q1), .second, .val (.long q2), .second, .val (.long q3), .second, .val (.int p4), .val (.ref b84), .val (.ref b87), .val (.int v113), .val (.int v143), .val (.long v147), .second, .val (.long v151), .second, .unset] [(.int (own_f3 q0 v151))])) t → Steps p.tables e below (s₁.setTop (entryFrame m #[(.long q0), (.long q1), (.long q2), (.long q3), (.int p4)] maxLocals)) t := fun t kk => pre155 t (by
          show Steps p.tables e below (T152.setTop (mkF m 84 #[.val (.long q0), .second, .val (.long q1), .second, .val (.long q2), .second, .val (.long q3), .second, .val (.int p4), .val (.ref b84), .val (.ref b87), .val (.int v113), .val (.int v143), .val (.long v147), .second, .val (.long v151), .second, .unset] [(.int (own_f3 q0 v147))])) _
          refine XS.ifNo X152.here hx rfl (hb hby at_84) rfl ((if0 _ _).trans (feq hc156).1) ?_
          show Steps p.tables e below (T152.setTop (mkF m 87 #[.val (.long q0), .second, .val (.long q1), .second, .val (.long q2), .second, .val (.long q3), .second, .val (.int p4), .val (.ref b84), .val (.ref b87), .val (.int v113), .val (.int v143), .val (.long v147), .second, .val (.long v151), .second, .unset] [])) _
          refine XS.aload X152.here hx rfl (hb hby at_87) rfl rfl ?_
          show Steps p.tables e below (T152.setTop (mkF m 89 #[.val (.long q0), .second, .val (.long q1), .second, .val (.long q2), .second, .val (.long q3), .second, .val (.int p4), .val (.ref b84), .val (.ref b87), .val (.int v113), .val (.int v143), .val (.long v147), .second, .val (.long v151), .second, .unset] [(.ref b87)])) _
          refine XS.lload X152.here hx rfl (hb hby at_89) rfl ?_
          show Steps p.tables e below (T152.setTop (mkF m 91 #[.val (.long q0), .second, .val (.long q1), .second, .val (.long q2), .second, .val (.long q3), .second, .val (.int p4), .val (.ref b84), .val (.ref b87), .val (.int v113), .val (.int v143), .val (.long v147), .second, .val (.long v151), .second, .unset] [(.long v151), (.ref b87)])) _
          refine st161.trans ?_
          show Steps p.tables e below (T161.setTop (mkF m 94 #[.val (.long q0), .second, .val (.long q1), .second, .val (.long q2), .second, .val (.long q3), .second, .val (.int p4), .val (.ref b84), .val (.ref b87), .val (.int v113), .val (.int v143), .val (.long v147), .second, .val (.long v151), .second, .unset] [(.int (own_f3 q0 v151))])) _
          exact kk)
        by_cases hc165 : (own_f3 q0 v151) = (0 : Int32)
        · have pre166 : ∀ t, Steps p.tables e below (T161.setTop (mkF m 106 #[.val (.long q0), .second, .val (.long q1), .second, .val (.long q2), .second, .val (.long q3), .second, .val (.int p4), .val (.ref b84), .val (.ref b87), .val (.int v113), .val (.int v143), .val (.long v147), .second, .val (.long v151), .second, .val (.int (0 : Int32))] [(.int v113)])) t → Steps p.tables e below (s₁.setTop (entryFrame m #[(.long q0), (.long q1), (.long q2), (.long q3), (.int p4)] maxLocals)) t := fun t kk => pre164 t (by
            show Steps p.tables e below (T161.setTop (mkF m 94 #[.val (.long q0), .second, .val (.long q1), .second, .val (.long q2), .second, .val (.long q3), .second, .val (.int p4), .val (.ref b84), .val (.ref b87), .val (.int v113), .val (.int v143), .val (.long v147), .second, .val (.long v151), .second, .unset] [(.int (own_f3 q0 v151))])) _
            refine XS.ifYes X161.here hx rfl (pc0 := 94) (pc' := 101) rfl (hb hby at_94) rfl ((if0 _ _).trans (teq hc165).1) (by decide) (by decide) ?_
            show Steps p.tables e below (T161.setTop (mkF m 101 #[.val (.long q0), .second, .val (.long q1), .second, .val (.long q2), .second, .val (.long q3), .second, .val (.int p4), .val (.ref b84), .val (.ref b87), .val (.int v113), .val (.int v143), .val (.long v147), .second, .val (.long v151), .second, .unset] [])) _
            refine XS.iconst X161.here hx rfl (hb hby at_101) ?_
            show Steps p.tables e below (T161.setTop (mkF m 102 #[.val (.long q0), .second, .val (.long q1), .second, .val (.long q2), .second, .val (.long q3), .second, .val (.int p4), .val (.ref b84), .val (.ref b87), .val (.int v113), .val (.int v143), .val (.long v147), .second, .val (.long v151), .second, .unset] [(.int (0 : Int32))])) _
            refine XS.istore X161.here hx rfl (hb hby at_102) rfl (l' := #[.val (.long q0), .second, .val (.long q1), .second, .val (.long q2), .second, .val (.long q3), .second, .val (.int p4), .val (.ref b84), .val (.ref b87), .val (.int v113), .val (.int v143), .val (.long v147), .second, .val (.long v151), .second, .val (.int (0 : Int32))]) rfl ?_
            show Steps p.tables e below (T161.setTop (mkF m 104 #[.val (.long q0), .second, .val (.long q1), .second, .val (.long q2), .second, .val (.long q3), .second, .val (.int p4), .val (.ref b84), .val (.ref b87), .val (.int v113), .val (.int v143), .val (.long v147), .second, .val (.long v151), .second, .val (.int (0 : Int32))] [])) _
            refine XS.iload X161.here hx rfl (hb hby at_104) rfl ?_
            show Steps p.tables e below (T161.setTop (mkF m 106 #[.val (.long q0), .second, .val (.long q1), .second, .val (.long q2), .second, .val (.long q3), .second, .val (.int p4), .val (.ref b84), .val (.ref b87), .val (.int v113), .val (.int v143), .val (.long v147), .second, .val (.long v151), .second, .val (.int (0 : Int32))] [(.int v113)])) _
            exact kk)
          by_cases hc167 : v113 = (0 : Int32)
          · exact (own_leaf0_10 q0 q1 q2 q3 p4 hc83 v113 hv113 hc115 v143 hv143 v147 hv147 v151 hv151 hc156 hc165 hc167).elim
          · have pre168 : ∀ t, Steps p.tables e below (T161.setTop (mkF m 111 #[.val (.long q0), .second, .val (.long q1), .second, .val (.long q2), .second, .val (.long q3), .second, .val (.int p4), .val (.ref b84), .val (.ref b87), .val (.int v113), .val (.int v143), .val (.long v147), .second, .val (.long v151), .second, .val (.int (0 : Int32))] [(.int v143)])) t → Steps p.tables e below (s₁.setTop (entryFrame m #[(.long q0), (.long q1), (.long q2), (.long q3), (.int p4)] maxLocals)) t := fun t kk => pre166 t (by
              show Steps p.tables e below (T161.setTop (mkF m 106 #[.val (.long q0), .second, .val (.long q1), .second, .val (.long q2), .second, .val (.long q3), .second, .val (.int p4), .val (.ref b84), .val (.ref b87), .val (.int v113), .val (.int v143), .val (.long v147), .second, .val (.long v151), .second, .val (.int (0 : Int32))] [(.int v113)])) _
              refine XS.ifNo X161.here hx rfl (hb hby at_106) rfl ((if0 _ _).trans (feq hc167).1) ?_
              show Steps p.tables e below (T161.setTop (mkF m 109 #[.val (.long q0), .second, .val (.long q1), .second, .val (.long q2), .second, .val (.long q3), .second, .val (.int p4), .val (.ref b84), .val (.ref b87), .val (.int v113), .val (.int v143), .val (.long v147), .second, .val (.long v151), .second, .val (.int (0 : Int32))] [])) _
              refine XS.iload X161.here hx rfl (hb hby at_109) rfl ?_
              show Steps p.tables e below (T161.setTop (mkF m 111 #[.val (.long q0), .second, .val (.long q1), .second, .val (.long q2), .second, .val (.long q3), .second, .val (.int p4), .val (.ref b84), .val (.ref b87), .val (.int v113), .val (.int v143), .val (.long v147), .second, .val (.long v151), .second, .val (.int (0 : Int32))] [(.int v143)])) _
              exact kk)
            by_cases hc169 : v143 = (0 : Int32)
            · exact (own_leaf0_11 q0 q1 q2 q3 p4 hc83 v113 hv113 hc115 v143 hv143 v147 hv147 v151 hv151 hc156 hc165 hc167 hc169).elim
            · exact (own_leaf0_12 q0 q1 q2 q3 p4 hc83 v113 hv113 hc115 v143 hv143 v147 hv147 v151 hv151 hc156 hc165 hc167 hc169).elim
        · have pre170 : ∀ t, Steps p.tables e below (T161.setTop (mkF m 106 #[.val (.long q0), .second, .val (.long q1), .second, .val (.long q2), .second, .val (.long q3), .second, .val (.int p4), .val (.ref b84), .val (.ref b87), .val (.int v113), .val (.int v143), .val (.long v147), .second, .val (.long v151), .second, .val (.int (1 : Int32))] [(.int v113)])) t → Steps p.tables e below (s₁.setTop (entryFrame m #[(.long q0), (.long q1), (.long q2), (.long q3), (.int p4)] maxLocals)) t := fun t kk => pre164 t (by
            show Steps p.tables e below (T161.setTop (mkF m 94 #[.val (.long q0), .second, .val (.long q1), .second, .val (.long q2), .second, .val (.long q3), .second, .val (.int p4), .val (.ref b84), .val (.ref b87), .val (.int v113), .val (.int v143), .val (.long v147), .second, .val (.long v151), .second, .unset] [(.int (own_f3 q0 v151))])) _
            refine XS.ifNo X161.here hx rfl (hb hby at_94) rfl ((if0 _ _).trans (feq hc165).1) ?_
            show Steps p.tables e below (T161.setTop (mkF m 97 #[.val (.long q0), .second, .val (.long q1), .second, .val (.long q2), .second, .val (.long q3), .second, .val (.int p4), .val (.ref b84), .val (.ref b87), .val (.int v113), .val (.int v143), .val (.long v147), .second, .val (.long v151), .second, .unset] [])) _
            refine XS.iconst X161.here hx rfl (hb hby at_97) ?_
            show Steps p.tables e below (T161.setTop (mkF m 98 #[.val (.long q0), .second, .val (.long q1), .second, .val (.long q2), .second, .val (.long q3), .second, .val (.int p4), .val (.ref b84), .val (.ref b87), .val (.int v113), .val (.int v143), .val (.long v147), .second, .val (.long v151), .second, .unset] [(.int (1 : Int32))])) _
            refine XS.goto X161.here hx rfl (pc0 := 98) (pc' := 102) rfl (hb hby at_98) (by decide) (by decide) ?_
            show Steps p.tables e below (T161.setTop (mkF m 102 #[.val (.long q0), .second, .val (.long q1), .second, .val (.long q2), .second, .val (.long q3), .second, .val (.int p4), .val (.ref b84), .val (.ref b87), .val (.int v113), .val (.int v143), .val (.long v147), .second, .val (.long v151), .second, .unset] [(.int (1 : Int32))])) _
            refine XS.istore X161.here hx rfl (hb hby at_102) rfl (l' := #[.val (.long q0), .second, .val (.long q1), .second, .val (.long q2), .second, .val (.long q3), .second, .val (.int p4), .val (.ref b84), .val (.ref b87), .val (.int v113), .val (.int v143), .val (.long v147), .second, .val (.long v151), .second, .val (.int (1 : Int32))]) rfl ?_
            show Steps p.tables e below (T161.setTop (mkF m 104 #[.val (.long q0), .second, .val (.long q1), .second, .val (.long q2), .second, .val (.long q3), .second, .val (.int p4), .val (.ref b84), .val (.ref b87), .val (.int v113), .val (.int v143), .val (.long v147), .second, .val (.long v151), .second, .val (.int (1 : Int32))] [])) _
            refine XS.iload X161.here hx rfl (hb hby at_104) rfl ?_
            show Steps p.tables e below (T161.setTop (mkF m 106 #[.val (.long q0), .second, .val (.long q1), .second, .val (.long q2), .second, .val (.long q3), .second, .val (.int p4), .val (.ref b84), .val (.ref b87), .val (.int v113), .val (.int v143), .val (.long v147), .second, .val (.long v151), .second, .val (.int (1 : Int32))] [(.int v113)])) _
            exact kk)
          by_cases hc171 : v113 = (0 : Int32)
          · exact (own_leaf0_13 q0 q1 q2 q3 p4 hc83 v113 hv113 hc115 v143 hv143 v147 hv147 v151 hv151 hc156 hc165 hc171).elim
          · have pre172 : ∀ t, Steps p.tables e below (T161.setTop (mkF m 111 #[.val (.long q0), .second, .val (.long q1), .second, .val (.long q2), .second, .val (.long q3), .second, .val (.int p4), .val (.ref b84), .val (.ref b87), .val (.int v113), .val (.int v143), .val (.long v147), .second, .val (.long v151), .second, .val (.int (1 : Int32))] [(.int v143)])) t → Steps p.tables e below (s₁.setTop (entryFrame m #[(.long q0), (.long q1), (.long q2), (.long q3), (.int p4)] maxLocals)) t := fun t kk => pre170 t (by
              show Steps p.tables e below (T161.setTop (mkF m 106 #[.val (.long q0), .second, .val (.long q1), .second, .val (.long q2), .second, .val (.long q3), .second, .val (.int p4), .val (.ref b84), .val (.ref b87), .val (.int v113), .val (.int v143), .val (.long v147), .second, .val (.long v151), .second, .val (.int (1 : Int32))] [(.int v113)])) _
              refine XS.ifNo X161.here hx rfl (hb hby at_106) rfl ((if0 _ _).trans (feq hc171).1) ?_
              show Steps p.tables e below (T161.setTop (mkF m 109 #[.val (.long q0), .second, .val (.long q1), .second, .val (.long q2), .second, .val (.long q3), .second, .val (.int p4), .val (.ref b84), .val (.ref b87), .val (.int v113), .val (.int v143), .val (.long v147), .second, .val (.long v151), .second, .val (.int (1 : Int32))] [])) _
              refine XS.iload X161.here hx rfl (hb hby at_109) rfl ?_
              show Steps p.tables e below (T161.setTop (mkF m 111 #[.val (.long q0), .second, .val (.long q1), .second, .val (.long q2), .second, .val (.long q3), .second, .val (.int p4), .val (.ref b84), .val (.ref b87), .val (.int v113), .val (.int v143), .val (.long v147), .second, .val (.long v151), .second, .val (.int (1 : Int32))] [(.int v143)])) _
              exact kk)
            by_cases hc173 : v143 = (0 : Int32)
            · obtain ⟨fs, hr, hrun, hended, hR1, hR2, hR3, hR4⟩ := Stand.leaveW (s := s) (vm₁ := T95.vm) X161 hS95 (by rw [e163]; exact hk109) (v := some (.int (1 : Int32))) (fun h => by rw [Bd.returns] at h; cases h)
              refine ⟨_, _, pre172 _ ?_, hrun, hended, _, _, rfl, ?_, hR1, hR2, hR3, hR4.mono (by decide) (by decide)⟩
              · show Steps p.tables e below (T161.setTop (mkF m 111 #[.val (.long q0), .second, .val (.long q1), .second, .val (.long q2), .second, .val (.long q3), .second, .val (.int p4), .val (.ref b84), .val (.ref b87), .val (.int v113), .val (.int v143), .val (.long v147), .second, .val (.long v151), .second, .val (.int (1 : Int32))] [(.int v143)])) _
                refine XS.ifNo X161.here hx rfl (hb hby at_111) rfl ((if0 _ _).trans (teq hc173).2) ?_
                show Steps p.tables e below (T161.setTop (mkF m 114 #[.val (.long q0), .second, .val (.long q1), .second, .val (.long q2), .second, .val (.long q3), .second, .val (.int p4), .val (.ref b84), .val (.ref b87), .val (.int v113), .val (.int v143), .val (.long v147), .second, .val (.long v151), .second, .val (.int (1 : Int32))] [])) _
                refine XS.iload X161.here hx rfl (hb hby at_114) rfl ?_
                show Steps p.tables e below (T161.setTop (mkF m 116 #[.val (.long q0), .second, .val (.long q1), .second, .val (.long q2), .second, .val (.long q3), .second, .val (.int p4), .val (.ref b84), .val (.ref b87), .val (.int v113), .val (.int v143), .val (.long v147), .second, .val (.long v151), .second, .val (.int (1 : Int32))] [(.int (1 : Int32))])) _
                refine XS.ifNo X161.here hx rfl (hb hby at_116) rfl ((if0 _ _).trans (feq (by decide : ¬ ((1 : Int32) = (0 : Int32)))).1) ?_
                show Steps p.tables e below (T161.setTop (mkF m 119 #[.val (.long q0), .second, .val (.long q1), .second, .val (.long q2), .second, .val (.long q3), .second, .val (.int p4), .val (.ref b84), .val (.ref b87), .val (.int v113), .val (.int v143), .val (.long v147), .second, .val (.long v151), .second, .val (.int (1 : Int32))] [])) _
                refine XS.iconst X161.here hx rfl (hb hby at_119) ?_
                show Steps p.tables e below (T161.setTop (mkF m 120 #[.val (.long q0), .second, .val (.long q1), .second, .val (.long q2), .second, .val (.long q3), .second, .val (.int p4), .val (.ref b84), .val (.ref b87), .val (.int v113), .val (.int v143), .val (.long v147), .second, .val (.long v151), .second, .val (.int (1 : Int32))] [(.int (1 : Int32))])) _
                refine XS.goto X161.here hx rfl (pc0 := 120) (pc' := 124) rfl (hb hby at_120) (by decide) (by decide) ?_
                show Steps p.tables e below (T161.setTop (mkF m 124 #[.val (.long q0), .second, .val (.long q1), .second, .val (.long q2), .second, .val (.long q3), .second, .val (.int p4), .val (.ref b84), .val (.ref b87), .val (.int v113), .val (.int v143), .val (.long v147), .second, .val (.long v151), .second, .val (.int (1 : Int32))] [(.int (1 : Int32))])) _
                exact retN X161 hx (t := .boolean) Bd.returns (by simp) (hb hby at_124) hr
              · show own_Q0 Z q0 q1 q2 q3 p4 h0 n0 _ T161.heap _
                rw [e163]
                exact ⟨rfl, N162⟩
            · exact (own_leaf0_15 q0 q1 q2 q3 p4 hc83 v113 hv113 hc115 v143 hv143 v147 hv147 v151 hv151 hc156 hc165 hc171 hc173).elim
  · obtain ⟨T174, h174, X174, e174, E174, A174, D174, -, st174⟩ := newO X0 hx hZ hown (hw _ (List.mem_of_getElem? (i := 0) rfl)) (hw _ (List.mem_of_getElem? (i := 1) rfl)) (hw _ (List.mem_of_getElem? (i := 2) rfl)) e0 (g := (mkF m 15 #[.val (.long q0), .second, .val (.long q1), .second, .val (.long q2), .second, .val (.long q3), .second, .val (.int p4), .val .null, .unset, .unset, .unset, .unset, .unset, .unset, .unset, .unset] [])) rfl (hb hby at_15) (by decide) (by decide)
    obtain ⟨b174, g174⟩ : ∃ z, z = h0.size := ⟨_, rfl⟩
    have g_b174 : n0 ≤ b174 := Nat.le_trans Z0 (Nat.le_of_eq g174.symm)
    have sz_b174 : h0.size ≤ b174 := Nat.le_trans (Keep.refl h0 []).1 (Nat.le_of_eq g174.symm)
    rw [← g174] at A174 D174 st174
    have z175 : n0 ≤ h174.size := Nat.le_trans Z0 E174.1
    have hk176 := Nat.le_trans hk0 E174.1
    have K177 : Keep h0 h174 [] := (Keep.refl h0 []).ext E174
    have f178 : Fld Z h174 b174 "com/example/syncline/syncline/store/Record" "value" "Ljava/lang/String;" .null := D174 (Or.inr (hw _ (List.mem_of_getElem? (i := 18) rfl))) (ty := (.object "java/lang/String")) (by decide)
    have f179 : Fld Z h174 b174 "com/example/syncline/syncline/store/Record" "expiresAtMillis" "J" (.long (0 : Int64)) := D174 (Or.inr (hw _ (List.mem_of_getElem? (i := 20) rfl))) (ty := .long) (by decide)
    have f180 : Fld Z h174 b174 "com/example/syncline/syncline/store/Record" "time" "J" (.long (0 : Int64)) := D174 (Or.inr (hw _ (List.mem_of_getElem? (i := 22) rfl))) (ty := .long) (by decide)
    have f181 : Fld Z h174 b174 "com/example/syncline/syncline/store/Record" "node" "Ljava/lang/String;" .null := D174 (Or.inr (hw _ (List.mem_of_getElem? (i := 24) rfl))) (ty := (.object "java/lang/String")) (by decide)
    obtain ⟨b182, T182, h182, k1_182, X182, e182, E182, hS182, hk182, hZ182, hown182, st182⟩ := ldcS (s := s) (vm0 := s.vm) X174 hx hZ hown (hw _ (List.mem_of_getElem? (i := 3) rfl)) wS e174 hS0 hk176 (g := (mkF m 24 #[.val (.long q0), .second, .val (.long q1), .second, .val (.long q2), .second, .val (.long q3), .second, .val (.int p4), .val .null, .unset, .unset, .unset, .unset, .unset, .unset, .unset, .unset] [(.long q3), (.long q0), .null, (.ref b174), (.ref b174)])) rfl (hb hby at_24) (n := 4) (by decide) (by decide) (by decide) (by decide)
    have f183 := A174.ext E182
    have f184 := f178.ext E182
    have f185 := f179.ext E182
    have f186 := f180.ext E182
    have f187 := f181.ext E182
    have z188 : n0 ≤ h182.size := Nat.le_trans z175 E182.1
    have K189 : Keep h0 h182 [] := K177.ext E182
    obtain ⟨_, _, ⟨T190, L190, k190, n190⟩, -, X190, ⟨Lc190, hQ190, l190, y190, z190⟩, st190⟩ := X182.specialBack hx (y := (⟨"com/example/syncline/syncline/store/Record", "<init>", "(Ljava/lang/String;JJLjava/lang/String;)V"⟩ : MethodName)) rfl hown182 (mvT hZ182 (hw _ (List.mem_of_getElem? (i := 11) rfl))) (mvT hZ182 (hw _ (List.mem_of_getElem? (i := 12) rfl))) (mvT hZ182 (hw _ (List.mem_of_getElem? (i := 13) rfl))) (by decide) (backOf (W := 1) (own_rmRN l Z av hw [] b174 q0 q3 b182 h182 n0 z188 f183 f184 f185 f186 f187 g_b174) hZ182 (hw _ (List.mem_of_getElem? (i := 13) rfl)) (hw _ (List.mem_of_getElem? (i := 2) rfl)) (by decide) (by decide)) (g := (mkF m 26 #[.val (.long q0), .second, .val (.long q1), .second, .val (.long q2), .second, .val (.long q3), .second, .val (.int p4), .val .null, .unset, .unset, .unset, .unset, .unset, .unset, .unset, .unset] [(.ref b182), (.long q3), (.long q0), .null, (.ref b174), (.ref b174)])) rfl (by rw [hml]; rfl) (Steps.refl _) (a := b174) (argsL := [.null, (.long q0), (.long q3), (.ref b182)]) (rest := [(.ref b174)]) (lenOf own_pd0 rfl) rfl (by show 2 * 0 + _ ≤ _; exact Nat.le_of_eq rfl) (hb hby at_26) (fun _ _ => ⟨rfl, e182, (by decide : 3 + 0 ≤ _), (by decide : 12 + 0 ≤ _)⟩)
    dsimp only [Pt.U, Pt.locs, Pt.cells, Pt.slots] at X190 l190 y190 z190 st190 hQ190
    subst l190 y190 z190
    obtain ⟨rfl, N190q, K190, f192, f193⟩ := hQ190
    have K194 : Keep h0 T190.heap [] := K189.trans K190 (allS (Or.inr sz_b174) all0)
    have z195 : n0 ≤ T190.heap.size := Nat.le_trans z188 K190.1
    have hk196 := Nat.le_trans hk182 K190.1
    have N191 := Fr.app N0 N190q
    obtain ⟨cq197, kq197, q197a, q197b, q197c⟩ := isOf hZ182 rfl f192
    obtain ⟨_, _, ⟨T197, L197, k197, n197⟩, -, X197, ⟨Lc197, hQ197, l197, y197, z197⟩, st197⟩ := X190.virtualBack hx (y := (⟨"com/example/syncline/syncline/store/Record", "isExpiredAt", "(J)Z"⟩ : MethodName)) (z := (⟨"com/example/syncline/syncline/store/Record", "isExpiredAt", "(J)Z"⟩ : MethodName)) hown182 (mvT hZ182 (hw _ (List.mem_of_getElem? (i := 25) rfl))) (mvT hZ182 (hw _ (List.mem_of_getElem? (i := 26) rfl))) (notFace_of_selects (args := #[]) (mvT hZ182 (hw _ (List.mem_of_getElem? (i := 28) rfl)))) (mvT hZ182 (hw _ (List.mem_of_getElem? (i := 28) rfl))) (mvT hZ182 (hw _ (List.mem_of_getElem? (i := 27) rfl))) (by decide) (backOf (W := 0) (own_rm3 l Z av hw [] b174 q0 (q0) T190.heap n0 z195 f193) hZ182 (hw _ (List.mem_of_getElem? (i := 29) rfl)) (hw _ (List.mem_of_getElem? (i := 2) rfl)) (by decide) (by decide)) q197a q197c (g := (mkF m 34 #[.val (.long q0), .second, .val (.long q1), .second, .val (.long q2), .second, .val (.long q3), .second, .val (.int p4), .val .null, .val (.ref b174), .unset, .unset, .unset, .unset, .unset, .unset, .unset] [(.long q0), (.ref b174)])) rfl (by rw [hml]; rfl) (Steps.refl _) (argsL := [(.long q0)]) (rest := []) (lenOf own_pd1 rfl) rfl (by show 2 * 0 + _ ≤ _; exact Nat.le_of_eq rfl) (hb hby at_34) (fun _ _ => ⟨rfl, rfl, (by decide : 3 + 0 ≤ _), (by decide : 12 + 0 ≤ _)⟩)
    dsimp only [Pt.U, Pt.locs, Pt.cells, Pt.slots] at X197 l197 y197 z197 st197 hQ197
    subst l197 y197 z197
    obtain ⟨rfl, N197q, e199⟩ := hQ197
    have N198 := Fr.app N191 N197q
    obtain ⟨v200, hv200⟩ : ∃ z : Int32, z = (own_f3 q0 q0) := ⟨_, rfl⟩
    have pre201 : ∀ t, Steps p.tables e below (T197.setTop (mkF m 44 #[.val (.long q0), .second, .val (.long q1), .second, .val (.long q2), .second, .val (.long q3), .second, .val (.int p4), .val .null, .val (.ref b174), .val (.int v200), .unset, .unset, .unset, .unset, .unset, .unset] [(.int (lcmpW q0 (-9223372036854775808 : Int64)))])) t → Steps p.tables e below (s₁.setTop (entryFrame m #[(.long q0), (.long q1), (.long q2), (.long q3), (.int p4)] maxLocals)) t := fun t kk => pre82 t (by
      show Steps p.tables e below (s₁.setTop (mkF m 4 #[.val (.long q0), .second, .val (.long q1), .second, .val (.long q2), .second, .val (.long q3), .second, .val (.int p4), .unset, .unset, .unset, .unset, .unset, .unset, .unset, .unset, .unset] [(.int (p4 &&& (1 : Int32)))])) _
      refine XS.ifNo X0.here hx rfl (hb hby at_4) rfl ((if0 _ _).trans (feq hc83).1) ?_
      show Steps p.tables e below (s₁.setTop (mkF m 7 #[.val (.long q0), .second, .val (.long q1), .second, .val (.long q2), .second, .val (.long q3), .second, .val (.int p4), .unset, .unset, .unset, .unset, .unset, .unset, .unset, .unset, .unset] [])) _
      refine XS.aconstNull X0.here hx rfl (hb hby at_7) ?_
      show Steps p.tables e below (s₁.setTop (mkF m 8 #[.val (.long q0), .second, .val (.long q1), .second, .val (.long q2), .second, .val (.long q3), .second, .val (.int p4), .unset, .unset, .unset, .unset, .unset, .unset, .unset, .unset, .unset] [.null])) _
      refine XS.goto X0.here hx rfl (pc0 := 8) (pc' := 13) rfl (hb hby at_8) (by decide) (by decide) ?_
      show Steps p.tables e below (s₁.setTop (mkF m 13 #[.val (.long q0), .second, .val (.long q1), .second, .val (.long q2), .second, .val (.long q3), .second, .val (.int p4), .unset, .unset, .unset, .unset, .unset, .unset, .unset, .unset, .unset] [.null])) _
      refine XS.astore X0.here hx rfl (hb hby at_13) rfl rfl (l' := #[.val (.long q0), .second, .val (.long q1), .second, .val (.long q2), .second, .val (.long q3), .second, .val (.int p4), .val .null, .unset, .unset, .unset, .unset, .unset, .unset, .unset, .unset]) rfl ?_
      show Steps p.tables e below (s₁.setTop (mkF m 15 #[.val (.long q0), .second, .val (.long q1), .second, .val (.long q2), .second, .val (.long q3), .second, .val (.int p4), .val .null, .unset, .unset, .unset, .unset, .unset, .unset, .unset, .unset] [])) _
      refine st174 _ ?_
      show Steps p.tables e below (T174.setTop (mkF m 18 #[.val (.long q0), .second, .val (.long q1), .second, .val (.long q2), .second, .val (.long q3), .second, .val (.int p4), .val .null, .unset, .unset, .unset, .unset, .unset, .unset, .unset, .unset] [(.ref b174)])) _
      refine XS.dup X174.here hx rfl (hb hby at_18) rfl rfl ?_
      show Steps p.tables e below (T174.setTop (mkF m 19 #[.val (.long q0), .second, .val (.long q1), .second, .val (.long q2), .second, .val (.long q3), .second, .val (.int p4), .val .null, .unset, .unset, .unset, .unset, .unset, .unset, .unset, .unset] [(.ref b174), (.ref b174)])) _
      refine XS.aload X174.here hx rfl (hb hby at_19) rfl rfl ?_
      show Steps p.tables e below (T174.setTop (mkF m 21 #[.val (.long q0), .second, .val (.long q1), .second, .val (.long q2), .second, .val (.long q3), .second, .val (.int p4), .val .null, .unset, .unset, .unset, .unset, .unset, .unset, .unset, .unset] [.null, (.ref b174), (.ref b174)])) _
      refine XS.lloadN X174.here hx rfl (hb hby at_21) rfl ?_
      show Steps p.tables e below (T174.setTop (mkF m 22 #[.val (.long q0), .second, .val (.long q1), .second, .val (.long q2), .second, .val (.long q3), .second, .val (.int p4), .val .null, .unset, .unset, .unset, .unset, .unset, .unset, .unset, .unset] [(.long q0), .null, (.ref b174), (.ref b174)])) _
      refine XS.lload X174.here hx rfl (hb hby at_22) rfl ?_
      show Steps p.tables e below (T174.setTop (mkF m 24 #[.val (.long q0), .second, .val (.long q1), .second, .val (.long q2), .second, .val (.long q3), .second, .val (.int p4), .val .null, .unset, .unset, .unset, .unset, .unset, .unset, .unset, .unset] [(.long q3), (.long q0), .null, (.ref b174), (.ref b174)])) _
      refine st182 _ ?_
      show Steps p.tables e below (T182.setTop (mkF m 26 #[.val (.long q0), .second, .val (.long q1), .second, .val (.long q2), .second, .val (.long q3), .second, .val (.int p4), .val .null, .unset, .unset, .unset, .unset, .unset, .unset, .unset, .unset] [(.ref b182), (.long q3), (.long q0), .null, (.ref b174), (.ref b174)])) _
      refine st190.trans ?_
      show Steps p.tables e below (T190.setTop (mkF m 29 #[.val (.long q0), .second, .val (.long q1), .second, .val (.long q2), .second, .val (.long q3), .second, .val (.int p4), .val .null, .unset, .unset, .unset, .unset, .unset, .unset, .unset, .unset] [(.ref b174)])) _
      refine XS.astore X190.here hx rfl (hb hby at_29) rfl rfl (l' := #[.val (.long q0), .second, .val (.long q1), .second, .val (.long q2), .second, .val (.long q3), .second, .val (.int p4), .val .null, .val (.ref b174), .unset, .unset, .unset, .unset, .unset, .unset, .unset]) rfl ?_
      show Steps p.tables e below (T190.setTop (mkF m 31 #[.val (.long q0), .second, .val (.long q1), .second, .val (.long q2), .second, .val (.long q3), .second, .val (.int p4), .val .null, .val (.ref b174), .unset, .unset, .unset, .unset, .unset, .unset, .unset] [])) _
      refine XS.aload X190.here hx rfl (hb hby at_31) rfl rfl ?_
      show Steps p.tables e below (T190.setTop (mkF m 33 #[.val (.long q0), .second, .val (.long q1), .second, .val (.long q2), .second, .val (.long q3), .second, .val (.int p4), .val .null, .val (.ref b174), .unset, .unset, .unset, .unset, .unset, .unset, .unset] [(.ref b174)])) _
      refine XS.lloadN X190.here hx rfl (hb hby at_33) rfl ?_
      show Steps p.tables e below (T190.setTop (mkF m 34 #[.val (.long q0), .second, .val (.long q1), .second, .val (.long q2), .second, .val (.long q3), .second, .val (.int p4), .val .null, .val (.ref b174), .unset, .unset, .unset, .unset, .unset, .unset, .unset] [(.long q0), (.ref b174)])) _
      refine st197.trans ?_
      show Steps p.tables e below (T197.setTop (mkF m 37 #[.val (.long q0), .second, .val (.long q1), .second, .val (.long q2), .second, .val (.long q3), .second, .val (.int p4), .val .null, .val (.ref b174), .unset, .unset, .unset, .unset, .unset, .unset, .unset] [(.int (own_f3 q0 q0))])) _
      refine castTop (congrArg (fun z : Int32 => mkF m 37 #[.val (.long q0), .second, .val (.long q1), .second, .val (.long q2), .second, .val (.long q3), .second, .val (.int p4), .val .null, .val (.ref b174), .unset, .unset, .unset, .unset, .unset, .unset, .unset] [(.int z)]) hv200.symm) ?_
      show Steps p.tables e below (T197.setTop (mkF m 37 #[.val (.long q0), .second, .val (.long q1), .second, .val (.long q2), .second, .val (.long q3), .second, .val (.int p4), .val .null, .val (.ref b174), .unset, .unset, .unset, .unset, .unset, .unset, .unset] [(.int v200)])) _
      refine XS.istore X197.here hx rfl (hb hby at_37) rfl (l' := #[.val (.long q0), .second, .val (.long q1), .second, .val (.long q2), .second, .val (.long q3), .second, .val (.int p4), .val .null, .val (.ref b174), .val (.int v200), .unset, .unset, .unset, .unset, .unset, .unset]) rfl ?_
      show Steps p.tables e below (T197.setTop (mkF m 39 #[.val (.long q0), .second, .val (.long q1), .second, .val (.long q2), .second, .val (.long q3), .second, .val (.int p4), .val .null, .val (.ref b174), .val (.int v200), .unset, .unset, .unset, .unset, .unset, .unset] [])) _
      refine XS.lloadN X197.here hx rfl (hb hby at_39) rfl ?_
      show Steps p.tables e below (T197.setTop (mkF m 40 #[.val (.long q0), .second, .val (.long q1), .second, .val (.long q2), .second, .val (.long q3), .second, .val (.int p4), .val .null, .val (.ref b174), .val (.int v200), .unset, .unset, .unset, .unset, .unset, .unset] [(.long q0)])) _
      refine X197.ldc2Long hx hown182 (mvT hZ182 (hw _ (List.mem_of_getElem? (i := 30) rfl))) (g := (mkF m 40 #[.val (.long q0), .second, .val (.long q1), .second, .val (.long q2), .second, .val (.long q3), .second, .val (.int p4), .val .null, .val (.ref b174), .val (.int v200), .unset, .unset, .unset, .unset, .unset, .unset] [(.long q0)])) rfl (hb hby at_40) _ ?_
      show Steps p.tables e below (T197.setTop (mkF m 43 #[.val (.long q0), .second, .val (.long q1), .second, .val (.long q2), .second, .val (.long q3), .second, .val (.int p4), .val .null, .val (.ref b174), .val (.int v200), .unset, .unset, .unset, .unset, .unset, .unset] [(.long (-9223372036854775808 : Int64)), (.long q0)])) _
      refine XS.lcmp X197.here hx rfl (hb hby at_43) rfl ?_
      show Steps p.tables e below (T197.setTop (mkF m 44 #[.val (.long q0), .second, .val (.long q1), .second, .val (.long q2), .second, .val (.long q3), .second, .val (.int p4), .val .null, .val (.ref b174), .val (.int v200), .unset, .unset, .unset, .unset, .unset, .unset] [(.int (lcmpW q0 (-9223372036854775808 : Int64)))])) _
      exact kk)
    by_cases hc202 : q0 = (-9223372036854775808 : Int64)
    · obtain ⟨_, _, ⟨T203, L203, k203, n203⟩, -, X203, ⟨Lc203, hQ203, l203, y203, z203⟩, st203⟩ := Jvm.LawKit.callS X197 hx (y := (⟨"java/lang/Math", "min", "(JJ)J"⟩ : MethodName)) hown182 (mvT hZ182 (hw _ (List.mem_of_getElem? (i := 31) rfl))) (mvT hZ182 (hw _ (List.mem_of_getElem? (i := 32) rfl))) (mvT hZ182 (hw _ (List.mem_of_getElem? (i := 33) rfl))) (mvT hZ182 (hw _ (List.mem_of_getElem? (i := 34) rfl))) (by decide) (backOf (W := 0) (own_rm4 l Z av hw [] q1 q2 T190.heap n0 z195 ) hZ182 (hw _ (List.mem_of_getElem? (i := 34) rfl)) (hw _ (List.mem_of_getElem? (i := 33) rfl)) (by decide) (by decide)) (g := (mkF m 64 #[.val (.long q0), .second, .val (.long q1), .second, .val (.long q2), .second, .val (.long q3), .second, .val (.int p4), .val .null, .val (.ref b174), .val (.int v200), .val (.int (0 : Int32)), .unset, .unset, .unset, .unset, .unset] [(.long q2), (.long q1)])) rfl (by rw [hml]; rfl) (argsL := [(.long q1), (.long q2)]) (rest := []) (lenOf own_pd2 rfl) rfl (by show 2 * 0 + _ ≤ _; exact Nat.le_of_eq rfl) (hb hby at_64) (fun _ _ => ⟨rfl, e199, (by decide : 3 + 0 ≤ _), (by decide : 12 + 0 ≤ _)⟩)
      dsimp only [Pt.U, Pt.locs, Pt.cells, Pt.slots] at X203 l203 y203 z203 st203 hQ203
      subst l203 y203 z203
      obtain ⟨rfl, N203q, e205⟩ := hQ203
      have N204 := Fr.app N198 N203q
      obtain ⟨v206, hv206⟩ : ∃ z : Int64, z = (own_f4 q1 q2) := ⟨_, rfl⟩
      obtain ⟨_, _, ⟨T207, L207, k207, n207⟩, -, X207, ⟨Lc207, hQ207, l207, y207, z207⟩, st207⟩ := Jvm.LawKit.callS X203 hx (y := (⟨"java/lang/Math", "max", "(JJ)J"⟩ : MethodName)) hown182 (mvT hZ182 (hw _ (List.mem_of_getElem? (i := 35) rfl))) (mvT hZ182 (hw _ (List.mem_of_getElem? (i := 36) rfl))) (mvT hZ182 (hw _ (List.mem_of_getElem? (i := 33) rfl))) (mvT hZ182 (hw _ (List.mem_of_getElem? (i := 37) rfl))) (by decide) (backOf (W := 0) (own_rm5 l Z av hw [] q1 q2 T190.heap n0 z195 ) hZ182 (hw _ (List.mem_of_getElem? (i := 37) rfl)) (hw _ (List.mem_of_getElem? (i := 33) rfl)) (by decide) (by decide)) (g := (mkF m 72 #[.val (.long q0), .second, .val (.long q1), .second, .val (.long q2), .second, .val (.long q3), .second, .val (.int p4), .val .null, .val (.ref b174), .val (.int v200), .val (.int (0 : Int32)), .val (.long v206), .second, .unset, .unset, .unset] [(.long q2), (.long q1)])) rfl (by rw [hml]; rfl) (argsL := [(.long q1), (.long q2)]) (rest := []) (lenOf own_pd2 rfl) rfl (by show 2 * 0 + _ ≤ _; exact Nat.le_of_eq rfl) (hb hby at_72) (fun _ _ => ⟨rfl, e205, (by decide : 3 + 0 ≤ _), (by decide : 12 + 0 ≤ _)⟩)
      dsimp only [Pt.U, Pt.locs, Pt.cells, Pt.slots] at X207 l207 y207 z207 st207 hQ207
      subst l207 y207 z207
      obtain ⟨rfl, N207q, e209⟩ := hQ207
      have N208 := Fr.app N204 N207q
      obtain ⟨v210, hv210⟩ : ∃ z : Int64, z = (own_f5 q1 q2) := ⟨_, rfl⟩
      obtain ⟨cq211, kq211, q211a, q211b, q211c⟩ := isOf hZ182 e209 f192
      obtain ⟨_, _, ⟨T211, L211, k211, n211⟩, -, X211, ⟨Lc211, hQ211, l211, y211, z211⟩, st211⟩ := X207.virtualBack hx (y := (⟨"com/example/syncline/syncline/store/Record", "isExpiredAt", "(J)Z"⟩ : MethodName)) (z := (⟨"com/example/syncline/syncline/store/Record", "isExpiredAt", "(J)Z"⟩ : MethodName)) hown182 (mvT hZ182 (hw _ (List.mem_of_getElem? (i := 25) rfl))) (mvT hZ182 (hw _ (List.mem_of_getElem? (i := 26) rfl))) (notFace_of_selects (args := #[]) (mvT hZ182 (hw _ (List.mem_of_getElem? (i := 28) rfl)))) (mvT hZ182 (hw _ (List.mem_of_getElem? (i := 28) rfl))) (mvT hZ182 (hw _ (List.mem_of_getElem? (i := 27) rfl))) (by decide) (backOf (W := 0) (own_rm3 l Z av hw [] b174 v206 (q0) T190.heap n0 z195 f193) hZ182 (hw _ (List.mem_of_getElem? (i := 29) rfl)) (hw _ (List.mem_of_getElem? (i := 2) rfl)) (by decide) (by decide)) q211a q211c (g := (mkF m 81 #[.val (.long q0), .second, .val (.long q1), .second, .val (.long q2), .second, .val (.long q3), .second, .val (.int p4), .val .null, .val (.ref b174), .val (.int v200), .val (.int (0 : Int32)), .val (.long v206), .second, .val (.long v210), .second, .unset] [(.long v206), (.ref b174)])) rfl (by rw [hml]; rfl) (Steps.refl _) (argsL := [(.long v206)]) (rest := []) (lenOf own_pd1 rfl) rfl (by show 2 * 0 + _ ≤ _; exact Nat.le_of_eq rfl) (hb hby at_81) (fun _ _ => ⟨rfl, e209, (by decide : 3 + 0 ≤ _), (by decide : 12 + 0 ≤ _)⟩)
      dsimp only [Pt.U, Pt.locs, Pt.cells, Pt.slots] at X211 l211 y211 z211 st211 hQ211
      subst l211 y211 z211
      obtain ⟨rfl, N211q, e213⟩ := hQ211
      have N212 := Fr.app N208 N211q
      have pre214 : ∀ t, Steps p.tables e below (T211.setTop (mkF m 84 #[.val (.long q0), .second, .val (.long q1), .second, .val (.long q2), .second, .val (.long q3), .second, .val (.int p4), .val .null, .val (.ref b174), .val (.int v200), .val (.int (0 : Int32)), .val (.long v206), .second, .val (.long v210), .second, .unset] [(.int (own_f3 q0 v206))])) t → Steps p.tables e below (s₁.setTop (entryFrame m #[(.long q0), (.long q1), (.long q2), (.long q3), (.int p4)] maxLocals)) t := fun t kk => pre201 t (by
        show Steps p.tables e below (T197.setTop (mkF m 44 #[.val (.long q0), .second, .val (.long q1), .second, .val (.long q2), .second, .val (.long q3), .second, .val (.int p4), .val .null, .val (.ref b174), .val (.int v200), .unset, .unset, .unset, .unset, .unset, .unset] [(.int (lcmpW q0 (-9223372036854775808 : Int64)))])) _
        refine XS.ifNo X197.here hx rfl (hb hby at_44) rfl ((if0 _ _).trans (teq ((lw_eq q0 (-9223372036854775808 : Int64)).mpr hc202)).2) ?_
        show Steps p.tables e below (T197.setTop (mkF m 47 #[.val (.long q0), .second, .val (.long q1), .second, .val (.long q2), .second, .val (.long q3), .second, .val (.int p4), .val .null, .val (.ref b174), .val (.int v200), .unset, .unset, .unset, .unset, .unset, .unset] [])) _
        refine XS.iconst X197.here hx rfl (hb hby at_47) ?_
        show Steps p.tables e below (T197.setTop (mkF m 48 #[.val (.long q0), .second, .val (.long q1), .second, .val (.long q2), .second, .val (.long q3), .second, .val (.int p4), .val .null, .val (.ref b174), .val (.int v200), .unset, .unset, .unset, .unset, .unset, .unset] [(.int (0 : Int32))])) _
        refine XS.goto X197.here hx rfl (pc0 := 48) (pc' := 59) rfl (hb hby at_48) (by decide) (by decide) ?_
        show Steps p.tables e below (T197.setTop (mkF m 59 #[.val (.long q0), .second, .val (.long q1), .second, .val (.long q2), .second, .val (.long q3), .second, .val (.int p4), .val .null, .val (.ref b174), .val (.int v200), .unset, .unset, .unset, .unset, .unset, .unset] [(.int (0 : Int32))])) _
        refine XS.istore X197.here hx rfl (hb hby at_59) rfl (l' := #[.val (.long q0), .second, .val (.long q1), .second, .val (.long q2), .second, .val (.long q3), .second, .val (.int p4), .val .null, .val (.ref b174), .val (.int v200), .val (.int (0 : Int32)), .unset, .unset, .unset, .unset, .unset]) rfl ?_
        show Steps p.tables e below (T197.setTop (mkF m 61 #[.val (.long q0), .second, .val (.long q1), .second, .val (.long q2), .second, .val (.long q3), .second, .val (.int p4), .val .null, .val (.ref b174), .val (.int v200), .val (.int (0 : Int32)), .unset, .unset, .unset, .unset, .unset] [])) _
        refine XS.lloadN X197.here hx rfl (hb hby at_61) rfl ?_
        show Steps p.tables e below (T197.setTop (mkF m 62 #[.val (.long q0), .second, .val (.long q1), .second, .val (.long q2), .second, .val (.long q3), .second, .val (.int p4), .val .null, .val (.ref b174), .val (.int v200), .val (.int (0 : Int32)), .unset, .unset, .unset, .unset, .unset] [(.long q1)])) _
        refine XS.lload X197.here hx rfl (hb hby at_62) rfl ?_
        show Steps p.tables e below (T197.setTop (mkF m 64 #[.val (.long q0), .second, .val (.long q1), .second, .val (.long q2), .second, .val (.long q3), .second, .val (.int p4), .val .null, .val (.ref b174), .val (.int v200), .val (.int (0 : Int32)), .unset, .unset, .unset, .unset, .unset] [(.long q2), (.long q1)])) _
        refine st203 _ ?_
        show Steps p.tables e below (T203.setTop (mkF m 67 #[.val (.long q0), .second, .val (.long q1), .second, .val (.long q2), .second, .val (.long q3), .second, .val (.int p4), .val .null, .val (.ref b174), .val (.int v200), .val (.int (0 : Int32)), .unset, .unset, .unset, .unset, .unset] [(.long (own_f4 q1 q2))])) _
        refine castTop (congrArg (fun z : Int64 => mkF m 67 #[.val (.long q0), .second, .val (.long q1), .second, .val (.long q2), .second, .val (.long q3), .second, .val (.int p4), .val .null, .val (.ref b174), .val (.int v200), .val (.int (0 : Int32)), .unset, .unset, .unset, .unset, .unset] [(.long z)]) hv206.symm) ?_
        show Steps p.tables e below (T203.setTop (mkF m 67 #[.val (.long q0), .second, .val (.long q1), .second, .val (.long q2), .second, .val (.long q3), .second, .val (.int p4), .val .null, .val (.ref b174), .val (.int v200), .val (.int (0 : Int32)), .unset, .unset, .unset, .unset, .unset] [(.long v206)])) _
        refine XS.lstore X203.here hx rfl (hb hby at_67) rfl (l' := #[.val (.long q0), .second, .val (.long q1), .second, .val (.long q2), .second, .val (.long q3), .second, .val (.int p4), .val .null, .val (.ref b174), .val (.int v200), .val (.int (0 : Int32)), .val (.long v206), .second, .unset, .unset, .unset]) rfl ?_
        show Steps p.tables e below (T203.setTop (mkF m 69 #[.val (.long q0), .second, .val (.long q1), .second, .val (.long q2), .second, .val (.long q3), .second, .val (.int p4), .val .null, .val (.ref b174), .val (.int v200), .val (.int (0 : Int32)), .val (.long v206), .second, .unset, .unset, .unset] [])) _
        refine XS.lloadN X203.here hx rfl (hb hby at_69) rfl ?_
        show Steps p.tables e below (T203.setTop (mkF m 70 #[.val (.long q0), .second, .val (.long q1), .second, .val (.long q2), .second, .val (.long q3), .second, .val (.int p4), .val .null, .val (.ref b174), .val (.int v200), .val (.int (0 : Int32)), .val (.long v206), .second, .unset, .unset, .unset] [(.long q1)])) _
        refine XS.lload X203.here hx rfl (hb hby at_70) rfl ?_
        show Steps p.tables e below (T203.setTop (mkF m 72 #[.val (.long q0), .second, .val (.long q1), .second, .val (.long q2), .second, .val (.long q3), .second, .val (.int p4), .val .null, .val (.ref b174), .val (.int v200), .val (.int (0 : Int32)), .val (.long v206), .second, .unset, .unset, .unset] [(.long q2), (.long q1)])) _
        refine st207 _ ?_
        show Steps p.tables e below (T207.setTop (mkF m 75 #[.val (.long q0), .second, .val (.long q1), .second, .val (.long q2), .second, .val (.long q3), .second, .val (.int p4), .val .null, .val (.ref b174), .val (.int v200), .val (.int (0 : Int32)), .val (.long v206), .second, .unset, .unset, .unset] [(.long (own_f5 q1 q2))])) _
        refine castTop (congrArg (fun z : Int64 => mkF m 75 #[.val (.long q0), .second, .val (.long q1), .second, .val (.long q2), .second, .val (.long q3), .second, .val (.int p4), .val .null, .val (.ref b174), .val (.int v200), .val (.int (0 : Int32)), .val (.long v206), .second, .unset, .unset, .unset] [(.long z)]) hv210.symm) ?_
        show Steps p.tables e below (T207.setTop (mkF m 75 #[.val (.long q0), .second, .val (.long q1), .second, .val (.long q2), .second, .val (.long q3), .second, .val (.int p4), .val .null, .val (.ref b174), .val (.int v200), .val (.int (0 : Int32)), .val (.long v206), .second, .unset, .unset, .unset] [(.long v210)])) _
        refine XS.lstore X207.here hx rfl (hb hby at_75) rfl (l' := #[.val (.long q0), .second, .val (.long q1), .second, .val (.long q2), .second, .val (.long q3), .second, .val (.int p4), .val .null, .val (.ref b174), .val (.int v200), .val (.int (0 : Int32)), .val (.long v206), .second, .val (.long v210), .second, .unset]) rfl ?_
        show Steps p.tables e below (T207.setTop (mkF m 77 #[.val (.long q0), .second, .val (.long q1), .second, .val (.long q2), .second, .val (.long q3), .second, .val (.int p4), .val .null, .val (.ref b174), .val (.int v200), .val (.int (0 : Int32)), .val (.long v206), .second, .val (.long v210), .second, .unset] [])) _
        refine XS.aload X207.here hx rfl (hb hby at_77) rfl rfl ?_
        show Steps p.tables e below (T207.setTop (mkF m 79 #[.val (.long q0), .second, .val (.long q1), .second, .val (.long q2), .second, .val (.long q3), .second, .val (.int p4), .val .null, .val (.ref b174), .val (.int v200), .val (.int (0 : Int32)), .val (.long v206), .second, .val (.long v210), .second, .unset] [(.ref b174)])) _
        refine XS.lload X207.here hx rfl (hb hby at_79) rfl ?_
        show Steps p.tables e below (T207.setTop (mkF m 81 #[.val (.long q0), .second, .val (.long q1), .second, .val (.long q2), .second, .val (.long q3), .second, .val (.int p4), .val .null, .val (.ref b174), .val (.int v200), .val (.int (0 : Int32)), .val (.long v206), .second, .val (.long v210), .second, .unset] [(.long v206), (.ref b174)])) _
        refine st211.trans ?_
        show Steps p.tables e below (T211.setTop (mkF m 84 #[.val (.long q0), .second, .val (.long q1), .second, .val (.long q2), .second, .val (.long q3), .second, .val (.int p4), .val .null, .val (.ref b174), .val (.int v200), .val (.int (0 : Int32)), .val (.long v206), .second, .val (.long v210), .second, .unset] [(.int (own_f3 q0 v206))])) _
        exact kk)
      by_cases hc215 : (own_f3 q0 v206) = (0 : Int32)
      · have pre216 : ∀ t, Steps p.tables e below (T211.setTop (mkF m 106 #[.val (.long q0), .second, .val (.long q1), .second, .val (.long q2), .second, .val (.long q3), .second, .val (.int p4), .val .null, .val (.ref b174), .val (.int v200), .val (.int (0 : Int32)), .val (.long v206), .second, .val (.long v210), .second, .val (.int (1 : Int32))] [(.int v200)])) t → Steps p.tables e below (s₁.setTop (entryFrame m #[(.long q0), (.long q1), (.long q2), (.long q3), (.int p4)] maxLocals)) t := fun t kk => pre214 t (by
          show Steps p.tables e below (T211.setTop (mkF m 84 #[.val (.long q0), .second, .val (.long q1), .second, .val (.long q2), .second, .val (.long q3), .second, .val (.int p4), .val .null, .val (.ref b174), .val (.int v200), .val (.int (0 : Int32)), .val (.long v206), .second, .val (.long v210), .second, .unset] [(.int (own_f3 q0 v206))])) _
          refine XS.ifYes X211.here hx rfl (pc0 := 84) (pc' := 97) rfl (hb hby at_84) rfl ((if0 _ _).trans (teq hc215).1) (by decide) (by decide) ?_
          show Steps p.tables e below (T211.setTop (mkF m 97 #[.val (.long q0), .second, .val (.long q1), .second, .val (.long q2), .second, .val (.long q3), .second, .val (.int p4), .val .null, .val (.ref b174), .val (.int v200), .val (.int (0 : Int32)), .val (.long v206), .second, .val (.long v210), .second, .unset] [])) _
          refine XS.iconst X211.here hx rfl (hb hby at_97) ?_
          show Steps p.tables e below (T211.setTop (mkF m 98 #[.val (.long q0), .second, .val (.long q1), .second, .val (.long q2), .second, .val (.long q3), .second, .val (.int p4), .val .null, .val (.ref b174), .val (.int v200), .val (.int (0 : Int32)), .val (.long v206), .second, .val (.long v210), .second, .unset] [(.int (1 : Int32))])) _
          refine XS.goto X211.here hx rfl (pc0 := 98) (pc' := 102) rfl (hb hby at_98) (by decide) (by decide) ?_
          show Steps p.tables e below (T211.setTop (mkF m 102 #[.val (.long q0), .second, .val (.long q1), .second, .val (.long q2), .second, .val (.long q3), .second, .val (.int p4), .val .null, .val (.ref b174), .val (.int v200), .val (.int (0 : Int32)), .val (.long v206), .second, .val (.long v210), .second, .unset] [(.int (1 : Int32))])) _
          refine XS.istore X211.here hx rfl (hb hby at_102) rfl (l' := #[.val (.long q0), .second, .val (.long q1), .second, .val (.long q2), .second, .val (.long q3), .second, .val (.int p4), .val .null, .val (.ref b174), .val (.int v200), .val (.int (0 : Int32)), .val (.long v206), .second, .val (.long v210), .second, .val (.int (1 : Int32))]) rfl ?_
          show Steps p.tables e below (T211.setTop (mkF m 104 #[.val (.long q0), .second, .val (.long q1), .second, .val (.long q2), .second, .val (.long q3), .second, .val (.int p4), .val .null, .val (.ref b174), .val (.int v200), .val (.int (0 : Int32)), .val (.long v206), .second, .val (.long v210), .second, .val (.int (1 : Int32))] [])) _
          refine XS.iload X211.here hx rfl (hb hby at_104) rfl ?_
          show Steps p.tables e below (T211.setTop (mkF m 106 #[.val (.long q0), .second, .val (.long q1), .second, .val (.long q2), .second, .val (.long q3), .second, .val (.int p4), .val .null, .val (.ref b174), .val (.int v200), .val (.int (0 : Int32)), .val (.long v206), .second, .val (.long v210), .second, .val (.int (1 : Int32))] [(.int v200)])) _
          exact kk)
        by_cases hc217 : v200 = (0 : Int32)
        · exact (own_leaf0_16 q0 q1 q2 q3 p4 hc83 v200 hv200 hc202 v206 hv206 v210 hv210 hc215 hc217).elim
        · obtain ⟨fs, hr, hrun, hended, hR1, hR2, hR3, hR4⟩ := Stand.leaveW (s := s) (vm₁ := T182.vm) X211 hS182 (by rw [e213]; exact hk196) (v := some (.int (1 : Int32))) (fun h => by rw [Bd.returns] at h; cases h)
          refine ⟨_, _, pre216 _ ?_, hrun, hended, _, _, rfl, ?_, hR1, hR2, hR3, hR4.mono (by decide) (by decide)⟩
          · show Steps p.tables e below (T211.setTop (mkF m 106 #[.val (.long q0), .second, .val (.long q1), .second, .val (.long q2), .second, .val (.long q3), .second, .val (.int p4), .val .null, .val (.ref b174), .val (.int v200), .val (.int (0 : Int32)), .val (.long v206), .second, .val (.long v210), .second, .val (.int (1 : Int32))] [(.int v200)])) _
            refine XS.ifNo X211.here hx rfl (hb hby at_106) rfl ((if0 _ _).trans (feq hc217).1) ?_
            show Steps p.tables e below (T211.setTop (mkF m 109 #[.val (.long q0), .second, .val (.long q1), .second, .val (.long q2), .second, .val (.long q3), .second, .val (.int p4), .val .null, .val (.ref b174), .val (.int v200), .val (.int (0 : Int32)), .val (.long v206), .second, .val (.long v210), .second, .val (.int (1 : Int32))] [])) _
            refine XS.iload X211.here hx rfl (hb hby at_109) rfl ?_
            show Steps p.tables e below (T211.setTop (mkF m 111 #[.val (.long q0), .second, .val (.long q1), .second, .val (.long q2), .second, .val (.long q3), .second, .val (.int p4), .val .null, .val (.ref b174), .val (.int v200), .val (.int (0 : Int32)), .val (.long v206), .second, .val (.long v210), .second, .val (.int (1 : Int32))] [(.int (0 : Int32))])) _
            refine XS.ifNo X211.here hx rfl (hb hby at_111) rfl ((if0 _ _).trans (teq (by decide : (0 : Int32) = (0 : Int32))).2) ?_
            show Steps p.tables e below (T211.setTop (mkF m 114 #[.val (.long q0), .second, .val (.long q1), .second, .val (.long q2), .second, .val (.long q3), .second, .val (.int p4), .val .null, .val (.ref b174), .val (.int v200), .val (.int (0 : Int32)), .val (.long v206), .second, .val (.long v210), .second, .val (.int (1 : Int32))] [])) _
            refine XS.iload X211.here hx rfl (hb hby at_114) rfl ?_
            show Steps p.tables e below (T211.setTop (mkF m 116 #[.val (.long q0), .second, .val (.long q1), .second, .val (.long q2), .second, .val (.long q3), .second, .val (.int p4), .val .null, .val (.ref b174), .val (.int v200), .val (.int (0 : Int32)), .val (.long v206), .second, .val (.long v210), .second, .val (.int (1 : Int32))] [(.int (1 : Int32))])) _
            refine XS.ifNo X211.here hx rfl (hb hby at_116) rfl ((if0 _ _).trans (feq (by decide : ¬ ((1 : Int32) = (0 : Int32)))).1) ?_
            show Steps p.tables e below (T211.setTop (mkF m 119 #[.val (.long q0), .second, .val (.long q1), .second, .val (.long q2), .second, .val (.long q3), .second, .val (.int p4), .val .null, .val (.ref b174), .val (.int v200), .val (.int (0 : Int32)), .val (.long v206), .second, .val (.long v210), .second, .val (.int (1 : Int32))] [])) _
            refine XS.iconst X211.here hx rfl (hb hby at_119) ?_
            show Steps p.tables e below (T211.setTop (mkF m 120 #[.val (.long q0), .second, .val (.long q1), .second, .val (.long q2), .second, .val (.long q3), .second, .val (.int p4), .val .null, .val (.ref b174), .val (.int v200), .val (.int (0 : Int32)), .val (.long v206), .second, .val (.long v210), .second, .val (.int (1 : Int32))] [(.int (1 : Int32))])) _
            refine XS.goto X211.here hx rfl (pc0 := 120) (pc' := 124) rfl (hb hby at_120) (by decide) (by decide) ?_
            show Steps p.tables e below (T211.setTop (mkF m 124 #[.val (.long q0), .second, .val (.long q1), .second, .val (.long q2), .second, .val (.long q3), .second, .val (.int p4), .val .null, .val (.ref b174), .val (.int v200), .val (.int (0 : Int32)), .val (.long v206), .second, .val (.long v210), .second, .val (.int (1 : Int32))] [(.int (1 : Int32))])) _
            exact retN X211 hx (t := .boolean) Bd.returns (by simp) (hb hby at_124) hr
          · show own_Q0 Z q0 q1 q2 q3 p4 h0 n0 _ T211.heap _
            rw [e213]
            exact ⟨rfl, N212⟩
      · obtain ⟨cq218, kq218, q218a, q218b, q218c⟩ := isOf hZ182 e213 f192
        obtain ⟨_, _, ⟨T218, L218, k218, n218⟩, -, X218, ⟨Lc218, hQ218, l218, y218, z218⟩, st218⟩ := X211.virtualBack hx (y := (⟨"com/example/syncline/syncline/store/Record", "isExpiredAt", "(J)Z"⟩ : MethodName)) (z := (⟨"com/example/syncline/syncline/store/Record", "isExpiredAt", "(J)Z"⟩ : MethodName)) hown182 (mvT hZ182 (hw _ (List.mem_of_getElem? (i := 25) rfl))) (mvT hZ182 (hw _ (List.mem_of_getElem? (i := 26) rfl))) (notFace_of_selects (args := #[]) (mvT hZ182 (hw _ (List.mem_of_getElem? (i := 28) rfl)))) (mvT hZ182 (hw _ (List.mem_of_getElem? (i := 28) rfl))) (mvT hZ182 (hw _ (List.mem_of_getElem? (i := 27) rfl))) (by decide) (backOf (W := 0) (own_rm3 l Z av hw [] b174 v210 (q0) T190.heap n0 z195 f193) hZ182 (hw _ (List.mem_of_getElem? (i := 29) rfl)) (hw _ (List.mem_of_getElem? (i := 2) rfl)) (by decide) (by decide)) q218a q218c (g := (mkF m 91 #[.val (.long q0), .second, .val (.long q1), .second, .val (.long q2), .second, .val (.long q3), .second, .val (.int p4), .val .null, .val (.ref b174), .val (.int v200), .val (.int (0 : Int32)), .val (.long v206), .second, .val (.long v210), .second, .unset] [(.long v210), (.ref b174)])) rfl (by rw [hml]; rfl) (Steps.refl _) (argsL := [(.long v210)]) (rest := []) (lenOf own_pd1 rfl) rfl (by show 2 * 0 + _ ≤ _; exact Nat.le_of_eq rfl) (hb hby at_91) (fun _ _ => ⟨rfl, e213, (by decide : 3 + 0 ≤ _), (by decide : 12 + 0 ≤ _)⟩)
        dsimp only [Pt.U, Pt.locs, Pt.cells, Pt.slots] at X218 l218 y218 z218 st218 hQ218
        subst l218 y218 z218
        obtain ⟨rfl, N218q, e220⟩ := hQ218
        have N219 := Fr.app N212 N218q
        have pre221 : ∀ t, Steps p.tables e below (T218.setTop (mkF m 94 #[.val (.long q0), .second, .val (.long q1), .second, .val (.long q2), .second, .val (.long q3), .second, .val (.int p4), .val .null, .val (.ref b174), .val (.int v200), .val (.int (0 : Int32)), .val (.long v206), .second, .val (.long v210), .second, .unset] [(.int (own_f3 q0 v210))])) t → Steps p.tables e below (s₁.setTop (entryFrame m #[(.long q0), (.long q1), (.long q2), (.long q3), (.int p4)] maxLocals)) t := fun t kk => pre214 t (by
          show Steps p.tables e below (T211.setTop (mkF m 84 #[.val (.long q0), .second, .val (.long q1), .second, .val (.long q2), .second, .val (.long q3), .second, .val (.int p4), .val .null, .val (.ref b174), .val (.int v200), .val (.int (0 : Int32)), .val (.long v206), .second, .val (.long v210), .second, .unset] [(.int (own_f3 q0 v206))])) _
          refine XS.ifNo X211.here hx rfl (hb hby at_84) rfl ((if0 _ _).trans (feq hc215).1) ?_
          show Steps p.tables e below (T211.setTop (mkF m 87 #[.val (.long q0), .second, .val (.long q1), .second, .val (.long q2), .second, .val (.long q3), .second, .val (.int p4), .val .null, .val (.ref b174), .val (.int v200), .val (.int (0 : Int32)), .val (.long v206), .second, .val (.long v210), .second, .unset] [])) _
          refine XS.aload X211.here hx rfl (hb hby at_87) rfl rfl ?_
          show Steps p.tables e below (T211.setTop (mkF m 89 #[.val (.long q0), .second, .val (.long q1), .second, .val (.long q2), .second, .val (.long q3), .second, .val (.int p4), .val .null, .val (.ref b174), .val (.int v200), .val (.int (0 : Int32)), .val (.long v206), .second, .val (.long v210), .second, .unset] [(.ref b174)])) _
          refine XS.lload X211.here hx rfl (hb hby at_89) rfl ?_
          show Steps p.tables e below (T211.setTop (mkF m 91 #[.val (.long q0), .second, .val (.long q1), .second, .val (.long q2), .second, .val (.long q3), .second, .val (.int p4), .val .null, .val (.ref b174), .val (.int v200), .val (.int (0 : Int32)), .val (.long v206), .second, .val (.long v210), .second, .unset] [(.long v210), (.ref b174)])) _
          refine st218.trans ?_
          show Steps p.tables e below (T218.setTop (mkF m 94 #[.val (.long q0), .second, .val (.long q1), .second, .val (.long q2), .second, .val (.long q3), .second, .val (.int p4), .val .null, .val (.ref b174), .val (.int v200), .val (.int (0 : Int32)), .val (.long v206), .second, .val (.long v210), .second, .unset] [(.int (own_f3 q0 v210))])) _
          exact kk)
        by_cases hc222 : (own_f3 q0 v210) = (0 : Int32)
        · have pre223 : ∀ t, Steps p.tables e below (T218.setTop (mkF m 106 #[.val (.long q0), .second, .val (.long q1), .second, .val (.long q2), .second, .val (.long q3), .second, .val (.int p4), .val .null, .val (.ref b174), .val (.int v200), .val (.int (0 : Int32)), .val (.long v206), .second, .val (.long v210), .second, .val (.int (0 : Int32))] [(.int v200)])) t → Steps p.tables e below (s₁.setTop (entryFrame m #[(.long q0), (.long q1), (.long q2), (.long q3), (.int p4)] maxLocals)) t := fun t kk => pre221 t (by
            show Steps p.tables e below (T218.setTop (mkF m 94 #[.val (.long q0), .second, .val (.long q1), .second, .val (.long q2), .second, .val (.long q3), .second, .val (.int p4), .val .null, .val (.ref b174), .val (.int v200), .val (.int (0 : Int32)), .val (.long v206), .second, .val (.long v210), .second, .unset] [(.int (own_f3 q0 v210))])) _
            refine XS.ifYes X218.here hx rfl (pc0 := 94) (pc' := 101) rfl (hb hby at_94) rfl ((if0 _ _).trans (teq hc222).1) (by decide) (by decide) ?_
            show Steps p.tables e below (T218.setTop (mkF m 101 #[.val (.long q0), .second, .val (.long q1), .second, .val (.long q2), .second, .val (.long q3), .second, .val (.int p4), .val .null, .val (.ref b174), .val (.int v200), .val (.int (0 : Int32)), .val (.long v206), .second, .val (.long v210), .second, .unset] [])) _
            refine XS.iconst X218.here hx rfl (hb hby at_101) ?_
            show Steps p.tables e below (T218.setTop (mkF m 102 #[.val (.long q0), .second, .val (.long q1), .second, .val (.long q2), .second, .val (.long q3), .second, .val (.int p4), .val .null, .val (.ref b174), .val (.int v200), .val (.int (0 : Int32)), .val (.long v206), .second, .val (.long v210), .second, .unset] [(.int (0 : Int32))])) _
            refine XS.istore X218.here hx rfl (hb hby at_102) rfl (l' := #[.val (.long q0), .second, .val (.long q1), .second, .val (.long q2), .second, .val (.long q3), .second, .val (.int p4), .val .null, .val (.ref b174), .val (.int v200), .val (.int (0 : Int32)), .val (.long v206), .second, .val (.long v210), .second, .val (.int (0 : Int32))]) rfl ?_
            show Steps p.tables e below (T218.setTop (mkF m 104 #[.val (.long q0), .second, .val (.long q1), .second, .val (.long q2), .second, .val (.long q3), .second, .val (.int p4), .val .null, .val (.ref b174), .val (.int v200), .val (.int (0 : Int32)), .val (.long v206), .second, .val (.long v210), .second, .val (.int (0 : Int32))] [])) _
            refine XS.iload X218.here hx rfl (hb hby at_104) rfl ?_
            show Steps p.tables e below (T218.setTop (mkF m 106 #[.val (.long q0), .second, .val (.long q1), .second, .val (.long q2), .second, .val (.long q3), .second, .val (.int p4), .val .null, .val (.ref b174), .val (.int v200), .val (.int (0 : Int32)), .val (.long v206), .second, .val (.long v210), .second, .val (.int (0 : Int32))] [(.int v200)])) _
            exact kk)
          by_cases hc224 : v200 = (0 : Int32)
          · exact (own_leaf0_18 q0 q1 q2 q3 p4 hc83 v200 hv200 hc202 v206 hv206 v210 hv210 hc215 hc222 hc224).elim
          · exact (own_leaf0_19 q0 q1 q2 q3 p4 hc83 v200 hv200 hc202 v206 hv206 v210 hv210 hc215 hc222 hc224).elim
        · have pre225 : ∀ t, Steps p.tables e below (T218.setTop (mkF m 106 #[.val (.long q0), .second, .val (.long q1), .second, .val (.long q2), .second, .val (.long q3), .second, .val (.int p4), .val .null, .val (.ref b174), .val (.int v200), .val (.int (0 : Int32)), .val (.long v206), .second, .val (.long v210), .second, .val (.int (1 : Int32))] [(.int v200)])) t → Steps p.tables e below (s₁.setTop (entryFrame m #[(.long q0), (.long q1), (.long q2), (.long q3), (.int p4)] maxLocals)) t := fun t kk => pre221 t (by
            show Steps p.tables e below (T218.setTop (mkF m 94 #[.val (.long q0), .second, .val (.long q1), .second, .val (.long q2), .second, .val (.long q3), .second, .val (.int p4), .val .null, .val (.ref b174), .val (.int v200), .val (.int (0 : Int32)), .val (.long v206), .second, .val (.long v210), .second, .unset] [(.int (own_f3 q0 v210))])) _
            refine XS.ifNo X218.here hx rfl (hb hby at_94) rfl ((if0 _ _).trans (feq hc222).1) ?_
            show Steps p.tables e below (T218.setTop (mkF m 97 #[.val (.long q0), .second, .val (.long q1), .second, .val (.long q2), .second, .val (.long q3), .second, .val (.int p4), .val .null, .val (.ref b174), .val (.int v200), .val (.int (0 : Int32)), .val (.long v206), .second, .val (.long v210), .second, .unset] [])) _
            refine XS.iconst X218.here hx rfl (hb hby at_97) ?_
            show Steps p.tables e below (T218.setTop (mkF m 98 #[.val (.long q0), .second, .val (.long q1), .second, .val (.long q2), .second, .val (.long q3), .second, .val (.int p4), .val .null, .val (.ref b174), .val (.int v200), .val (.int (0 : Int32)), .val (.long v206), .second, .val (.long v210), .second, .unset] [(.int (1 : Int32))])) _
            refine XS.goto X218.here hx rfl (pc0 := 98) (pc' := 102) rfl (hb hby at_98) (by decide) (by decide) ?_
            show Steps p.tables e below (T218.setTop (mkF m 102 #[.val (.long q0), .second, .val (.long q1), .second, .val (.long q2), .second, .val (.long q3), .second, .val (.int p4), .val .null, .val (.ref b174), .val (.int v200), .val (.int (0 : Int32)), .val (.long v206), .second, .val (.long v210), .second, .unset] [(.int (1 : Int32))])) _
            refine XS.istore X218.here hx rfl (hb hby at_102) rfl (l' := #[.val (.long q0), .second, .val (.long q1), .second, .val (.long q2), .second, .val (.long q3), .second, .val (.int p4), .val .null, .val (.ref b174), .val (.int v200), .val (.int (0 : Int32)), .val (.long v206), .second, .val (.long v210), .second, .val (.int (1 : Int32))]) rfl ?_
            show Steps p.tables e below (T218.setTop (mkF m 104 #[.val (.long q0), .second, .val (.long q1), .second, .val (.long q2), .second, .val (.long q3), .second, .val (.int p4), .val .null, .val (.ref b174), .val (.int v200), .val (.int (0 : Int32)), .val (.long v206), .second, .val (.long v210), .second, .val (.int (1 : Int32))] [])) _
            refine XS.iload X218.here hx rfl (hb hby at_104) rfl ?_
            show Steps p.tables e below (T218.setTop (mkF m 106 #[.val (.long q0), .second, .val (.long q1), .second, .val (.long q2), .second, .val (.long q3), .second, .val (.int p4), .val .null, .val (.ref b174), .val (.int v200), .val (.int (0 : Int32)), .val (.long v206), .second, .val (.long v210), .second, .val (.int (1 : Int32))] [(.int v200)])) _
            exact kk)
          by_cases hc226 : v200 = (0 : Int32)
          · exact (own_leaf0_20 q0 q1 q2 q3 p4 hc83 v200 hv200 hc202 v206 hv206 v210 hv210 hc215 hc222 hc226).elim
          · obtain ⟨fs, hr, hrun, hended, hR1, hR2, hR3, hR4⟩ := Stand.leaveW (s := s) (vm₁ := T182.vm) X218 hS182 (by rw [e220]; exact hk196) (v := some (.int (1 : Int32))) (fun h => by rw [Bd.returns] at h; cases h)
            refine ⟨_, _, pre225 _ ?_, hrun, hended, _, _, rfl, ?_, hR1, hR2, hR3, hR4.mono (by decide) (by decide)⟩
            · show Steps p.tables e below (T218.setTop (mkF m 106 #[.val (.long q0), .second, .val (.long q1), .second, .val (.long q2), .second, .val (.long q3), .second, .val (.int p4), .val .null, .val (.ref b174), .val (.int v200), .val (.int (0 : Int32)), .val (.long v206), .second, .val (.long v210), .second, .val (.int (1 : Int32))] [(.int v200)])) _
              refine XS.ifNo X218.here hx rfl (hb hby at_106) rfl ((if0 _ _).trans (feq hc226).1) ?_
              show Steps p.tables e below (T218.setTop (mkF m 109 #[.val (.long q0), .second, .val (.long q1), .second, .val (.long q2), .second, .val (.long q3), .second, .val (.int p4), .val .null, .val (.ref b174), .val (.int v200), .val (.int (0 : Int32)), .val (.long v206), .second, .val (.long v210), .second, .val (.int (1 : Int32))] [])) _
              refine XS.iload X218.here hx rfl (hb hby at_109) rfl ?_
              show Steps p.tables e below (T218.setTop (mkF m 111 #[.val (.long q0), .second, .val (.long q1), .second, .val (.long q2), .second, .val (.long q3), .second, .val (.int p4), .val .null, .val (.ref b174), .val (.int v200), .val (.int (0 : Int32)), .val (.long v206), .second, .val (.long v210), .second, .val (.int (1 : Int32))] [(.int (0 : Int32))])) _
              refine XS.ifNo X218.here hx rfl (hb hby at_111) rfl ((if0 _ _).trans (teq (by decide : (0 : Int32) = (0 : Int32))).2) ?_
              show Steps p.tables e below (T218.setTop (mkF m 114 #[.val (.long q0), .second, .val (.long q1), .second, .val (.long q2), .second, .val (.long q3), .second, .val (.int p4), .val .null, .val (.ref b174), .val (.int v200), .val (.int (0 : Int32)), .val (.long v206), .second, .val (.long v210), .second, .val (.int (1 : Int32))] [])) _
              refine XS.iload X218.here hx rfl (hb hby at_114) rfl ?_
              show Steps p.tables e below (T218.setTop (mkF m 116 #[.val (.long q0), .second, .val (.long q1), .second, .val (.long q2), .second, .val (.long q3), .second, .val (.int p4), .val .null, .val (.ref b174), .val (.int v200), .val (.int (0 : Int32)), .val (.long v206), .second, .val (.long v210), .second, .val (.int (1 : Int32))] [(.int (1 : Int32))])) _
              refine XS.ifNo X218.here hx rfl (hb hby at_116) rfl ((if0 _ _).trans (feq (by decide : ¬ ((1 : Int32) = (0 : Int32)))).1) ?_
              show Steps p.tables e below (T218.setTop (mkF m 119 #[.val (.long q0), .second, .val (.long q1), .second, .val (.long q2), .second, .val (.long q3), .second, .val (.int p4), .val .null, .val (.ref b174), .val (.int v200), .val (.int (0 : Int32)), .val (.long v206), .second, .val (.long v210), .second, .val (.int (1 : Int32))] [])) _
              refine XS.iconst X218.here hx rfl (hb hby at_119) ?_
              show Steps p.tables e below (T218.setTop (mkF m 120 #[.val (.long q0), .second, .val (.long q1), .second, .val (.long q2), .second, .val (.long q3), .second, .val (.int p4), .val .null, .val (.ref b174), .val (.int v200), .val (.int (0 : Int32)), .val (.long v206), .second, .val (.long v210), .second, .val (.int (1 : Int32))] [(.int (1 : Int32))])) _
              refine XS.goto X218.here hx rfl (pc0 := 120) (pc' := 124) rfl (hb hby at_120) (by decide) (by decide) ?_
              show Steps p.tables e below (T218.setTop (mkF m 124 #[.val (.long q0), .second, .val (.long q1), .second, .val (.long q2), .second, .val (.long q3), .second, .val (.int p4), .val .null, .val (.ref b174), .val (.int v200), .val (.int (0 : Int32)), .val (.long v206), .second, .val (.long v210), .second, .val (.int (1 : Int32))] [(.int (1 : Int32))])) _
              exact retN X218 hx (t := .boolean) Bd.returns (by simp) (hb hby at_124) hr
            · show own_Q0 Z q0 q1 q2 q3 p4 h0 n0 _ T218.heap _
              rw [e220]
              exact ⟨rfl, N219⟩
    · obtain ⟨cq227, kq227, q227a, q227b, q227c⟩ := isOf hZ182 e199 f192
      obtain ⟨_, _, ⟨T227, L227, k227, n227⟩, -, X227, ⟨Lc227, hQ227, l227, y227, z227⟩, st227⟩ := X197.virtualBack hx (y := (⟨"com/example/syncline/syncline/store/Record", "isExpiredAt", "(J)Z"⟩ : MethodName)) (z := (⟨"com/example/syncline/syncline/store/Record", "isExpiredAt", "(J)Z"⟩ : MethodName)) hown182 (mvT hZ182 (hw _ (List.mem_of_getElem? (i := 25) rfl))) (mvT hZ182 (hw _ (List.mem_of_getElem? (i := 26) rfl))) (notFace_of_selects (args := #[]) (mvT hZ182 (hw _ (List.mem_of_getElem? (i := 28) rfl)))) (mvT hZ182 (hw _ (List.mem_of_getElem? (i := 28) rfl))) (mvT hZ182 (hw _ (List.mem_of_getElem? (i := 27) rfl))) (by decide) (backOf (W := 0) (own_rm3 l Z av hw [] b174 (q0 - (1 : Int64)) (q0) T190.heap n0 z195 f193) hZ182 (hw _ (List.mem_of_getElem? (i := 29) rfl)) (hw _ (List.mem_of_getElem? (i := 2) rfl)) (by decide) (by decide)) q227a q227c (g := (mkF m 56 #[.val (.long q0), .second, .val (.long q1), .second, .val (.long q2), .second, .val (.long q3), .second, .val (.int p4), .val .null, .val (.ref b174), .val (.int v200), .unset, .unset, .unset, .unset, .unset, .unset] [(.long (q0 - (1 : Int64))), (.ref b174)])) rfl (by rw [hml]; rfl) (Steps.refl _) (argsL := [(.long (q0 - (1 : Int64)))]) (rest := []) (lenOf own_pd1 rfl) rfl (by show 2 * 0 + _ ≤ _; exact Nat.le_of_eq rfl) (hb hby at_56) (fun _ _ => ⟨rfl, e199, (by decide : 3 + 0 ≤ _), (by decide : 12 + 0 ≤ _)⟩)
      dsimp only [Pt.U, Pt.locs, Pt.cells, Pt.slots] at X227 l227 y227 z227 st227 hQ227
      subst l227 y227 z227
      obtain ⟨rfl, N227q, e229⟩ := hQ227
      have N228 := Fr.app N198 N227q
      obtain ⟨v230, hv230⟩ : ∃ z : Int32, z = (own_f3 q0 (q0 - (1 : Int64))) := ⟨_, rfl⟩
      obtain ⟨_, _, ⟨T231, L231, k231, n231⟩, -, X231, ⟨Lc231, hQ231, l231, y231, z231⟩, st231⟩ := Jvm.LawKit.callS X227 hx (y := (⟨"java/lang/Math", "min", "(JJ)J"⟩ : MethodName)) hown182 (mvT hZ182 (hw _ (List.mem_of_getElem? (i := 31) rfl))) (mvT hZ182 (hw _ (List.mem_of_getElem? (i := 32) rfl))) (mvT hZ182 (hw _ (List.mem_of_getElem? (i := 33) rfl))) (mvT hZ182 (hw _ (List.mem_of_getElem? (i := 34) rfl))) (by decide) (backOf (W := 0) (own_rm4 l Z av hw [] q1 q2 T190.heap n0 z195 ) hZ182 (hw _ (List.mem_of_getElem? (i := 34) rfl)) (hw _ (List.mem_of_getElem? (i := 33) rfl)) (by decide) (by decide)) (g := (mkF m 64 #[.val (.long q0), .second, .val (.long q1), .second, .val (.long q2), .second, .val (.long q3), .second, .val (.int p4), .val .null, .val (.ref b174), .val (.int v200), .val (.int v230), .unset, .unset, .unset, .unset, .unset] [(.long q2), (.long q1)])) rfl (by rw [hml]; rfl) (argsL := [(.long q1), (.long q2)]) (rest := []) (lenOf own_pd2 rfl) rfl (by show 2 * 0 + _ ≤ _; exact Nat.le_of_eq rfl) (hb hby at_64) (fun _ _ => ⟨rfl, e229, (by decide : 3 + 0 ≤ _), (by decide : 12 + 0 ≤ _)⟩)
      dsimp only [Pt.U, Pt.locs, Pt.cells, Pt.slots] at X231 l231 y231 z231 st231 hQ231
      subst l231 y231 z231
      obtain ⟨rfl, N231q, e233⟩ := hQ231
      have N232 := Fr.app N228 N231q
      obtain ⟨v234, hv234⟩ : ∃ z : Int64, z = (own_f4 q1 q2) := ⟨_, rfl⟩
      obtain ⟨_, _, ⟨T235, L235, k235, n235⟩, -, X235, ⟨Lc235, hQ235, l235, y235, z235⟩, st235⟩ := Jvm.LawKit.callS X231 hx (y := (⟨"java/lang/Math", "max", "(JJ)J"⟩ : MethodName)) hown182 (mvT hZ182 (hw _ (List.mem_of_getElem? (i := 35) rfl))) (mvT hZ182 (hw _ (List.mem_of_getElem? (i := 36) rfl))) (mvT hZ182 (hw _ (List.mem_of_getElem? (i := 33) rfl))) (mvT hZ182 (hw _ (List.mem_of_getElem? (i := 37) rfl))) (by decide) (backOf (W := 0) (own_rm5 l Z av hw [] q1 q2 T190.heap n0 z195 ) hZ182 (hw _ (List.mem_of_getElem? (i := 37) rfl)) (hw _ (List.mem_of_getElem? (i := 33) rfl)) (by decide) (by decide)) (g := (mkF m 72 #[.val (.long q0), .second, .val (.long q1), .second, .val (.long q2), .second, .val (.long q3), .second, .val (.int p4), .val .null, .val (.ref b174), .val (.int v200), .val (.int v230), .val (.long v234), .second, .unset, .unset, .unset] [(.long q2), (.long q1)])) rfl (by rw [hml]; rfl) (argsL := [(.long q1), (.long q2)]) (rest := []) (lenOf own_pd2 rfl) rfl (by show 2 * 0 + _ ≤ _; exact Nat.le_of_eq rfl) (hb hby at_72) (fun _ _ => ⟨rfl, e233, (by decide : 3 + 0 ≤ _), (by decide : 12 + 0 ≤ _)⟩)
      dsimp only [Pt.U, Pt.locs, Pt.cells, Pt.slots] at X235 l235 y235 z235 st235 hQ235
      subst l235 y235 z235
      obtain ⟨rfl, N235q, e237⟩ := hQ235
      have N236 := Fr.app N232 N235q
      obtain ⟨v238, hv238⟩ : ∃ z : Int64, z = (own_f5 q1 q2) := ⟨_, rfl⟩
      obtain ⟨cq239, kq239, q239a, q239b, q239c⟩ := isOf hZ182 e237 f192
      obtain ⟨_, _, ⟨T239, L239, k239, n239⟩, -, X239, ⟨Lc239, hQ239, l239, y239, z239⟩, st239⟩ := X235.virtualBack hx (y := (⟨"com/example/syncline/syncline/store/Record", "isExpiredAt", "(J)Z"⟩ : MethodName)) (z := (⟨"com/example/syncline/syncline/store/Record", "isExpiredAt", "(J)Z"⟩ : MethodName)) hown182 (mvT hZ182 (hw _ (List.mem_of_getElem? (i := 25) rfl))) (mvT hZ182 (hw _ (List.mem_of_getElem? (i := 26) rfl))) (notFace_of_selects (args := #[]) (mvT hZ182 (hw _ (List.mem_of_getElem? (i := 28) rfl)))) (mvT hZ182 (hw _ (List.mem_of_getElem? (i := 28) rfl))) (mvT hZ182 (hw _ (List.mem_of_getElem? (i := 27) rfl))) (by decide) (backOf (W := 0) (own_rm3 l Z av hw [] b174 v234 (q0) T190.heap n0 z195 f193) hZ182 (hw _ (List.mem_of_getElem? (i := 29) rfl)) (hw _ (List.mem_of_getElem? (i := 2) rfl)) (by decide) (by decide)) q239a q239c (g := (mkF m 81 #[.val (.long q0), .second, .val (.long q1), .second, .val (.long q2), .second, .val (.long q3), .second, .val (.int p4), .val .null, .val (.ref b174), .val (.int v200), .val (.int v230), .val (.long v234), .second, .val (.long v238), .second, .unset] [(.long v234), (.ref b174)])) rfl (by rw [hml]; rfl) (Steps.refl _) (argsL := [(.long v234)]) (rest := []) (lenOf own_pd1 rfl) rfl (by show 2 * 0 + _ ≤ _; exact Nat.le_of_eq rfl) (hb hby at_81) (fun _ _ => ⟨rfl, e237, (by decide : 3 + 0 ≤ _), (by decide : 12 + 0 ≤ _)⟩)
      dsimp only [Pt.U, Pt.locs, Pt.cells, Pt.slots] at X239 l239 y239 z239 st239 hQ239
      subst l239 y239 z239
      obtain ⟨rfl, N239q, e241⟩ := hQ239
      have N240 := Fr.app N236 N239q
      have pre242 : ∀ t, Steps p.tables e below (T239.setTop (mkF m 84 #[.val (.long q0), .second, .val (.long q1), .second, .val (.long q2), .second, .val (.long q3), .second, .val (.int p4), .val .null, .val (.ref b174), .val (.int v200), .val (.int v230), .val (.long v234), .second, .val (.long v238), .second, .unset] [(.int (own_f3 q0 v234))])) t → Steps p.tables e below (s₁.setTop (entryFrame m #[(.long q0), (.long q1), (.long q2), (.long q3), (.int p4)] maxLocals)) t := fun t kk => pre201 t (by
        show Steps p.tables e below (T197.setTop (mkF m 44 #[.val (.long q0), .second, .val (.long q1), .second, .val (.long q2), .second, .val (.long q3), .second, .val (.int p4), .val .null, .val (.ref b174), .val (.int v200), .unset, .unset, .unset, .unset, .unset, .unset] [(.int (lcmpW q0 (-9223372036854775808 : Int64)))])) _
        refine XS.ifYes X197.here hx rfl (pc0 := 44) (pc' := 51) rfl (hb hby at_44) rfl ((if0 _ _).trans (feq (mt (lw_eq q0 (-9223372036854775808 : Int64)).mp hc202)).2) (by decide) (by decide) ?_
        show Steps p.tables e below (T197.setTop (mkF m 51 #[.val (.long q0), .second, .val (.long q1), .second, .val (.long q2), .second, .val (.long q3), .second, .val (.int p4), .val .null, .val (.ref b174), .val (.int v200), .unset, .unset, .unset, .unset, .unset, .unset] [])) _
        refine XS.aload X197.here hx rfl (hb hby at_51) rfl rfl ?_
        show Steps p.tables e below (T197.setTop (mkF m 53 #[.val (.long q0), .second, .val (.long q1), .second, .val (.long q2), .second, .val (.long q3), .second, .val (.int p4), .val .null, .val (.ref b174), .val (.int v200), .unset, .unset, .unset, .unset, .unset, .unset] [(.ref b174)])) _
        refine XS.lloadN X197.here hx rfl (hb hby at_53) rfl ?_
        show Steps p.tables e below (T197.setTop (mkF m 54 #[.val (.long q0), .second, .val (.long q1), .second, .val (.long q2), .second, .val (.long q3), .second, .val (.int p4), .val .null, .val (.ref b174), .val (.int v200), .unset, .unset, .unset, .unset, .unset, .unset] [(.long q0), (.ref b174)])) _
        refine XS.lconst X197.here hx rfl (hb hby at_54) ?_
        show Steps p.tables e below (T197.setTop (mkF m 55 #[.val (.long q0), .second, .val (.long q1), .second, .val (.long q2), .second, .val (.long q3), .second, .val (.int p4), .val .null, .val (.ref b174), .val (.int v200), .unset, .unset, .unset, .unset, .unset, .unset] [(.long (1 : Int64)), (.long q0), (.ref b174)])) _
        refine XS.lsub X197.here hx rfl (hb hby at_55) rfl ?_
        show Steps p.tables e below (T197.setTop (mkF m 56 #[.val (.long q0), .second, .val (.long q1), .second, .val (.long q2), .second, .val (.long q3), .second, .val (.int p4), .val .null, .val (.ref b174), .val (.int v200), .unset, .unset, .unset, .unset, .unset, .unset] [(.long (q0 - (1 : Int64))), (.ref b174)])) _
        refine st227.trans ?_
        show Steps p.tables e below (T227.setTop (mkF m 59 #[.val (.long q0), .second, .val (.long q1), .second, .val (.long q2), .second, .val (.long q3), .second, .val (.int p4), .val .null, .val (.ref b174), .val (.int v200), .unset, .unset, .unset, .unset, .unset, .unset] [(.int (own_f3 q0 (q0 - (1 : Int64))))])) _
        refine castTop (congrArg (fun z : Int32 => mkF m 59 #[.val (.long q0), .second, .val (.long q1), .second, .val (.long q2), .second, .val (.long q3), .second, .val (.int p4), .val .null, .val (.ref b174), .val (.int v200), .unset, .unset, .unset, .unset, .unset, .unset] [(.int z)]) hv230.symm) ?_
        show Steps p.tables e below (T227.setTop (mkF m 59 #[.val (.long q0), .second, .val (.long q1), .second, .val (.long q2), .second, .val (.long q3), .second, .val (.int p4), .val .null, .val (.ref b174), .val (.int v200), .unset, .unset, .unset, .unset, .unset, .unset] [(.int v230)])) _
        refine XS.istore X227.here hx rfl (hb hby at_59) rfl (l' := #[.val (.long q0), .second, .val (.long q1), .second, .val (.long q2), .second, .val (.long q3), .second, .val (.int p4), .val .null, .val (.ref b174), .val (.int v200), .val (.int v230), .unset, .unset, .unset, .unset, .unset]) rfl ?_
        show Steps p.tables e below (T227.setTop (mkF m 61 #[.val (.long q0), .second, .val (.long q1), .second, .val (.long q2), .second, .val (.long q3), .second, .val (.int p4), .val .null, .val (.ref b174), .val (.int v200), .val (.int v230), .unset, .unset, .unset, .unset, .unset] [])) _
        refine XS.lloadN X227.here hx rfl (hb hby at_61) rfl ?_
        show Steps p.tables e below (T227.setTop (mkF m 62 #[.val (.long q0), .second, .val (.long q1), .second, .val (.long q2), .second, .val (.long q3), .second, .val (.int p4), .val .null, .val (.ref b174), .val (.int v200), .val (.int v230), .unset, .unset, .unset, .unset, .unset] [(.long q1)])) _
        refine XS.lload X227.here hx rfl (hb hby at_62) rfl ?_
        show Steps p.tables e below (T227.setTop (mkF m 64 #[.val (.long q0), .second, .val (.long q1), .second, .val (.long q2), .second, .val (.long q3), .second, .val (.int p4), .val .null, .val (.ref b174), .val (.int v200), .val (.int v230), .unset, .unset, .unset, .unset, .unset] [(.long q2), (.long q1)])) _
        refine st231 _ ?_
        show Steps p.tables e below (T231.setTop (mkF m 67 #[.val (.long q0), .second, .val (.long q1), .second, .val (.long q2), .second, .val (.long q3), .second, .val (.int p4), .val .null, .val (.ref b174), .val (.int v200), .val (.int v230), .unset, .unset, .unset, .unset, .unset] [(.long (own_f4 q1 q2))])) _
        refine castTop (congrArg (fun z : Int64 => mkF m 67 #[.val (.long q0), .second, .val (.long q1), .second, .val (.long q2), .second, .val (.long q3), .second, .val (.int p4), .val .null, .val (.ref b174), .val (.int v200), .val (.int v230), .unset, .unset, .unset, .unset, .unset] [(.long z)]) hv234.symm) ?_
        show Steps p.tables e below (T231.setTop (mkF m 67 #[.val (.long q0), .second, .val (.long q1), .second, .val (.long q2), .second, .val (.long q3), .second, .val (.int p4), .val .null, .val (.ref b174), .val (.int v200), .val (.int v230), .unset, .unset, .unset, .unset, .unset] [(.long v234)])) _
        refine XS.lstore X231.here hx rfl (hb hby at_67) rfl (l' := #[.val (.long q0), .second, .val (.long q1), .second, .val (.long q2), .second, .val (.long q3), .second, .val (.int p4), .val .null, .val (.ref b174), .val (.int v200), .val (.int v230), .val (.long v234), .second, .unset, .unset, .unset]) rfl ?_
        show Steps p.tables e below (T231.setTop (mkF m 69 #[.val (.long q0), .second, .val (.long q1), .second, .val (.long q2), .second, .val (.long q3), .second, .val (.int p4), .val .null, .val (.ref b174), .val (.int v200), .val (.int v230), .val (.long v234), .second, .unset, .unset, .unset] [])) _
        refine XS.lloadN X231.here hx rfl (hb hby at_69) rfl ?_
        show Steps p.tables e below (T231.setTop (mkF m 70 #[.val (.long q0), .second, .val (.long q1), .second, .val (.long q2), .second, .val (.long q3), .second, .val (.int p4), .val .null, .val (.ref b174), .val (.int v200), .val (.int v230), .val (.long v234), .second, .unset, .unset, .unset] [(.long q1)])) _
        refine XS.lload X231.here hx rfl (hb hby at_70) rfl ?_
        show Steps p.tables e below (T231.setTop (mkF m 72 #[.val (.long q0), .second, .val (.long q1), .second, .val (.long q2), .second, .val (.long q3), .second, .val (.int p4), .val .null, .val (.ref b174), .val (.int v200), .val (.int v230), .val (.long v234), .second, .unset, .unset, .unset] [(.long q2), (.long q1)])) _
        refine st235 _ ?_
        show Steps p.tables e below (T235.setTop (mkF m 75 #[.val (.long q0), .second, .val (.long q1), .second, .val (.long q2), .second, .val (.long q3), .second, .val (.int p4), .val .null, .val (.ref b174), .val (.int v200), .val (.int v230), .val (.long v234), .second, .unset, .unset, .unset] [(.long (own_f5 q1 q2))])) _
        refine castTop (congrArg (fun z : Int64 => mkF m 75 #[.val (.long q0), .second, .val (.long q1), .second, .val (.long q2), .second, .val (.long q3), .second, .val (.int p4), .val .null, .val (.ref b174), .val (.int v200), .val (.int v230), .val (.long v234), .second, .unset, .unset, .unset] [(.long z)]) hv238.symm) ?_
        show Steps p.tables e below (T235.setTop (mkF m 75 #[.val (.long q0), .second, .val (.long q1), .second, .val (.long q2), .second, .val (.long q3), .second, .val (.int p4), .val .null, .val (.ref b174), .val (.int v200), .val (.int v230), .val (.long v234), .second, .unset, .unset, .unset] [(.long v238)])) _
        refine XS.lstore X235.here hx rfl (hb hby at_75) rfl (l' := #[.val (.long q0), .second, .val (.long q1), .second, .val (.long q2), .second, .val (.long q3), .second, .val (.int p4), .val .null, .val (.ref b174), .val (.int v200), .val (.int v230), .val (.long v234), .second, .val (.long v238), .second, .unset]) rfl ?_
        show Steps p.tables e below (T235.setTop (mkF m 77 #[.val (.long q0), .second, .val (.long q1), .second, .val (.long q2), .second, .val (.long q3), .second, .val (.int p4), .val .null, .val (.ref b174), .val (.int v200), .val (.int v230), .val (.long v234), .second, .val (.long v238), .second, .unset] [])) _
        refine XS.aload X235.here hx rfl (hb hby at_77) rfl rfl ?_
        show Steps p.tables e below (T235.setTop (mkF m 79 #[.val (.long q0), .second, .val (.long q1), .second, .val (.long q2), .second, .val (.long q3), .second, .val (.int p4), .val .null, .val (.ref b174), .val (.int v200), .val (.int v230), .val (.long v234), .second, .val (.long v238), .second, .unset] [(.ref b174)])) _
        refine XS.lload X235.here hx rfl (hb hby at_79) rfl ?_
        show Steps p.tables e below (T235.setTop (mkF m 81 #[.val (.long q0), .second, .val (.long q1), .second, .val (.long q2), .second, .val (.long q3), .second, .val (.int p4), .val .null, .val (.ref b174), .val (.int v200), .val (.int v230), .val (.long v234), .second, .val (.long v238), .second, .unset] [(.long v234), (.ref b174)])) _
        refine st239.trans ?_
        show Steps p.tables e below (T239.setTop (mkF m 84 #[.val (.long q0), .second, .val (.long q1), .second, .val (.long q2), .second, .val (.long q3), .second, .val (.int p4), .val .null, .val (.ref b174), .val (.int v200), .val (.int v230), .val (.long v234), .second, .val (.long v238), .second, .unset] [(.int (own_f3 q0 v234))])) _
        exact kk)
      by_cases hc243 : (own_f3 q0 v234) = (0 : Int32)
      · have pre244 : ∀ t, Steps p.tables e below (T239.setTop (mkF m 106 #[.val (.long q0), .second, .val (.long q1), .second, .val (.long q2), .second, .val (.long q3), .second, .val (.int p4), .val .null, .val (.ref b174), .val (.int v200), .val (.int v230), .val (.long v234), .second, .val (.long v238), .second, .val (.int (1 : Int32))] [(.int v200)])) t → Steps p.tables e below (s₁.setTop (entryFrame m #[(.long q0), (.long q1), (.long q2), (.long q3), (.int p4)] maxLocals)) t := fun t kk => pre242 t (by
          show Steps p.tables e below (T239.setTop (mkF m 84 #[.val (.long q0), .second, .val (.long q1), .second, .val (.long q2), .second, .val (.long q3), .second, .val (.int p4), .val .null, .val (.ref b174), .val (.int v200), .val (.int v230), .val (.long v234), .second, .val (.long v238), .second, .unset] [(.int (own_f3 q0 v234))])) _
          refine XS.ifYes X239.here hx rfl (pc0 := 84) (pc' := 97) rfl (hb hby at_84) rfl ((if0 _ _).trans (teq hc243).1) (by decide) (by decide) ?_
          show Steps p.tables e below (T239.setTop (mkF m 97 #[.val (.long q0), .second, .val (.long q1), .second, .val (.long q2), .second, .val (.long q3), .second, .val (.int p4), .val .null, .val (.ref b174), .val (.int v200), .val (.int v230), .val (.long v234), .second, .val (.long v238), .second, .unset] [])) _
          refine XS.iconst X239.here hx rfl (hb hby at_97) ?_
          show Steps p.tables e below (T239.setTop (mkF m 98 #[.val (.long q0), .second, .val (.long q1), .second, .val (.long q2), .second, .val (.long q3), .second, .val (.int p4), .val .null, .val (.ref b174), .val (.int v200), .val (.int v230), .val (.long v234), .second, .val (.long v238), .second, .unset] [(.int (1 : Int32))])) _
          refine XS.goto X239.here hx rfl (pc0 := 98) (pc' := 102) rfl (hb hby at_98) (by decide) (by decide) ?_
          show Steps p.tables e below (T239.setTop (mkF m 102 #[.val (.long q0), .second, .val (.long q1), .second, .val (.long q2), .second, .val (.long q3), .second, .val (.int p4), .val .null, .val (.ref b174), .val (.int v200), .val (.int v230), .val (.long v234), .second, .val (.long v238), .second, .unset] [(.int (1 : Int32))])) _
          refine XS.istore X239.here hx rfl (hb hby at_102) rfl (l' := #[.val (.long q0), .second, .val (.long q1), .second, .val (.long q2), .second, .val (.long q3), .second, .val (.int p4), .val .null, .val (.ref b174), .val (.int v200), .val (.int v230), .val (.long v234), .second, .val (.long v238), .second, .val (.int (1 : Int32))]) rfl ?_
          show Steps p.tables e below (T239.setTop (mkF m 104 #[.val (.long q0), .second, .val (.long q1), .second, .val (.long q2), .second, .val (.long q3), .second, .val (.int p4), .val .null, .val (.ref b174), .val (.int v200), .val (.int v230), .val (.long v234), .second, .val (.long v238), .second, .val (.int (1 : Int32))] [])) _
          refine XS.iload X239.here hx rfl (hb hby at_104) rfl ?_
          show Steps p.tables e below (T239.setTop (mkF m 106 #[.val (.long q0), .second, .val (.long q1), .second, .val (.long q2), .second, .val (.long q3), .second, .val (.int p4), .val .null, .val (.ref b174), .val (.int v200), .val (.int v230), .val (.long v234), .second, .val (.long v238), .second, .val (.int (1 : Int32))] [(.int v200)])) _
          exact kk)
        by_cases hc245 : v200 = (0 : Int32)
        · exact (own_leaf0_22 q0 q1 q2 q3 p4 hc83 v200 hv200 hc202 v230 hv230 v234 hv234 v238 hv238 hc243 hc245).elim
        · have pre246 : ∀ t, Steps p.tables e below (T239.setTop (mkF m 111 #[.val (.long q0), .second, .val (.long q1), .second, .val (.long q2), .second, .val (.long q3), .second, .val (.int p4), .val .null, .val (.ref b174), .val (.int v200), .val (.int v230), .val (.long v234), .second, .val (.long v238), .second, .val (.int (1 : Int32))] [(.int v230)])) t → Steps p.tables e below (s₁.setTop (entryFrame m #[(.long q0), (.long q1), (.long q2), (.long q3), (.int p4)] maxLocals)) t := fun t kk => pre244 t (by
            show Steps p.tables e below (T239.setTop (mkF m 106 #[.val (.long q0), .second, .val (.long q1), .second, .val (.long q2), .second, .val (.long q3), .second, .val (.int p4), .val .null, .val (.ref b174), .val (.int v200), .val (.int v230), .val (.long v234), .second, .val (.long v238), .second, .val (.int (1 : Int32))] [(.int v200)])) _
            refine XS.ifNo X239.here hx rfl (hb hby at_106) rfl ((if0 _ _).trans (feq hc245).1) ?_
            show Steps p.tables e below (T239.setTop (mkF m 109 #[.val (.long q0), .second, .val (.long q1), .second, .val (.long q2), .second, .val (.long q3), .second, .val (.int p4), .val .null, .val (.ref b174), .val (.int v200), .val (.int v230), .val (.long v234), .second, .val (.long v238), .second, .val (.int (1 : Int32))] [])) _
            refine XS.iload X239.here hx rfl (hb hby at_109) rfl ?_
            show Steps p.tables e below (T239.setTop (mkF m 111 #[.val (.long q0), .second, .val (.long q1), .second, .val (.long q2), .second, .val (.long q3), .second, .val (.int p4), .val .null, .val (.ref b174), .val (.int v200), .val (.int v230), .val (.long v234), .second, .val (.long v238), .second, .val (.int (1 : Int32))] [(.int v230)])) _
            exact kk)
          by_cases hc247 : v230 = (0 : Int32)
          · obtain ⟨fs, hr, hrun, hended, hR1, hR2, hR3, hR4⟩ := Stand.leaveW (s := s) (vm₁ := T182.vm) X239 hS182 (by rw [e241]; exact hk196) (v := some (.int (1 : Int32))) (fun h => by rw [Bd.returns] at h; cases h)
            refine ⟨_, _, pre246 _ ?_, hrun, hended, _, _, rfl, ?_, hR1, hR2, hR3, hR4.mono (by decide) (by decide)⟩
            · show Steps p.tables e below (T239.setTop (mkF m 111 #[.val (.long q0), .second, .val (.long q1), .second, .val (.long q2), .second, .val (.long q3), .second, .val (.int p4), .val .null, .val (.ref b174), .val (.int v200), .val (.int v230), .val (.long v234), .second, .val (.long v238), .second, .val (.int (1 : Int32))] [(.int v230)])) _
              refine XS.ifNo X239.here hx rfl (hb hby at_111) rfl ((if0 _ _).trans (teq hc247).2) ?_
              show Steps p.tables e below (T239.setTop (mkF m 114 #[.val (.long q0), .second, .val (.long q1), .second, .val (.long q2), .second, .val (.long q3), .second, .val (.int p4), .val .null, .val (.ref b174), .val (.int v200), .val (.int v230), .val (.long v234), .second, .val (.long v238), .second, .val (.int (1 : Int32))] [])) _
              refine XS.iload X239.here hx rfl (hb hby at_114) rfl ?_
              show Steps p.tables e below (T239.setTop (mkF m 116 #[.val (.long q0), .second, .val (.long q1), .second, .val (.long q2), .second, .val (.long q3), .second, .val (.int p4), .val .null, .val (.ref b174), .val (.int v200), .val (.int v230), .val (.long v234), .second, .val (.long v238), .second, .val (.int (1 : Int32))] [(.int (1 : Int32))])) _
              refine XS.ifNo X239.here hx rfl (hb hby at_116) rfl ((if0 _ _).trans (feq (by decide : ¬ ((1 : Int32) = (0 : Int32)))).1) ?_
              show Steps p.tables e below (T239.setTop (mkF m 119 #[.val (.long q0), .second, .val (.long q1), .second, .val (.long q2), .second, .val (.long q3), .second, .val (.int p4), .val .null, .val (.ref b174), .val (.int v200), .val (.int v230), .val (.long v234), .second, .val (.long v238), .second, .val (.int (1 : Int32))] [])) _
              refine XS.iconst X239.here hx rfl (hb hby at_119) ?_
              show Steps p.tables e below (T239.setTop (mkF m 120 #[.val (.long q0), .second, .val (.long q1), .second, .val (.long q2), .second, .val (.long q3), .second, .val (.int p4), .val .null, .val (.ref b174), .val (.int v200), .val (.int v230), .val (.long v234), .second, .val (.long v238), .second, .val (.int (1 : Int32))] [(.int (1 : Int32))])) _
              refine XS.goto X239.here hx rfl (pc0 := 120) (pc' := 124) rfl (hb hby at_120) (by decide) (by decide) ?_
              show Steps p.tables e below (T239.setTop (mkF m 124 #[.val (.long q0), .second, .val (.long q1), .second, .val (.long q2), .second, .val (.long q3), .second, .val (.int p4), .val .null, .val (.ref b174), .val (.int v200), .val (.int v230), .val (.long v234), .second, .val (.long v238), .second, .val (.int (1 : Int32))] [(.int (1 : Int32))])) _
              exact retN X239 hx (t := .boolean) Bd.returns (by simp) (hb hby at_124) hr
            · show own_Q0 Z q0 q1 q2 q3 p4 h0 n0 _ T239.heap _
              rw [e241]
              exact ⟨rfl, N240⟩
          · exact (own_leaf0_24 q0 q1 q2 q3 p4 hc83 v200 hv200 hc202 v230 hv230 v234 hv234 v238 hv238 hc243 hc245 hc247).elim
      · obtain ⟨cq248, kq248, q248a, q248b, q248c⟩ := isOf hZ182 e241 f192
        obtain ⟨_, _, ⟨T248, L248, k248, n248⟩, -, X248, ⟨Lc248, hQ248, l248, y248, z248⟩, st248⟩ := X239.virtualBack hx (y := (⟨"com/example/syncline/syncline/store/Record", "isExpiredAt", "(J)Z"⟩ : MethodName)) (z := (⟨"com/example/syncline/syncline/store/Record", "isExpiredAt", "(J)Z"⟩ : MethodName)) hown182 (mvT hZ182 (hw _ (List.mem_of_getElem? (i := 25) rfl))) (mvT hZ182 (hw _ (List.mem_of_getElem? (i := 26) rfl))) (notFace_of_selects (args := #[]) (mvT hZ182 (hw _ (List.mem_of_getElem? (i := 28) rfl)))) (mvT hZ182 (hw _ (List.mem_of_getElem? (i := 28) rfl))) (mvT hZ182 (hw _ (List.mem_of_getElem? (i := 27) rfl))) (by decide) (backOf (W := 0) (own_rm3 l Z av hw [] b174 v238 (q0) T190.heap n0 z195 f193) hZ182 (hw _ (List.mem_of_getElem? (i := 29) rfl)) (hw _ (List.mem_of_getElem? (i := 2) rfl)) (by decide) (by decide)) q248a q248c (g := (mkF m 91 #[.val (.long q0), .second, .val (.long q1), .second, .val (.long q2), .second, .val (.long q3), .second, .val (.int p4), .val .null, .val (.ref b174), .val (.int v200), .val (.int v230), .val (.long v234), .second, .val (.long v238), .second, .unset] [(.long v238), (.ref b174)])) rfl (by rw [hml]; rfl) (Steps.refl _) (argsL := [(.long v238)]) (rest := []) (lenOf own_pd1 rfl) rfl (by show 2 * 0 + _ ≤ _; exact Nat.le_of_eq rfl) (hb hby at_91) (fun _ _ => ⟨rfl, e241, (by decide : 3 + 0 ≤ _), (by decide : 12 + 0 ≤ _)⟩)
        dsimp only [Pt.U, Pt.locs, Pt.cells, Pt.slots] at X248 l248 y248 z248 st248 hQ248
        subst l248 y248 z248
        obtain ⟨rfl, N248q, e250⟩ := hQ248
        have N249 := Fr.app N240 N248q
        have pre251 : ∀ t, Steps p.tables e below (T248.setTop (mkF m 94 #[.val (.long q0), .second, .val (.long q1), .second, .val (.long q2), .second, .val (.long q3), .second, .val (.int p4), .val .null, .val (.ref b174), .val (.int v200), .val (.int v230), .val (.long v234), .second, .val (.long v238), .second, .unset] [(.int (own_f3 q0 v238))])) t → Steps p.tables e below (s₁.setTop (entryFrame m #[(.long q0), (.long q1), (.long q2), (.long q3), (.int p4)] maxLocals)) t := fun t kk => pre242 t (by
          show Steps p.tables e below (T239.setTop (mkF m 84 #[.val (.long q0), .second, .val (.long q1), .second, .val (.long q2), .second, .val (.long q3), .second, .val (.int p4), .val .null, .val (.ref b174), .val (.int v200), .val (.int v230), .val (.long v234), .second, .val (.long v238), .second, .unset] [(.int (own_f3 q0 v234))])) _
          refine XS.ifNo X239.here hx rfl (hb hby at_84) rfl ((if0 _ _).trans (feq hc243).1) ?_
          show Steps p.tables e below (T239.setTop (mkF m 87 #[.val (.long q0), .second, .val (.long q1), .second, .val (.long q2), .second, .val (.long q3), .second, .val (.int p4), .val .null, .val (.ref b174), .val (.int v200), .val (.int v230), .val (.long v234), .second, .val (.long v238), .second, .unset] [])) _
          refine XS.aload X239.here hx rfl (hb hby at_87) rfl rfl ?_
          show Steps p.tables e below (T239.setTop (mkF m 89 #[.val (.long q0), .second, .val (.long q1), .second, .val (.long q2), .second, .val (.long q3), .second, .val (.int p4), .val .null, .val (.ref b174), .val (.int v200), .val (.int v230), .val (.long v234), .second, .val (.long v238), .second, .unset] [(.ref b174)])) _
          refine XS.lload X239.here hx rfl (hb hby at_89) rfl ?_
          show Steps p.tables e below (T239.setTop (mkF m 91 #[.val (.long q0), .second, .val (.long q1), .second, .val (.long q2), .second, .val (.long q3), .second, .val (.int p4), .val .null, .val (.ref b174), .val (.int v200), .val (.int v230), .val (.long v234), .second, .val (.long v238), .second, .unset] [(.long v238), (.ref b174)])) _
          refine st248.trans ?_
          show Steps p.tables e below (T248.setTop (mkF m 94 #[.val (.long q0), .second, .val (.long q1), .second, .val (.long q2), .second, .val (.long q3), .second, .val (.int p4), .val .null, .val (.ref b174), .val (.int v200), .val (.int v230), .val (.long v234), .second, .val (.long v238), .second, .unset] [(.int (own_f3 q0 v238))])) _
          exact kk)
        by_cases hc252 : (own_f3 q0 v238) = (0 : Int32)
        · have pre253 : ∀ t, Steps p.tables e below (T248.setTop (mkF m 106 #[.val (.long q0), .second, .val (.long q1), .second, .val (.long q2), .second, .val (.long q3), .second, .val (.int p4), .val .null, .val (.ref b174), .val (.int v200), .val (.int v230), .val (.long v234), .second, .val (.long v238), .second, .val (.int (0 : Int32))] [(.int v200)])) t → Steps p.tables e below (s₁.setTop (entryFrame m #[(.long q0), (.long q1), (.long q2), (.long q3), (.int p4)] maxLocals)) t := fun t kk => pre251 t (by
            show Steps p.tables e below (T248.setTop (mkF m 94 #[.val (.long q0), .second, .val (.long q1), .second, .val (.long q2), .second, .val (.long q3), .second, .val (.int p4), .val .null, .val (.ref b174), .val (.int v200), .val (.int v230), .val (.long v234), .second, .val (.long v238), .second, .unset] [(.int (own_f3 q0 v238))])) _
            refine XS.ifYes X248.here hx rfl (pc0 := 94) (pc' := 101) rfl (hb hby at_94) rfl ((if0 _ _).trans (teq hc252).1) (by decide) (by decide) ?_
            show Steps p.tables e below (T248.setTop (mkF m 101 #[.val (.long q0), .second, .val (.long q1), .second, .val (.long q2), .second, .val (.long q3), .second, .val (.int p4), .val .null, .val (.ref b174), .val (.int v200), .val (.int v230), .val (.long v234), .second, .val (.long v238), .second, .unset] [])) _
            refine XS.iconst X248.here hx rfl (hb hby at_101) ?_
            show Steps p.tables e below (T248.setTop (mkF m 102 #[.val (.long q0), .second, .val (.long q1), .second, .val (.long q2), .second, .val (.long q3), .second, .val (.int p4), .val .null, .val (.ref b174), .val (.int v200), .val (.int v230), .val (.long v234), .second, .val (.long v238), .second, .unset] [(.int (0 : Int32))])) _
            refine XS.istore X248.here hx rfl (hb hby at_102) rfl (l' := #[.val (.long q0), .second, .val (.long q1), .second, .val (.long q2), .second, .val (.long q3), .second, .val (.int p4), .val .null, .val (.ref b174), .val (.int v200), .val (.int v230), .val (.long v234), .second, .val (.long v238), .second, .val (.int (0 : Int32))]) rfl ?_
            show Steps p.tables e below (T248.setTop (mkF m 104 #[.val (.long q0), .second, .val (.long q1), .second, .val (.long q2), .second, .val (.long q3), .second, .val (.int p4), .val .null, .val (.ref b174), .val (.int v200), .val (.int v230), .val (.long v234), .second, .val (.long v238), .second, .val (.int (0 : Int32))] [])) _
            refine XS.iload X248.here hx rfl (hb hby at_104) rfl ?_
            show Steps p.tables e below (T248.setTop (mkF m 106 #[.val (.long q0), .second, .val (.long q1), .second, .val (.long q2), .second, .val (.long q3), .second, .val (.int p4), .val .null, .val (.ref b174), .val (.int v200), .val (.int v230), .val (.long v234), .second, .val (.long v238), .second, .val (.int (0 : Int32))] [(.int v200)])) _
            exact kk)
          by_cases hc254 : v200 = (0 : Int32)
          · exact (own_leaf0_25 q0 q1 q2 q3 p4 hc83 v200 hv200 hc202 v230 hv230 v234 hv234 v238 hv238 hc243 hc252 hc254).elim
          · have pre255 : ∀ t, Steps p.tables e below (T248.setTop (mkF m 111 #[.val (.long q0), .second, .val (.long q1), .second, .val (.long q2), .second, .val (.long q3), .second, .val (.int p4), .val .null, .val (.ref b174), .val (.int v200), .val (.int v230), .val (.long v234), .second, .val (.long v238), .second, .val (.int (0 : Int32))] [(.int v230)])) t → Steps p.tables e below (s₁.setTop (entryFrame m #[(.long q0), (.long q1), (.long q2), (.long q3), (.int p4)] maxLocals)) t := fun t kk => pre253 t (by
              show Steps p.tables e below (T248.setTop (mkF m 106 #[.val (.long q0), .second, .val (.long q1), .second, .val (.long q2), .second, .val (.long q3), .second, .val (.int p4), .val .null, .val (.ref b174), .val (.int v200), .val (.int v230), .val (.long v234), .second, .val (.long v238), .second, .val (.int (0 : Int32))] [(.int v200)])) _
              refine XS.ifNo X248.here hx rfl (hb hby at_106) rfl ((if0 _ _).trans (feq hc254).1) ?_
              show Steps p.tables e below (T248.setTop (mkF m 109 #[.val (.long q0), .second, .val (.long q1), .second, .val (.long q2), .second, .val (.long q3), .second, .val (.int p4), .val .null, .val (.ref b174), .val (.int v200), .val (.int v230), .val (.long v234), .second, .val (.long v238), .second, .val (.int (0 : Int32))] [])) _
              refine XS.iload X248.here hx rfl (hb hby at_109) rfl ?_
              show Steps p.tables e below (T248.setTop (mkF m 111 #[.val (.long q0), .second, .val (.long q1), .second, .val (.long q2), .second, .val (.long q3), .second, .val (.int p4), .val .null, .val (.ref b174), .val (.int v200), .val (.int v230), .val (.long v234), .second, .val (.long v238), .second, .val (.int (0 : Int32))] [(.int v230)])) _
              exact kk)
            by_cases hc256 : v230 = (0 : Int32)
            · exact (own_leaf0_26 q0 q1 q2 q3 p4 hc83 v200 hv200 hc202 v230 hv230 v234 hv234 v238 hv238 hc243 hc252 hc254 hc256).elim
            · exact (own_leaf0_27 q0 q1 q2 q3 p4 hc83 v200 hv200 hc202 v230 hv230 v234 hv234 v238 hv238 hc243 hc252 hc254 hc256).elim
        · have pre257 : ∀ t, Steps p.tables e below (T248.setTop (mkF m 106 #[.val (.long q0), .second, .val (.long q1), .second, .val (.long q2), .second, .val (.long q3), .second, .val (.int p4), .val .null, .val (.ref b174), .val (.int v200), .val (.int v230), .val (.long v234), .second, .val (.long v238), .second, .val (.int (1 : Int32))] [(.int v200)])) t → Steps p.tables e below (s₁.setTop (entryFrame m #[(.long q0), (.long q1), (.long q2), (.long q3), (.int p4)] maxLocals)) t := fun t kk => pre251 t (by
            show Steps p.tables e below (T248.setTop (mkF m 94 #[.val (.long q0), .second, .val (.long q1), .second, .val (.long q2), .second, .val (.long q3), .second, .val (.int p4), .val .null, .val (.ref b174), .val (.int v200), .val (.int v230), .val (.long v234), .second, .val (.long v238), .second, .unset] [(.int (own_f3 q0 v238))])) _
            refine XS.ifNo X248.here hx rfl (hb hby at_94) rfl ((if0 _ _).trans (feq hc252).1) ?_
            show Steps p.tables e below (T248.setTop (mkF m 97 #[.val (.long q0), .second, .val (.long q1), .second, .val (.long q2), .second, .val (.long q3), .second, .val (.int p4), .val .null, .val (.ref b174), .val (.int v200), .val (.int v230), .val (.long v234), .second, .val (.long v238), .second, .unset] [])) _
            refine XS.iconst X248.here hx rfl (hb hby at_97) ?_
            show Steps p.tables e below (T248.setTop (mkF m 98 #[.val (.long q0), .second, .val (.long q1), .second, .val (.long q2), .second, .val (.long q3), .second, .val (.int p4), .val .null, .val (.ref b174), .val (.int v200), .val (.int v230), .val (.long v234), .second, .val (.long v238), .second, .unset] [(.int (1 : Int32))])) _
            refine XS.goto X248.here hx rfl (pc0 := 98) (pc' := 102) rfl (hb hby at_98) (by decide) (by decide) ?_
            show Steps p.tables e below (T248.setTop (mkF m 102 #[.val (.long q0), .second, .val (.long q1), .second, .val (.long q2), .second, .val (.long q3), .second, .val (.int p4), .val .null, .val (.ref b174), .val (.int v200), .val (.int v230), .val (.long v234), .second, .val (.long v238), .second, .unset] [(.int (1 : Int32))])) _
            refine XS.istore X248.here hx rfl (hb hby at_102) rfl (l' := #[.val (.long q0), .second, .val (.long q1), .second, .val (.long q2), .second, .val (.long q3), .second, .val (.int p4), .val .null, .val (.ref b174), .val (.int v200), .val (.int v230), .val (.long v234), .second, .val (.long v238), .second, .val (.int (1 : Int32))]) rfl ?_
            show Steps p.tables e below (T248.setTop (mkF m 104 #[.val (.long q0), .second, .val (.long q1), .second, .val (.long q2), .second, .val (.long q3), .second, .val (.int p4), .val .null, .val (.ref b174), .val (.int v200), .val (.int v230), .val (.long v234), .second, .val (.long v238), .second, .val (.int (1 : Int32))] [])) _
            refine XS.iload X248.here hx rfl (hb hby at_104) rfl ?_
            show Steps p.tables e below (T248.setTop (mkF m 106 #[.val (.long q0), .second, .val (.long q1), .second, .val (.long q2), .second, .val (.long q3), .second, .val (.int p4), .val .null, .val (.ref b174), .val (.int v200), .val (.int v230), .val (.long v234), .second, .val (.long v238), .second, .val (.int (1 : Int32))] [(.int v200)])) _
            exact kk)
          by_cases hc258 : v200 = (0 : Int32)
          · exact (own_leaf0_28 q0 q1 q2 q3 p4 hc83 v200 hv200 hc202 v230 hv230 v234 hv234 v238 hv238 hc243 hc252 hc258).elim
          · have pre259 : ∀ t, Steps p.tables e below (T248.setTop (mkF m 111 #[.val (.long q0), .second, .val (.long q1), .second, .val (.long q2), .second, .val (.long q3), .second, .val (.int p4), .val .null, .val (.ref b174), .val (.int v200), .val (.int v230), .val (.long v234), .second, .val (.long v238), .second, .val (.int (1 : Int32))] [(.int v230)])) t → Steps p.tables e below (s₁.setTop (entryFrame m #[(.long q0), (.long q1), (.long q2), (.long q3), (.int p4)] maxLocals)) t := fun t kk => pre257 t (by
              show Steps p.tables e below (T248.setTop (mkF m 106 #[.val (.long q0), .second, .val (.long q1), .second, .val (.long q2), .second, .val (.long q3), .second, .val (.int p4), .val .null, .val (.ref b174), .val (.int v200), .val (.int v230), .val (.long v234), .second, .val (.long v238), .second, .val (.int (1 : Int32))] [(.int v200)])) _
              refine XS.ifNo X248.here hx rfl (hb hby at_106) rfl ((if0 _ _).trans (feq hc258).1) ?_
              show Steps p.tables e below (T248.setTop (mkF m 109 #[.val (.long q0), .second, .val (.long q1), .second, .val (.long q2), .second, .val (.long q3), .second, .val (.int p4), .val .null, .val (.ref b174), .val (.int v200), .val (.int v230), .val (.long v234), .second, .val (.long v238), .second, .val (.int (1 : Int32))] [])) _
              refine XS.iload X248.here hx rfl (hb hby at_109) rfl ?_
              show Steps p.tables e below (T248.setTop (mkF m 111 #[.val (.long q0), .second, .val (.long q1), .second, .val (.long q2), .second, .val (.long q3), .second, .val (.int p4), .val .null, .val (.ref b174), .val (.int v200), .val (.int v230), .val (.long v234), .second, .val (.long v238), .second, .val (.int (1 : Int32))] [(.int v230)])) _
              exact kk)
            by_cases hc260 : v230 = (0 : Int32)
            · obtain ⟨fs, hr, hrun, hended, hR1, hR2, hR3, hR4⟩ := Stand.leaveW (s := s) (vm₁ := T182.vm) X248 hS182 (by rw [e250]; exact hk196) (v := some (.int (1 : Int32))) (fun h => by rw [Bd.returns] at h; cases h)
              refine ⟨_, _, pre259 _ ?_, hrun, hended, _, _, rfl, ?_, hR1, hR2, hR3, hR4.mono (by decide) (by decide)⟩
              · show Steps p.tables e below (T248.setTop (mkF m 111 #[.val (.long q0), .second, .val (.long q1), .second, .val (.long q2), .second, .val (.long q3), .second, .val (.int p4), .val .null, .val (.ref b174), .val (.int v200), .val (.int v230), .val (.long v234), .second, .val (.long v238), .second, .val (.int (1 : Int32))] [(.int v230)])) _
                refine XS.ifNo X248.here hx rfl (hb hby at_111) rfl ((if0 _ _).trans (teq hc260).2) ?_
                show Steps p.tables e below (T248.setTop (mkF m 114 #[.val (.long q0), .second, .val (.long q1), .second, .val (.long q2), .second, .val (.long q3), .second, .val (.int p4), .val .null, .val (.ref b174), .val (.int v200), .val (.int v230), .val (.long v234), .second, .val (.long v238), .second, .val (.int (1 : Int32))] [])) _
                refine XS.iload X248.here hx rfl (hb hby at_114) rfl ?_
                show Steps p.tables e below (T248.setTop (mkF m 116 #[.val (.long q0), .second, .val (.long q1), .second, .val (.long q2), .second, .val (.long q3), .second, .val (.int p4), .val .null, .val (.ref b174), .val (.int v200), .val (.int v230), .val (.long v234), .second, .val (.long v238), .second, .val (.int (1 : Int32))] [(.int (1 : Int32))])) _
                refine XS.ifNo X248.here hx rfl (hb hby at_116) rfl ((if0 _ _).trans (feq (by decide : ¬ ((1 : Int32) = (0 : Int32)))).1) ?_
                show Steps p.tables e below (T248.setTop (mkF m 119 #[.val (.long q0), .second, .val (.long q1), .second, .val (.long q2), .second, .val (.long q3), .second, .val (.int p4), .val .null, .val (.ref b174), .val (.int v200), .val (.int v230), .val (.long v234), .second, .val (.long v238), .second, .val (.int (1 : Int32))] [])) _
                refine XS.iconst X248.here hx rfl (hb hby at_119) ?_
                show Steps p.tables e below (T248.setTop (mkF m 120 #[.val (.long q0), .second, .val (.long q1), .second, .val (.long q2), .second, .val (.long q3), .second, .val (.int p4), .val .null, .val (.ref b174), .val (.int v200), .val (.int v230), .val (.long v234), .second, .val (.long v238), .second, .val (.int (1 : Int32))] [(.int (1 : Int32))])) _
                refine XS.goto X248.here hx rfl (pc0 := 120) (pc' := 124) rfl (hb hby at_120) (by decide) (by decide) ?_
                show Steps p.tables e below (T248.setTop (mkF m 124 #[.val (.long q0), .second, .val (.long q1), .second, .val (.long q2), .second, .val (.long q3), .second, .val (.int p4), .val .null, .val (.ref b174), .val (.int v200), .val (.int v230), .val (.long v234), .second, .val (.long v238), .second, .val (.int (1 : Int32))] [(.int (1 : Int32))])) _
                exact retN X248 hx (t := .boolean) Bd.returns (by simp) (hb hby at_124) hr
              · show own_Q0 Z q0 q1 q2 q3 p4 h0 n0 _ T248.heap _
                rw [e250]
                exact ⟨rfl, N249⟩
            · exact (own_leaf0_30 q0 q1 q2 q3 p4 hc83 v200 hv200 hc202 v230 hv230 v234 hv234 v238 hv238 hc243 hc252 hc258 hc260).elim
set_option maxRecDepth 65536 in
set_option maxHeartbeats 40000000 in
theorem comes_1 {Post : Tables → Env → Array Value → State → Outcome → State → Prop} (hpost : ∀ tb e args s v u, (limb_1_1.after args s (.returned v) u = true ∧ limb_1_2.after args s (.returned v) u = true ∧ True) → ReturnedEndW s (.returned v) u (Jvm.fieldLocs frame_1_writes args s ++ Jvm.arrayLocs frame_1_arrays args s ++ Jvm.staticLocs frame_1_statics s) 16 2176 → Post tb e args s (.returned v) u) :
    ArmFor flags0 classFile x code maxLocals ret World_1 tables_1 room_1 Calls_1 rest_1 Pre_1 Post := by
  intro l hfl _ _ p e ha hc hk s m args below hf hA hF happ hP
  obtain ⟨hcalls, hrest, hpre⟩ := hP
  obtain ⟨-, -, -, hnamed, -, -, -, hat⟩ := (Spec.applies_iff hf).mp happ
  obtain ⟨hg, hn⟩ := and_e (Cond.before_iff.mp (show (Jvm.Cond.and given_1 narrow_1).before args s = true from hpre))
  obtain ⟨gg1, gg2⟩ := and_e hg
  obtain ⟨gg3, gg4⟩ := and_e gg2
  obtain ⟨gg5, gg6⟩ := and_e gg4
  obtain ⟨gg7, gg8⟩ := and_e gg6
  obtain ⟨gg9, gg10⟩ := and_e gg8
  obtain ⟨w0, w1, w2, w3, w4, rfl⟩ : ∃ w0 w1 w2 w3 w4 : Value, args = #[w0, w1, w2, w3, w4] := by
    have hs : args.size = 5 := by simpa [Cond.value, given_1] using gg1
    obtain ⟨L⟩ := args
    match L, hs with
    | [w0, w1, w2, w3, w4], _ => exact ⟨w0, w1, w2, w3, w4, rfl⟩
  have hw := fun d (hd : d ∈ tables_1) => atoms_spec (ws := Jvm.Cond.code x code maxLocals ret :: tables_1) hat d (List.mem_cons_of_mem _ hd)
  have hfit : Fit s := fun {y c} hc i hi => by
    obtain ⟨ha, rfl⟩ := Array.getElem?_eq_some_iff.mp hc
    have q := List.all_eq_true.mp ((Array.all_eq_true_iff_forall_mem.mp hF) _ (Array.getElem_mem ha)) i (List.mem_range.mpr hi)
    simpa [Array.getElem?_eq_getElem hi] using q
  obtain ⟨i0, ei0⟩ := isL_v gg3
  obtain rfl : w0 = (.long i0) := Option.some.inj ei0
  obtain ⟨i1, ei1⟩ := isL_v gg5
  obtain rfl : w1 = (.long i1) := Option.some.inj ei1
  obtain ⟨i2, ei2⟩ := isL_v gg7
  obtain rfl : w2 = (.long i2) := Option.some.inj ei2
  obtain ⟨i3, ei3⟩ := isL_v gg9
  obtain rfl : w3 = (.long i3) := Option.some.inj ei3
  obtain ⟨i4, ei4⟩ := is_v gg10
  obtain rfl : w4 = (.int i4) := Option.some.inj ei4
  obtain ⟨n, o, h1, h2, h3, _, L, rfl, ⟨rfl, N⟩, hq⟩ := own_rm0 l s _ hw tables_1 i0 i1 i2 i3 i4 s.heap s.heap.size (Nat.le_refl _)  p e ha hc hk s m _ below hf ((Spec.applies_iff_loose hf).mp happ).1 ⟨rfl, State.Warmed39.refl s, rfl⟩ trivial
  refine ⟨n, _, h1, h2, h3, hpost _ _ _ _ _ _ ⟨Cond.after_iff.mpr rfl, Cond.after_iff.mpr (eq_i res_at (Term.int_eval (1)) rfl), trivial⟩ ⟨hq.1, hq.2.1, hq.2.2.1, (hq.2.2.2.sift fun y hy => Or.inr (N y hy)).mono (by decide) (by decide)⟩⟩
theorem main_1_1 : Claimed_1_1 := comes_1 fun _ _ _ _ _ _ h hF => ⟨h.1, hF⟩
theorem main_1_2 : Claimed_1_2 := comes_1 fun _ _ _ _ _ _ h hF => ⟨h.2.1, hF⟩
end Jvm.Pilot.@@N@@
namespace Jvm.Pilot.@@N@@
open Jvm Jvm.ClassFile Sem Op Lib Jvm.Free Jvm.Stand Jvm.Pilot.@@N@@.Jvm.D
/-! MADE BY PROGRAM (witnessworld.py) out of the Statement's table words and the real class files: 15 classes; the members and pool entries that the words name. The judged class is class 1, her method 1. -/
namespace start1
open Jvm.ClassFile
def u (s : String) : CpInfo := .utf8 (stringToUtf16 s)
/-- a pool by its gaps: so many unusable entries, then the entry; so many at the end -/
def gap : Nat → List CpInfo → List CpInfo
  | 0, r => r
  | n + 1, r => .unusable :: gap n r
def poolList (es : List (Nat × CpInfo)) (last : Nat) : List CpInfo := es.foldr (fun e r => gap e.1 (e.2 :: r)) (gap last [])
def pool (es : List (Nat × CpInfo)) (last : Nat) : Array CpInfo := ⟨poolList es last⟩
def fileOf (pool : Array CpInfo) (this : Nat) (attrs : Array Attribute := #[]) (ms : Array MethodInfo := #[]) (fl : Nat := 33) (sup : Nat := 0) (ifs : Array Nat := #[]) (fds : Array FieldInfo := #[]) : ClassFile where
  minorVersion := 0
  majorVersion := 65
  constantPool := pool
  accessFlags := fl
  thisClass := this
  superClass := sup
  interfaces := ifs
  fields := fds
  methods := ms
  attributes := attrs
def plain (name : String) (sup : Option ClassId) : Class where
  name := name
  kind := .ordinary
  loader := none
  accessFlags := 33
  super := sup
  interfaces := #[]
  cf := none
  fields := #[]
  methods := #[]
  instanceTypes := #[]
  staticTypes := #[]
  resolved := #[]
  callSites := []
  init := .initialized
  statics := none
  mirror := none

def pool0 : Array CpInfo := pool [(5, u "<init>"), (0, u "()V"), (1, .class_ 10), (1, u "java/lang/Object")] 113

def k0c0 : Code := { maxStack := 0, maxLocals := 1, code := object_method_1_code, exceptionTable := #[], attributes := #[] }
def k0m0 : Method := { name := "<init>", desc := "()V", sig := { parameters := [], returnType := none }, accessFlags := 1, code := some k0c0 }
/-- java/lang/Object -/
def k0 : Class := { plain "java/lang/Object" none with
  accessFlags := 33
  interfaces := #[]
  cf := some (fileOf pool0 8 #[] #[{ accessFlags := 1, nameIndex := 5, descriptorIndex := 6, attributes := #[] }] 33 0 #[] #[])
  fields := #[]
  methods := #[k0m0]
  instanceTypes := #[]
  staticTypes := #[]
  resolved := Array.replicate 124 none
  statics := none }

def pool1 : Array CpInfo := pool [(2, .class_ 4), (1, u "java/lang/Object"), (0, u "<init>"), (0, u "()V"), (0, .string 8), (0, u "v"), (0, .class_ 10), (0, u "com/example/syncline/syncline/store/Record"), (0, .string 12), (0, u "a"), (0, .methodref 9 14), (0, .nameAndType 5 15), (0, u "(Ljava/lang/String;JJLjava/lang/String;)V"), (0, .methodref 9 17), (0, .nameAndType 18 19), (0, u "isExpiredAt"), (0, u "(J)Z"), (2, .long 9223372036854775808), (1, .methodref 25 26), (0, .class_ 27), (0, .nameAndType 28 29), (0, u "java/lang/Math"), (0, u "min"), (0, u "(JJ)J"), (0, .methodref 25 31), (0, .nameAndType 32 29), (0, u "max"), (0, .class_ 34), (0, u "com/example/syncline/syncline/store/RecordIsExpiredAtPinLaw"), (2, u "law"), (0, u "(JJJJI)Z")] 5

def k1m0 : Method := { name := "<init>", desc := "()V", sig := { parameters := [], returnType := none }, accessFlags := 1, code := none }
def k1c1 : Code := { maxStack := 8, maxLocals := 18, code := code, exceptionTable := #[], attributes := #[] }
def k1m1 : Method := { name := "law", desc := "(JJJJI)Z", sig := { parameters := [.long, .long, .long, .long, .int], returnType := some .boolean }, accessFlags := 9, code := some k1c1 }
/-- com/example/syncline/syncline/store/RecordIsExpiredAtPinLaw -/
def k1 : Class := { plain "com/example/syncline/syncline/store/RecordIsExpiredAtPinLaw" (some 0) with
  accessFlags := 49
  interfaces := #[]
  cf := some (fileOf pool1 33 #[] #[{ accessFlags := 1, nameIndex := 5, descriptorIndex := 6, attributes := #[] }, { accessFlags := 9, nameIndex := 37, descriptorIndex := 38, attributes := #[] }] 49 2 #[] #[])
  fields := #[]
  methods := #[k1m0, k1m1]
  instanceTypes := #[]
  staticTypes := #[]
  resolved := Array.replicate 44 none
  statics := none }

def pool2 : Array CpInfo := pool [(3, .class_ 4), (0, u "com/example/syncline/syncline/store/Record"), (0, .methodref 6 7), (0, .class_ 8), (0, .nameAndType 9 10), (0, u "java/lang/Object"), (0, u "<init>"), (0, u "()V"), (0, .fieldref 3 12), (0, .nameAndType 13 14), (0, u "value"), (0, u "Ljava/lang/String;"), (0, .fieldref 3 16), (0, .nameAndType 17 18), (0, u "expiresAtMillis"), (0, u "J"), (0, .fieldref 3 20), (0, .nameAndType 21 18), (0, u "time"), (0, .fieldref 3 23), (0, .nameAndType 24 14), (0, u "node"), (6, u "isExpiredAt"), (0, u "(J)Z"), (10, u "COUNTER_BITS"), (0, u "I"), (2, u "MAX_MILLIS"), (2, u "(Ljava/lang/String;JJLjava/lang/String;)V")] 13

def k2c0 : Code := { maxStack := 3, maxLocals := 7, code := prog_20_method_1_code, exceptionTable := #[], attributes := #[] }
def k2m0 : Method := { name := "<init>", desc := "(Ljava/lang/String;JJLjava/lang/String;)V", sig := { parameters := [(.object "java/lang/String"), .long, .long, (.object "java/lang/String")], returnType := none }, accessFlags := 1, code := some k2c0 }
def k2c1 : Code := { maxStack := 4, maxLocals := 3, code := prog_20_method_9_code, exceptionTable := #[], attributes := #[] }
def k2m1 : Method := { name := "isExpiredAt", desc := "(J)Z", sig := { parameters := [.long], returnType := some .boolean }, accessFlags := 1, code := some k2c1 }
/-- com/example/syncline/syncline/store/Record -/
def k2 : Class := { plain "com/example/syncline/syncline/store/Record" (some 0) with
  accessFlags := 49
  interfaces := #[]
  cf := some (fileOf pool2 3 #[] #[{ accessFlags := 1, nameIndex := 9, descriptorIndex := 50, attributes := #[] }, { accessFlags := 1, nameIndex := 31, descriptorIndex := 32, attributes := #[] }] 49 6 #[] #[{ accessFlags := 25, nameIndex := 43, descriptorIndex := 44, attributes := #[] }, { accessFlags := 25, nameIndex := 47, descriptorIndex := 18, attributes := #[] }, { accessFlags := 18, nameIndex := 13, descriptorIndex := 14, attributes := #[] }, { accessFlags := 18, nameIndex := 17, descriptorIndex := 18, attributes := #[] }, { accessFlags := 18, nameIndex := 21, descriptorIndex := 18, attributes := #[] }, { accessFlags := 18, nameIndex := 24, descriptorIndex := 14, attributes := #[] }])
  fields := #[{ name := "COUNTER_BITS", type := .int, accessFlags := 25, slot := 0, constantValue := 0 }, { name := "MAX_MILLIS", type := .long, accessFlags := 25, slot := 1, constantValue := 0 }, { name := "value", type := (.object "java/lang/String"), accessFlags := 18, slot := 0, constantValue := 0 }, { name := "expiresAtMillis", type := .long, accessFlags := 18, slot := 1, constantValue := 0 }, { name := "time", type := .long, accessFlags := 18, slot := 2, constantValue := 0 }, { name := "node", type := (.object "java/lang/String"), accessFlags := 18, slot := 3, constantValue := 0 }]
  methods := #[k2m0, k2m1]
  instanceTypes := #[(.object "java/lang/String"), .long, .long, (.object "java/lang/String")]
  staticTypes := #[.int, .long]
  resolved := Array.replicate 64 none
  statics := none }

def pool3 : Array CpInfo := pool [(1, .class_ 2), (0, u "java/io/Serializable"), (0, .class_ 4), (0, u "java/lang/Object")] 2

/-- java/io/Serializable -/
def k3 : Class := { plain "java/io/Serializable" (some 0) with
  accessFlags := 1537
  interfaces := #[]
  cf := some (fileOf pool3 1 #[] #[] 1537 3 #[] #[])
  fields := #[]
  methods := #[]
  instanceTypes := #[]
  staticTypes := #[]
  resolved := Array.replicate 7 none
  statics := none }

def pool4 : Array CpInfo := pool [(1, .class_ 2), (0, u "java/lang/Comparable"), (0, .class_ 4), (0, u "java/lang/Object")] 7

/-- java/lang/Comparable -/
def k4 : Class := { plain "java/lang/Comparable" (some 0) with
  accessFlags := 1537
  interfaces := #[]
  cf := some (fileOf pool4 1 #[] #[] 1537 3 #[] #[])
  fields := #[]
  methods := #[]
  instanceTypes := #[]
  staticTypes := #[]
  resolved := Array.replicate 12 none
  statics := none }

def pool5 : Array CpInfo := pool [(2, .class_ 4), (1, u "java/lang/CharSequence"), (42, .class_ 48), (0, u "java/lang/CharSequence$1CodePointIterator"), (10, .class_ 60), (0, u "java/lang/CharSequence$1CharIterator"), (5, .class_ 67), (0, u "java/lang/Object")] 63

/-- java/lang/CharSequence -/
def k5 : Class := { plain "java/lang/CharSequence" (some 0) with
  accessFlags := 1537
  interfaces := #[]
  cf := some (fileOf pool5 2 #[.nestMembers #[47, 59]] #[] 1537 66 #[] #[])
  fields := #[]
  methods := #[]
  instanceTypes := #[]
  staticTypes := #[]
  resolved := Array.replicate 131 none
  statics := none }

def pool6 : Array CpInfo := pool [(1, .class_ 2), (0, u "java/lang/constant/Constable"), (0, .class_ 4), (0, u "java/lang/Object")] 6

/-- java/lang/constant/Constable -/
def k6 : Class := { plain "java/lang/constant/Constable" (some 0) with
  accessFlags := 1537
  interfaces := #[]
  cf := some (fileOf pool6 1 #[] #[] 1537 3 #[] #[])
  fields := #[]
  methods := #[]
  instanceTypes := #[]
  staticTypes := #[]
  resolved := Array.replicate 11 none
  statics := none }

def pool7 : Array CpInfo := pool [(1, .class_ 2), (0, u "java/lang/constant/ConstantDesc"), (0, .class_ 4), (0, u "java/lang/Object")] 32

/-- java/lang/constant/ConstantDesc -/
def k7 : Class := { plain "java/lang/constant/ConstantDesc" (some 0) with
  accessFlags := 1537
  interfaces := #[]
  cf := some (fileOf pool7 1 #[] #[] 1537 3 #[] #[])
  fields := #[]
  methods := #[]
  instanceTypes := #[]
  staticTypes := #[]
  resolved := Array.replicate 37 none
  statics := none }

def pool8 : Array CpInfo := pool [(2, .class_ 4), (1, u "java/lang/Object"), (0, u "<init>"), (0, u "()V"), (3, .class_ 12), (1, u "java/lang/String"), (0, u "value"), (0, u "[B"), (2, u "coder"), (0, u "B"), (2, u "hash"), (0, u "I"), (2, u "hashIsZero"), (0, u "Z"), (13, u "COMPACT_STRINGS"), (534, .class_ 576), (0, u "java/lang/CharSequence"), (22, u "CASE_INSENSITIVE_ORDER"), (0, u "Ljava/util/Comparator;"), (500, u "serialPersistentFields"), (0, u "[Ljava/io/ObjectStreamField;"), (0, .class_ 1104), (0, u "java/lang/String$CaseInsensitiveComparator"), (1, .class_ 1107), (0, u "java/io/Serializable"), (0, .class_ 1109), (0, u "java/lang/Comparable"), (0, .class_ 1111), (0, u "java/lang/constant/Constable"), (0, .class_ 1113), (0, u "java/lang/constant/ConstantDesc"), (2, u "serialVersionUID"), (0, u "J"), (3, u "REPL"), (0, u "C"), (2, u "LATIN1"), (1, u "UTF16")] 323

def k8m0 : Method := { name := "<init>", desc := "()V", sig := { parameters := [], returnType := none }, accessFlags := 1, code := none }
/-- java/lang/String -/
def k8 : Class := { plain "java/lang/String" (some 0) with
  accessFlags := 49
  interfaces := #[3, 4, 5, 6, 7]
  cf := some (fileOf pool8 10 #[.nestMembers #[1103]] #[{ accessFlags := 1, nameIndex := 5, descriptorIndex := 6, attributes := #[] }] 49 2 #[1106, 1108, 575, 1110, 1112] #[{ accessFlags := 18, nameIndex := 13, descriptorIndex := 14, attributes := #[] }, { accessFlags := 18, nameIndex := 17, descriptorIndex := 18, attributes := #[] }, { accessFlags := 2, nameIndex := 21, descriptorIndex := 22, attributes := #[] }, { accessFlags := 2, nameIndex := 25, descriptorIndex := 26, attributes := #[] }, { accessFlags := 26, nameIndex := 1116, descriptorIndex := 1117, attributes := #[] }, { accessFlags := 24, nameIndex := 40, descriptorIndex := 26, attributes := #[] }, { accessFlags := 26, nameIndex := 1101, descriptorIndex := 1102, attributes := #[] }, { accessFlags := 26, nameIndex := 1121, descriptorIndex := 1122, attributes := #[] }, { accessFlags := 25, nameIndex := 599, descriptorIndex := 600, attributes := #[] }, { accessFlags := 24, nameIndex := 1125, descriptorIndex := 18, attributes := #[] }, { accessFlags := 24, nameIndex := 1127, descriptorIndex := 18, attributes := #[] }])
  fields := #[{ name := "value", type := (.array .byte), accessFlags := 18, slot := 0, constantValue := 0 }, { name := "coder", type := .byte, accessFlags := 18, slot := 1, constantValue := 0 }, { name := "hash", type := .int, accessFlags := 2, slot := 2, constantValue := 0 }, { name := "hashIsZero", type := .boolean, accessFlags := 2, slot := 3, constantValue := 0 }, { name := "serialVersionUID", type := .long, accessFlags := 26, slot := 0, constantValue := 0 }, { name := "COMPACT_STRINGS", type := .boolean, accessFlags := 24, slot := 1, constantValue := 0 }, { name := "serialPersistentFields", type := (.array (.object "java/io/ObjectStreamField")), accessFlags := 26, slot := 2, constantValue := 0 }, { name := "REPL", type := .char, accessFlags := 26, slot := 3, constantValue := 0 }, { name := "CASE_INSENSITIVE_ORDER", type := (.object "java/util/Comparator"), accessFlags := 25, slot := 4, constantValue := 0 }, { name := "LATIN1", type := .byte, accessFlags := 24, slot := 5, constantValue := 0 }, { name := "UTF16", type := .byte, accessFlags := 24, slot := 6, constantValue := 0 }]
  methods := #[k8m0]
  instanceTypes := #[(.array .byte), .byte, .int, .boolean]
  staticTypes := #[.long, .boolean, (.array (.object "java/io/ObjectStreamField")), .char, (.object "java/util/Comparator"), .byte, .byte]
  resolved := Array.replicate 1451 none
  statics := none }

def pool9 : Array CpInfo := pool [(1, .class_ 2), (0, u "java/lang/Math"), (1, .class_ 6), (1, u "java/lang/Object"), (0, u "<init>"), (0, u "()V"), (89, .class_ 100), (1, u "java/lang/Math$RandomNumberGeneratorHolder"), (20, u "(JJ)J"), (50, u "negativeZeroFloatBits"), (0, u "J"), (2, u "negativeZeroDoubleBits"), (21, u "max"), (2, u "min"), (43, u "$assertionsDisabled"), (0, u "Z"), (91, u "twoToTheDoubleScaleDown"), (0, u "D"), (4, u "twoToTheDoubleScaleUp"), (9, u "E"), (3, u "PI"), (2, u "TAU"), (2, u "DEGREES_TO_RADIANS"), (0, u "RADIANS_TO_DEGREES")] 94

def k9m0 : Method := { name := "<init>", desc := "()V", sig := { parameters := [], returnType := none }, accessFlags := 2, code := none }
def k9c1 : Code := { maxStack := 4, maxLocals := 4, code := jdk_29_method_66_code, exceptionTable := #[], attributes := #[] }
def k9m1 : Method := { name := "max", desc := "(JJ)J", sig := { parameters := [.long, .long], returnType := some .long }, accessFlags := 9, code := some k9c1 }
def k9c2 : Code := { maxStack := 4, maxLocals := 4, code := jdk_29_method_70_code, exceptionTable := #[], attributes := #[] }
def k9m2 : Method := { name := "min", desc := "(JJ)J", sig := { parameters := [.long, .long], returnType := some .long }, accessFlags := 9, code := some k9c2 }
/-- java/lang/Math -/
def k9 : Class := { plain "java/lang/Math" (some 0) with
  accessFlags := 49
  interfaces := #[]
  cf := some (fileOf pool9 1 #[.nestMembers #[98]] #[{ accessFlags := 2, nameIndex := 7, descriptorIndex := 8, attributes := #[] }, { accessFlags := 9, nameIndex := 198, descriptorIndex := 121, attributes := #[] }, { accessFlags := 9, nameIndex := 201, descriptorIndex := 121, attributes := #[] }] 49 4 #[] #[{ accessFlags := 25, nameIndex := 354, descriptorIndex := 339, attributes := #[] }, { accessFlags := 25, nameIndex := 358, descriptorIndex := 339, attributes := #[] }, { accessFlags := 25, nameIndex := 361, descriptorIndex := 339, attributes := #[] }, { accessFlags := 26, nameIndex := 364, descriptorIndex := 339, attributes := #[] }, { accessFlags := 26, nameIndex := 365, descriptorIndex := 339, attributes := #[] }, { accessFlags := 26, nameIndex := 172, descriptorIndex := 173, attributes := #[] }, { accessFlags := 26, nameIndex := 176, descriptorIndex := 173, attributes := #[] }, { accessFlags := 8, nameIndex := 344, descriptorIndex := 339, attributes := #[] }, { accessFlags := 8, nameIndex := 338, descriptorIndex := 339, attributes := #[] }, { accessFlags := 4120, nameIndex := 245, descriptorIndex := 246, attributes := #[] }])
  fields := #[{ name := "E", type := .double, accessFlags := 25, slot := 0, constantValue := 0 }, { name := "PI", type := .double, accessFlags := 25, slot := 1, constantValue := 0 }, { name := "TAU", type := .double, accessFlags := 25, slot := 2, constantValue := 0 }, { name := "DEGREES_TO_RADIANS", type := .double, accessFlags := 26, slot := 3, constantValue := 0 }, { name := "RADIANS_TO_DEGREES", type := .double, accessFlags := 26, slot := 4, constantValue := 0 }, { name := "negativeZeroFloatBits", type := .long, accessFlags := 26, slot := 5, constantValue := 0 }, { name := "negativeZeroDoubleBits", type := .long, accessFlags := 26, slot := 6, constantValue := 0 }, { name := "twoToTheDoubleScaleUp", type := .double, accessFlags := 8, slot := 7, constantValue := 0 }, { name := "twoToTheDoubleScaleDown", type := .double, accessFlags := 8, slot := 8, constantValue := 0 }, { name := "$assertionsDisabled", type := .boolean, accessFlags := 4120, slot := 9, constantValue := 0 }]
  methods := #[k9m0, k9m1, k9m2]
  instanceTypes := #[]
  staticTypes := #[.double, .double, .double, .double, .double, .long, .long, .double, .double, .boolean]
  resolved := Array.replicate 460 none
  statics := none }

def pool10 : Array CpInfo := pool [(1, u "java/lang/Cloneable"), (0, .class_ 1), (0, u "java/lang/Object"), (0, .class_ 3)] 3

/-- java/lang/Cloneable -/
def k10 : Class := { plain "java/lang/Cloneable" (some 0) with
  accessFlags := 1537
  interfaces := #[]
  cf := some (fileOf pool10 2 #[] #[] 1537 4 #[] #[])
  fields := #[]
  methods := #[]
  instanceTypes := #[]
  staticTypes := #[]
  resolved := Array.replicate 8 none
  statics := none }

/-- the primitive byte -/
def k11 : Class := { plain "byte" none with kind := .primitive 'B', accessFlags := 0x411 }
/-- [B -/
def k12 : Class := { plain "[B" (some 0) with kind := .array 11 .byte, interfaces := #[10, 3], accessFlags := 1041 }

/-- the primitive int -/
def k13 : Class := { plain "int" none with kind := .primitive 'I', accessFlags := 0x411 }
/-- [I -/
def k14 : Class := { plain "[I" (some 0) with kind := .array 13 .int, interfaces := #[10, 3], accessFlags := 1041 }

def heap : Heap := #[]
def classes : Array Class := #[k0, k1, k2, k3, k4, k5, k6, k7, k8, k9, k10, k11, k12, k13, k14]
def interned : List (Array UInt16 × Addr) := []
def slotsUsed : Nat := 0
def theMethod : MethodId := ⟨1, 1⟩
def args0 : Array Value := #[.long 500, .long 6, .long 7, .long 8, .int 3]
def aboutOver (below : List Frame) : State where
  vm := { classes := classes, interned := interned.toArray }
  heap := heap
  slotsUsed := slotsUsed
  threads := #[{ frames := .invoking theMethod args0 :: below }]
def below0 : List Frame := [.native { method := ⟨0, 0⟩, args := #[] }]
def about1 : State := aboutOver below0
def p0 : Program := .bare "" "" ""
def e0 : Env := launch0.env 0 0 0
theorem w_frames : about1.frames = Frame.invoking theMethod args0 :: below0 := rfl
set_option maxRecDepth 65536 in
theorem w_args : argsFit about1.vm theMethod args0 = true := by decide +kernel
set_option maxRecDepth 65536 in
theorem w_heap : heapFits about1 = true := by decide +kernel
set_option maxRecDepth 65536 in
theorem w_runnable : about1.curStatus? = some .runnable := by decide +kernel
set_option maxRecDepth 65536 in
theorem w_alone : about1.alone = true := by decide +kernel
set_option maxRecDepth 65536 in
theorem w_named : about1.methodNamed? x = some theMethod := by decide +kernel
set_option maxRecDepth 65536 in
theorem w_hears : about1.hears theMethod below0 = true := by decide +kernel
set_option maxRecDepth 65536 in
theorem w_ripe : about1.ripe theMethod args0 below0 = true := by decide +kernel
theorem w_running : about1.status = .running := rfl
set_option maxRecDepth 65536 in
theorem w_room : about1.hasRoom e0.platform room_1 = true :=
  launch0.hasRoom_least _ room_1 (by decide +kernel) (by decide +kernel) (by decide +kernel) (by decide +kernel) (by decide +kernel) (by decide +kernel)
theorem allAtoms_all (ts : List Jvm.Cond) (a : Array Jvm.Value) (st : Jvm.State) : (allAtoms ts).before a st = ts.all (fun c => c.before a st) := by
  induction ts with
  | nil => rfl
  | cons c t ih =>
    show (Jvm.Cond.and c (allAtoms t)).before a st = _
    rw [Jvm.Cond.before_and, ih, List.all_cons]
def words1 : List Jvm.Cond := Jvm.Cond.code x code maxLocals ret :: tables_1
/-- a 'code' word, met by the world's own term for the bytes: nothing is compared byte by byte -/
theorem code_word {y : MethodName} {bytes : ByteArray} {mx : Nat} {rt : Option FieldType} {a : Array Value} {s : State} {m : MethodId} {meth : Method} {c : Code} (h1 : s.methodNamed? y = some m) (h2 : s.vm.method? m = some meth) (h3 : meth.code = some c) (h4 : c.code = bytes)
    (h5 : (c.maxLocals == mx && c.exceptionTable.isEmpty && decide (c.maxStack ≤ mostOperands) && decide (meth.sig.returnType = rt) && !meth.locks && decide (parseMethodDescriptor y.desc = some meth.sig)) = true) : (Jvm.Cond.code y bytes mx rt).before a s = true := by
  simp only [Bool.and_eq_true, beq_iff_eq, Bool.not_eq_true', decide_eq_true_eq] at h5
  obtain ⟨⟨⟨⟨⟨g1, g2⟩, g3⟩, g4⟩, g5⟩, g6⟩ := h5
  simp [Cond.before, Cond.holds, Cond.value, h1, h2, h3, h4, g1, g2, g3, g4, g5, g6]
def isCode : Jvm.Cond → Bool
  | .code _ _ _ _ => true
  | _ => false
theorem all_split {L : List Jvm.Cond} {P : Jvm.Cond → Bool} (h1 : L.all (fun c => isCode c || P c) = true) (h2 : ∀ c ∈ L.filter isCode, P c = true) : L.all P = true := by
  refine List.all_eq_true.mpr fun c hc => ?_
  have h := List.all_eq_true.mp h1 c hc
  rcases Bool.eq_false_or_eq_true (isCode c) with hi | hi
  · exact h2 c (List.mem_filter.mpr ⟨hc, hi⟩)
  · simpa [hi] using h
set_option maxRecDepth 65536 in
theorem w_c0 : (Jvm.Cond.code x code maxLocals ret).before args0 about1 = true := code_word (m := ⟨1, 1⟩) (meth := k1m1) (c := k1c1) (by decide +kernel) rfl rfl rfl (by decide +kernel)
set_option maxRecDepth 65536 in
theorem w_c1 : (Jvm.Cond.code ({ cls := "com/example/syncline/syncline/store/Record", name := "<init>", desc := "(Ljava/lang/String;JJLjava/lang/String;)V" } : Jvm.MethodName) prog_20_method_1_code (7 : Nat) (Option.none : Option Jvm.ClassFile.FieldType)).before args0 about1 = true := code_word (m := ⟨2, 0⟩) (meth := k2m0) (c := k2c0) (by decide +kernel) rfl rfl rfl (by decide +kernel)
set_option maxRecDepth 65536 in
theorem w_c2 : (Jvm.Cond.code ({ cls := "java/lang/Object", name := "<init>", desc := "()V" } : Jvm.MethodName) object_method_1_code (1 : Nat) (Option.none : Option Jvm.ClassFile.FieldType)).before args0 about1 = true := code_word (m := ⟨0, 0⟩) (meth := k0m0) (c := k0c0) (by decide +kernel) rfl rfl rfl (by decide +kernel)
set_option maxRecDepth 65536 in
theorem w_c3 : (Jvm.Cond.code ({ cls := "com/example/syncline/syncline/store/Record", name := "isExpiredAt", desc := "(J)Z" } : Jvm.MethodName) prog_20_method_9_code (3 : Nat) (Option.some Jvm.ClassFile.FieldType.boolean)).before args0 about1 = true := code_word (m := ⟨2, 1⟩) (meth := k2m1) (c := k2c1) (by decide +kernel) rfl rfl rfl (by decide +kernel)
set_option maxRecDepth 65536 in
theorem w_c4 : (Jvm.Cond.code ({ cls := "java/lang/Math", name := "min", desc := "(JJ)J" } : Jvm.MethodName) jdk_29_method_70_code (4 : Nat) (Option.some Jvm.ClassFile.FieldType.long)).before args0 about1 = true := code_word (m := ⟨9, 2⟩) (meth := k9m2) (c := k9c2) (by decide +kernel) rfl rfl rfl (by decide +kernel)
set_option maxRecDepth 65536 in
theorem w_c5 : (Jvm.Cond.code ({ cls := "java/lang/Math", name := "max", desc := "(JJ)J" } : Jvm.MethodName) jdk_29_method_66_code (4 : Nat) (Option.some Jvm.ClassFile.FieldType.long)).before args0 about1 = true := code_word (m := ⟨9, 1⟩) (meth := k9m1) (c := k9c1) (by decide +kernel) rfl rfl rfl (by decide +kernel)
def codes1 : List Jvm.Cond := [Jvm.Cond.code x code maxLocals ret, Jvm.Cond.code ({ cls := "com/example/syncline/syncline/store/Record", name := "<init>", desc := "(Ljava/lang/String;JJLjava/lang/String;)V" } : Jvm.MethodName) prog_20_method_1_code (7 : Nat) (Option.none : Option Jvm.ClassFile.FieldType), Jvm.Cond.code ({ cls := "java/lang/Object", name := "<init>", desc := "()V" } : Jvm.MethodName) object_method_1_code (1 : Nat) (Option.none : Option Jvm.ClassFile.FieldType), Jvm.Cond.code ({ cls := "com/example/syncline/syncline/store/Record", name := "isExpiredAt", desc := "(J)Z" } : Jvm.MethodName) prog_20_method_9_code (3 : Nat) (Option.some Jvm.ClassFile.FieldType.boolean), Jvm.Cond.code ({ cls := "java/lang/Math", name := "min", desc := "(JJ)J" } : Jvm.MethodName) jdk_29_method_70_code (4 : Nat) (Option.some Jvm.ClassFile.FieldType.long), Jvm.Cond.code ({ cls := "java/lang/Math", name := "max", desc := "(JJ)J" } : Jvm.MethodName) jdk_29_method_66_code (4 : Nat) (Option.some Jvm.ClassFile.FieldType.long)]
set_option maxRecDepth 65536 in
theorem codes_eq : words1.filter isCode = codes1 := rfl
theorem w_codes : ∀ c ∈ words1.filter isCode, c.before args0 about1 = true := by
  rw [codes_eq]
  intro c hc
  simp only [codes1, List.mem_cons, List.not_mem_nil, or_false] at hc
  rcases hc with rfl | rfl | rfl | rfl | rfl | rfl
  · exact w_c0
  · exact w_c1
  · exact w_c2
  · exact w_c3
  · exact w_c4
  · exact w_c5
set_option maxRecDepth 65536 in
theorem w_t1 : (words1.take 24).all (fun c => isCode c || c.before args0 about1) = true := by decide +kernel
set_option maxRecDepth 65536 in
theorem w_t2 : (words1.drop 24).all (fun c => isCode c || c.before args0 about1) = true := by decide +kernel
theorem w_tables : (allAtoms (Jvm.Cond.code x code maxLocals ret :: tables_1)).before args0 about1 = true := by
  rw [allAtoms_all]
  show words1.all (fun c => c.before args0 about1) = true
  refine all_split ?_ w_codes
  rw [← List.take_append_drop 24 words1, List.all_append, w_t1, w_t2]
  rfl
set_option maxRecDepth 65536 in
theorem w_case : (Jvm.Cond.and given_1 narrow_1).before args0 about1 = true := by decide +kernel
theorem w_applies : (headSpec (Jvm.Cond.code x code maxLocals ret :: tables_1) room_1).applies x e0.platform about1 = true :=
  (Spec.applies_iff w_frames).mpr ⟨w_running, w_runnable, w_alone, w_named, w_hears, w_ripe, w_room, w_tables⟩
theorem atStart : AtStart classFile x code maxLocals ret World_1 tables_1 room_1 Calls_1 rest_1 Pre_1 launch0 p0 e0 about1 theMethod args0 below0 :=
  ⟨lists_1, trivial, launch0.admits_env _ _ _, launch0.least_env, fairChoices_fair.cas, fairChoices_fair.clock, w_frames, w_args, w_heap, w_applies, trivial, trivial, w_case⟩
end start1
theorem witness_1 : WitnessClaimed_1 := ⟨start1.p0, start1.e0, start1.about1, start1.theMethod, start1.args0, start1.below0, start1.atStart⟩
end Jvm.Pilot.@@N@@
