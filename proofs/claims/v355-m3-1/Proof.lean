import JvmDerived
import JvmDerived.Pilot.@@N@@Statement
import JvmDerived.Pilot.@@N@@Code
set_option linter.unusedVariables false
set_option linter.unusedSimpArgs false
namespace Jvm.RoadKit
open Sem ClassFile Op Lib Jvm.Stand Jvm.Free Jvm.LawKit
section New
variable {p : Program} {l : Launch} {e : Env} {R : Room} {s : State} {m : MethodId} {args : Array Value} {below : List Frame} {meth : Method} {c : Code} {T : State} {locs : List Loc} {cells slots : Nat}
theorem retI (X : Stand p l e R s m args below meth c T locs cells slots) (hx : p.tables.exec = Jvm.exec) {pc : Nat} {Ls : Array Slot} {z : Int32} {rest : List Value} (hret : meth.sig.returnType = some .int) (hd : decode c.code pc = .ok (.ireturn, 1)) {fs : List Frame}
    (hl : ∀ (f : JFrame) (acts : List Action), f.method = m → f.locked = none → f.entered = [] → (doReturn e (T.setTop f) acts (some (.int z))).1 = T.setFrames fs) : Steps p.tables e below (T.setTop (mkF m pc Ls (.int z :: rest))) (T.setFrames fs) := by
  have hm' : T.vm.method? m = some meth := X.method'
  have hn : narrow .int (.int z) = .int z := rfl
  show Steps p.tables e below (T.setTop { method := m, pc := pc, locals := Ls, stack := _ :: rest, locked := none }) _
  jvm_step X.here [X.here.top, hx, hd, hm', hret, hn]
  first | (intro acts; rw [hl _ acts rfl rfl rfl]) | rw [hl _ _ rfl rfl rfl]
  exact Steps.refl _
end New
end Jvm.RoadKit
namespace Jvm.Pilot.@@N@@
open Jvm Jvm.ClassFile Sem Op Lib Jvm.Free Jvm.Stand Jvm.LawKit Jvm.RoadKit Bundle Jvm.Pilot.@@N@@.Jvm.D
theorem own_staKeep {Z : State} {h h' : Heap} {ws : List Addr} {C n d : String} {v : Value} (F : Sta Z h C n d v) (K : Keep h h' ws) (q : ∀ x ∈ ws, ∀ c : Cell, h[x]? = some c → c.vm.isStatics = false) : Sta Z h' C n d v := by
  obtain ⟨cf, i, k, f, st, cell, h1, h2, h3, h4, h5, h6, h7⟩ := F
  exact ⟨cf, i, k, f, st, cell, h1, h2, h3, h4, K.2.1 st cell h5 (fun z => by rw [q st z cell h5] at h6; cases h6), h6, h7⟩
theorem own_nsE {Z : State} {h : Heap} {a : Addr} {C : String} (F : Exa Z h a C) : ∀ c : Cell, h[a]? = some c → c.vm.isStatics = false := fun c hc => by
  obtain ⟨c', k, h1, -, -, h4, -⟩ := F; cases h1.symm.trans hc; exact h4
theorem own_nsA {Z : State} {h : Heap} {a : Addr} {k : ClassId} {ty : FieldType} {z : Int32} {vs : List Value} {dv : Value} (F : Arv Z h a k ty z vs dv) : ∀ c : Cell, h[a]? = some c → c.vm.isStatics = false := fun c hc => by
  obtain ⟨c', A, -⟩ := F; cases A.1.symm.trans hc; exact A.plain
theorem own_wS {a0 : Array Value} {Z : State} (hw : ∀ d ∈ tables_1, d.before a0 Z = true) : ∀ a ∈ Bundle.stringAtoms, a.before a0 Z = true := fun d hd => by
  simp only [Bundle.stringAtoms, List.mem_cons, List.not_mem_nil, or_false] at hd
  rcases hd with rfl | rfl | rfl | rfl | rfl | rfl | rfl
  · exact (hw _ (List.mem_of_getElem? (i := 13) rfl))
  · exact (hw _ (List.mem_of_getElem? (i := 12) rfl))
  · exact (hw _ (List.mem_of_getElem? (i := 29) rfl))
  · exact (hw _ (List.mem_of_getElem? (i := 39) rfl))
  · exact (hw _ (List.mem_of_getElem? (i := 37) rfl))
  · exact (hw _ (List.mem_of_getElem? (i := 181) rfl))
  · exact (hw _ (List.mem_of_getElem? (i := 182) rfl))
def own_EL : List (String × Nat) := [("java/lang/String", 7)]
theorem own_sl0 {Z : State} {vm : Vm} {h : Heap} : ∀ x ∈ ([] : List Addr), Safe Z own_EL vm h x ∧ x < h.size := fun _ q => nomatch q
theorem own_slS {Z : State} {vm : Vm} {h : Heap} {x : Addr} {xs : List Addr} (S : Safe Z own_EL vm h x) (q : x < h.size) (r : ∀ y ∈ xs, Safe Z own_EL vm h y ∧ y < h.size) : ∀ y ∈ x :: xs, Safe Z own_EL vm h y ∧ y < h.size := fun y z => (List.mem_cons.mp z).elim (fun u => u ▸ ⟨S, q⟩) (r y)
/-- a callee that may intern, keeps the invariant, and asks that some objects are none of the booked -/
theorem own_backSH {p : Program} {l : Launch} {e : Env} {R : Room} {s Z : State} {args a0 : Array Value} {below : List Frame} {vm0 : Vm} {h : Heap} {xs : List Addr} {y : MethodName} {bytes : ByteArray} {maxL : Nat} {ret : Option FieldType} {rm : Room} {len W : Nat} {as' : Array Value} {Q : Option Value → Heap → List Loc → Prop}
    (hM : MetFree l y (head1 [Jvm.Cond.code y bytes maxL ret] rm) (fun a U => a = as' ∧ Z.Warmed39 U.vm ∧ U.heap = h ∧ CHv Z own_EL U.vm h ∧ ∀ x ∈ xs, Safe Z own_EL U.vm h x) (fun _ _ _ _ _ => True) (fun _ U o U' => ∃ v L, o = .returned v ∧ Q v U'.heap L ∧ CHr Z own_EL U.vm U.heap U'.vm U'.heap ∧ ReturnedEndW U o U' L rm.cells rm.slots))
    (hZ : Z.Warmed39 (s.setVm vm0).vm) (wc : (Jvm.Cond.code y bytes maxL ret).before a0 Z = true) (wz : (Jvm.Cond.initialized y.cls).before a0 Z = true) (hf : rm.frames + 1 ≤ R.frames) (hl : W + (maxL + 11) + rm.locals ≤ R.locals) (hEL : EW Z a0 own_EL) (H : CHv Z own_EL vm0 h) (HS : ∀ x ∈ xs, Safe Z own_EL vm0 h x ∧ x < h.size) :
    BackS l R p e below (s.setVm vm0) args y len W (fun A a => a = as' ∧ A.U.heap = h ∧ A.cells + rm.cells ≤ R.cells ∧ A.slots + rm.slots ≤ R.slots)
      (fun A _ v B => ∃ L, Q v B.U.heap L ∧ B.locs = A.locs ++ L ∧ B.cells = A.cells + rm.cells ∧ B.slots = A.slots + rm.slots ∧ CHr Z own_EL vm0 h B.U.vm B.U.heap) :=
  BackS.of_freeW (bytes := bytes) (maxL := maxL) (ret := ret) (E := fun _ first o t L k n => k = rm.cells ∧ n = rm.slots ∧ (∃ v, o = .returned v ∧ Q v t.heap L) ∧ CHr Z own_EL first.vm first.heap t.vm t.heap) hM hf hl
    (fun m meth c A a Y hp => have hU : Z.Warmed39 A.U.vm := wtrans (s := s.setVm vm0) hZ Y.warmed
      ⟨by show (Jvm.Cond.and _ .tt).before a A.U = true; rw [Cond.before_and, mv hU wc]; rfl, mv hU wc, mv hU wz, hp.2.2.1, hp.2.2.2⟩)
    (fun m meth c A a g mk Y hp => ⟨hp.1, wtrans (s := s.setVm vm0) hZ Y.warmed, hp.2.1, (CHv.at Y hZ hEL H).1, fun x hx => (CHv.at Y hZ hEL H).safe (HS x hx).2 (HS x hx).1⟩) (fun _ _ _ _ _ _ _ _ _ => trivial)
    (fun _ _ _ _ ⟨v, L, h1, h2, h3, h4⟩ => ⟨L, _, _, h4, rfl, rfl, ⟨v, h1, h2⟩, h3⟩)
    (fun m meth c A a g mk v t L k n Y hp _ _ ⟨e1, e2, ⟨v', e3, e4⟩, e5⟩ => by
      cases e3; subst e1 e2
      refine ⟨L, e4, rfl, rfl, rfl, (CHv.at Y hZ hEL H).trans ?_⟩
      rw [← hp.2.1]; exact e5)
theorem own_hEL {a0 : Array Value} {Z : State} (hw : ∀ d ∈ tables_1, d.before a0 Z = true) : EW Z a0 own_EL := EW.cons (hw _ (List.mem_of_getElem? (i := 180) rfl)) (by intro c hc; simp at hc) EW.nil
theorem own_ne0 {args : Array Value} {Z : State} {t : Term} {k x : Int32} (h : (Jvm.Cond.not (Jvm.Cond.eq t (.int k))).value args Z none Z [] = some true) (e : t.eval args Z none [] Z = some (.int x)) : ¬ (x = k) := by
  intro q; subst q; simp [Cond.value, Term.eval, e] at h
theorem own_d7_0 : decode jdk_52_method_21_code 0 = .ok (.iconst 0, 1) := by decide +kernel
theorem own_d7_1 : decode jdk_52_method_21_code 1 = .ok (.istore 5, 2) := by decide +kernel
theorem own_d7_3 : decode jdk_52_method_21_code 3 = .ok (.iload 5, 2) := by decide +kernel
theorem own_d7_5 : decode jdk_52_method_21_code 5 = .ok (.iload 4, 2) := by decide +kernel
theorem own_d7_7 : decode jdk_52_method_21_code 7 = .ok (.if_icmp .ge 37, 3) := by decide +kernel
theorem own_d7_10 : decode jdk_52_method_21_code 10 = .ok (.aload_n 0, 1) := by decide +kernel
theorem own_d7_11 : decode jdk_52_method_21_code 11 = .ok (.iload_n 1, 1) := by decide +kernel
theorem own_d7_12 : decode jdk_52_method_21_code 12 = .ok (.caload, 1) := by decide +kernel
theorem own_d7_13 : decode jdk_52_method_21_code 13 = .ok (.istore 6, 2) := by decide +kernel
theorem own_d7_15 : decode jdk_52_method_21_code 15 = .ok (.iload 6, 2) := by decide +kernel
theorem own_d7_17 : decode jdk_52_method_21_code 17 = .ok (.sipush 255, 3) := by decide +kernel
theorem own_d7_20 : decode jdk_52_method_21_code 20 = .ok (.if_icmp .le 6, 3) := by decide +kernel
theorem own_d7_26 : decode jdk_52_method_21_code 26 = .ok (.aload_n 2, 1) := by decide +kernel
theorem own_d7_27 : decode jdk_52_method_21_code 27 = .ok (.iload_n 3, 1) := by decide +kernel
theorem own_d7_28 : decode jdk_52_method_21_code 28 = .ok (.iload 6, 2) := by decide +kernel
theorem own_d7_30 : decode jdk_52_method_21_code 30 = .ok (.i2b, 1) := by decide +kernel
theorem own_d7_31 : decode jdk_52_method_21_code 31 = .ok (.bastore, 1) := by decide +kernel
theorem own_d7_32 : decode jdk_52_method_21_code 32 = .ok (.iinc 1 1, 3) := by decide +kernel
theorem own_d7_35 : decode jdk_52_method_21_code 35 = .ok (.iinc 3 1, 3) := by decide +kernel
theorem own_d7_38 : decode jdk_52_method_21_code 38 = .ok (.iinc 5 1, 3) := by decide +kernel
theorem own_d7_41 : decode jdk_52_method_21_code 41 = .ok (.goto (-38), 3) := by decide +kernel
theorem own_d7_44 : decode jdk_52_method_21_code 44 = .ok (.iload 4, 2) := by decide +kernel
theorem own_d7_46 : decode jdk_52_method_21_code 46 = .ok (.ireturn, 1) := by decide +kernel
theorem own_pn23 : plainName "java/lang/StringUTF16" = true := by first | (simp [plainName, overriddenIn]; done) | decide +kernel
theorem own_efC2 (m : MethodId) (a0 : Addr) (p1 : Int32) (a2 : Addr) (p3 : Int32) (p4 : Int32) : entryFrame m #[(.ref a0), (.int p1), (.ref a2), (.int p3), (.int p4)] 7 = mkF m 0 #[.val (.ref a0), .val (.int p1), .val (.ref a2), .val (.int p3), .val (.int p4), .unset, .unset] [] := by first | (simp [entryFrame, mkF, argsToLocals, Value.category]; done) | rfl
def own_QC2 (Z : State) (a0 : Addr) (p1 : Int32) (a2 : Addr) (p3 : Int32) (p4 : Int32) (ka : ClassId) (c0 : Int32) (c1 : Int32) (kb : ClassId) (h0 : Heap) (n0 : Nat) (v : Option Value) (h : Heap) (L : List Loc) : Prop := ∃ vs : List Value, v = some (.int (2 : Int32)) ∧ Fr n0 L ∧ Keep h0 h [a2] ∧ (Arv Z h a2 kb .byte (2 : Int32) vs (.int (0 : Int32)))
set_option maxRecDepth 65536 in
set_option maxHeartbeats 40000000 in
theorem own_rmC2 (l : Launch) (Z : State) (av : Array Value) (hw : ∀ d ∈ tables_1, d.before av Z = true) (ws : List Jvm.Cond) (a0 : Addr) (p1 : Int32) (a2 : Addr) (p3 : Int32) (p4 : Int32) (ka : ClassId) (c0 : Int32) (c1 : Int32) (kb : ClassId) (h0 : Heap) (n0 : Nat) (Z0 : n0 ≤ h0.size) (pr0 : Arv Z h0 a0 ka .char (2 : Int32) [(.int c0), (.int c1)] (.int (0 : Int32))) (pr1 : Arv Z h0 a2 kb .byte (2 : Int32) [(.int (0 : Int32)), (.int (0 : Int32))] (.int (0 : Int32))) (g_a2 : n0 ≤ a2) (ne_a0_a2 : a0 ≠ a2) (hp1 : p1 = (0 : Int32)) (hp3 : p3 = (0 : Int32)) (hp4 : p4 = (2 : Int32)) (hl0 : ¬ ((255 : Int32) < c0)) (hl1 : ¬ ((255 : Int32) < c1)) :
    MetFree l (⟨"java/lang/StringUTF16", "compress", "([CI[BII)I"⟩ : MethodName) (head1 (Jvm.Cond.code (⟨"java/lang/StringUTF16", "compress", "([CI[BII)I"⟩ : MethodName) jdk_52_method_21_code 7 (some .int) :: ws) ({ frames := 0, cells := 0, slots := 0, locals := 0 } : Room)) (fun a U => a = #[(.ref a0), (.int p1), (.ref a2), (.int p3), (.int p4)] ∧ Z.Warmed39 U.vm ∧ U.heap = h0) (fun _ _ _ _ _ => True) (fun _ U o U' => ∃ v L, o = .returned v ∧ own_QC2 Z a0 p1 a2 p3 p4 ka c0 c1 kb h0 n0 v U'.heap L ∧ FrameEnd U o U' L ({ frames := 0, cells := 0, slots := 0, locals := 0 } : Room).cells ({ frames := 0, cells := 0, slots := 0, locals := 0 } : Room).slots) := by
  refine MetFree.of_bodySF (plainFor_of_name own_pn23) hisR ?_
  intro p e s m args below meth c s₁ Bd hml0 hP hK
  obtain ⟨rfl, hZ, hh⟩ := hP
  have hx := Bd.exec
  have hby := Bd.bytes
  have hml : c.maxLocals = 7 := hml0
  have hown : s.vm.findClass "java/lang/StringUTF16" = some m.cls := findClass_of_methodNamed Bd.named
  have hnm := (name_of_methodNamed Bd.named Bd.method).1
  have X0 : Stand p l e ({ frames := 0, cells := 0, slots := 0, locals := 0 } : Room) s m #[(.ref a0), (.int p1), (.ref a2), (.int p3), (.int p4)] below meth c s₁ [] 0 0 := Stand.of_body Bd
  have e0 : s₁.heap = h0 := by rw [← hh, Bd.state]; rfl
  have N0 := Fr.nil n0
  have pre0 : ∀ t, Steps p.tables e below (s₁.setTop (mkF m 0 #[.val (.ref a0), .val (.int p1), .val (.ref a2), .val (.int p3), .val (.int p4), .unset, .unset] [])) t → Steps p.tables e below (s₁.setTop (entryFrame m #[(.ref a0), (.int p1), (.ref a2), (.int p3), (.int p4)] 7)) t := fun t k => castTop (own_efC2 m a0 p1 a2 p3 p4) k
  subst hp1
  subst hp3
  subst hp4
  obtain ⟨cl1, Ar1, q1, S1, M1, H1, G1⟩ := id pr0
  have hin1 : ¬ ((0 : Int32) < 0 ∨ cl1.slots.size ≤ ((0 : Int32)).toNatClampNeg) := inb_of S1 ⟨by decide, by decide⟩
  have hat1 : cl1.slots[((0 : Int32)).toNatClampNeg]? = some (.int c0) := H1.at hin1 rfl
  obtain ⟨cl2, Ar2, q2, S2, M2, H2, G2⟩ := id pr1
  have hin2 : ¬ ((0 : Int32) < 0 ∨ cl2.slots.size ≤ ((0 : Int32)).toNatClampNeg) := inb_of S2 ⟨by decide, by decide⟩
  obtain ⟨T3, h3, X3, e3, W3, st3⟩ := stB X0 hx hZ e0 Ar2 (j := (0 : Int32)) hin2 (g := (mkF m 31 #[.val (.ref a0), .val (.int (0 : Int32)), .val (.ref a2), .val (.int (0 : Int32)), .val (.int (2 : Int32)), .val (.int (0 : Int32)), .val (.int c0)] [(.int (c0.toInt8.toInt32)), (.int (0 : Int32)), (.ref a2)])) rfl rfl (hb hby own_d7_31)
  have f4 := pr0.other W3 ne_a0_a2
  have K5 : Keep h0 h3 [a2] := (Keep.refl h0 [a2]).wr W3 (Or.inl (List.mem_of_getElem? (i := 0) rfl))
  have z6 : n0 ≤ h3.size := Nat.le_trans Z0 (Keep.of_wr W3).1
  have N7 := Fr.snoc X3 N0 g_a2
  have f8 : Arv Z h3 a2 kb .byte (2 : Int32) [(.int (nar .byte (c0.toInt8.toInt32))), (.int (0 : Int32))] (.int (0 : Int32)) := Arv.set Ar2 q2 S2 M2 H2 G2 (fits_nar_byte _) W3 0 rfl (Nat.le_of_ble_eq_true rfl)
  obtain ⟨cl9, Ar9, q9, S9, M9, H9, G9⟩ := id f4
  have hin9 : ¬ ((1 : Int32) < 0 ∨ cl9.slots.size ≤ ((1 : Int32)).toNatClampNeg) := inb_of S9 ⟨by decide, by decide⟩
  have hat9 : cl9.slots[((1 : Int32)).toNatClampNeg]? = some (.int c1) := H9.at hin9 rfl
  obtain ⟨cl10, Ar10, q10, S10, M10, H10, G10⟩ := id f8
  have hin10 : ¬ ((1 : Int32) < 0 ∨ cl10.slots.size ≤ ((1 : Int32)).toNatClampNeg) := inb_of S10 ⟨by decide, by decide⟩
  obtain ⟨T11, h11, X11, e11, W11, st11⟩ := stB X3 hx hZ e3 Ar10 (j := (1 : Int32)) hin10 (g := (mkF m 31 #[.val (.ref a0), .val (.int (1 : Int32)), .val (.ref a2), .val (.int (1 : Int32)), .val (.int (2 : Int32)), .val (.int (1 : Int32)), .val (.int c1)] [(.int (c1.toInt8.toInt32)), (.int (1 : Int32)), (.ref a2)])) rfl rfl (hb hby own_d7_31)
  have f12 := f4.other W11 ne_a0_a2
  have K13 : Keep h0 h11 [a2] := K5.wr W11 (Or.inl (List.mem_of_getElem? (i := 0) rfl))
  have z14 : n0 ≤ h11.size := Nat.le_trans z6 (Keep.of_wr W11).1
  have N15 := Fr.snoc X11 N7 g_a2
  have f16 : Arv Z h11 a2 kb .byte (2 : Int32) [(.int (nar .byte (c0.toInt8.toInt32))), (.int (nar .byte (c1.toInt8.toInt32)))] (.int (0 : Int32)) := Arv.set Ar10 q10 S10 M10 H10 G10 (fits_nar_byte _) W11 1 rfl (Nat.le_of_ble_eq_true rfl)
  obtain ⟨fs, hr, hrun, hended, hW, hsame⟩ := X11.leave (v := some (.int (2 : Int32))) (fun h => by rw [Bd.returns] at h; cases h)
  refine ⟨_, _, pre0 _ ?_, hrun, hended, _, _, rfl, ?_, ⟨_, rfl⟩, hW, hsame.mono (by decide) (by decide)⟩
  · show Steps p.tables e below (s₁.setTop (mkF m 0 #[.val (.ref a0), .val (.int (0 : Int32)), .val (.ref a2), .val (.int (0 : Int32)), .val (.int (2 : Int32)), .unset, .unset] [])) _
    refine XS.iconst X0.here hx rfl (hb hby own_d7_0) ?_
    show Steps p.tables e below (s₁.setTop (mkF m 1 #[.val (.ref a0), .val (.int (0 : Int32)), .val (.ref a2), .val (.int (0 : Int32)), .val (.int (2 : Int32)), .unset, .unset] [(.int (0 : Int32))])) _
    refine XS.istore X0.here hx rfl (hb hby own_d7_1) rfl (l' := #[.val (.ref a0), .val (.int (0 : Int32)), .val (.ref a2), .val (.int (0 : Int32)), .val (.int (2 : Int32)), .val (.int (0 : Int32)), .unset]) rfl ?_
    show Steps p.tables e below (s₁.setTop (mkF m 3 #[.val (.ref a0), .val (.int (0 : Int32)), .val (.ref a2), .val (.int (0 : Int32)), .val (.int (2 : Int32)), .val (.int (0 : Int32)), .unset] [])) _
    refine XS.iload X0.here hx rfl (hb hby own_d7_3) rfl ?_
    show Steps p.tables e below (s₁.setTop (mkF m 5 #[.val (.ref a0), .val (.int (0 : Int32)), .val (.ref a2), .val (.int (0 : Int32)), .val (.int (2 : Int32)), .val (.int (0 : Int32)), .unset] [(.int (0 : Int32))])) _
    refine XS.iload X0.here hx rfl (hb hby own_d7_5) rfl ?_
    show Steps p.tables e below (s₁.setTop (mkF m 7 #[.val (.ref a0), .val (.int (0 : Int32)), .val (.ref a2), .val (.int (0 : Int32)), .val (.int (2 : Int32)), .val (.int (0 : Int32)), .unset] [(.int (2 : Int32)), (.int (0 : Int32))])) _
    refine XS.icmpNo X0.here hx rfl (hb hby own_d7_7) rfl (tlt (by decide : (0 : Int32) < (2 : Int32))).2.1 ?_
    show Steps p.tables e below (s₁.setTop (mkF m 10 #[.val (.ref a0), .val (.int (0 : Int32)), .val (.ref a2), .val (.int (0 : Int32)), .val (.int (2 : Int32)), .val (.int (0 : Int32)), .unset] [])) _
    refine XS.aloadN X0.here hx rfl (hb hby own_d7_10) rfl rfl ?_
    show Steps p.tables e below (s₁.setTop (mkF m 11 #[.val (.ref a0), .val (.int (0 : Int32)), .val (.ref a2), .val (.int (0 : Int32)), .val (.int (2 : Int32)), .val (.int (0 : Int32)), .unset] [(.ref a0)])) _
    refine XS.iloadN X0.here hx rfl (hb hby own_d7_11) rfl ?_
    show Steps p.tables e below (s₁.setTop (mkF m 12 #[.val (.ref a0), .val (.int (0 : Int32)), .val (.ref a2), .val (.int (0 : Int32)), .val (.int (2 : Int32)), .val (.int (0 : Int32)), .unset] [(.int (0 : Int32)), (.ref a0)])) _
    refine X0.caload hx (j := (0 : Int32)) (v := (.int c0)) (by rw [e0]; exact Ar1.1) (State.isArrayOf_alike hZ.alike Ar1.2.1) Ar1.2.2 hin1 hat1 (g := (mkF m 12 #[.val (.ref a0), .val (.int (0 : Int32)), .val (.ref a2), .val (.int (0 : Int32)), .val (.int (2 : Int32)), .val (.int (0 : Int32)), .unset] [(.int (0 : Int32)), (.ref a0)])) rfl rfl (hb hby own_d7_12) _ ?_
    show Steps p.tables e below (s₁.setTop (mkF m 13 #[.val (.ref a0), .val (.int (0 : Int32)), .val (.ref a2), .val (.int (0 : Int32)), .val (.int (2 : Int32)), .val (.int (0 : Int32)), .unset] [(.int c0)])) _
    refine XS.istore X0.here hx rfl (hb hby own_d7_13) rfl (l' := #[.val (.ref a0), .val (.int (0 : Int32)), .val (.ref a2), .val (.int (0 : Int32)), .val (.int (2 : Int32)), .val (.int (0 : Int32)), .val (.int c0)]) rfl ?_
    show Steps p.tables e below (s₁.setTop (mkF m 15 #[.val (.ref a0), .val (.int (0 : Int32)), .val (.ref a2), .val (.int (0 : Int32)), .val (.int (2 : Int32)), .val (.int (0 : Int32)), .val (.int c0)] [])) _
    refine XS.iload X0.here hx rfl (hb hby own_d7_15) rfl ?_
    show Steps p.tables e below (s₁.setTop (mkF m 17 #[.val (.ref a0), .val (.int (0 : Int32)), .val (.ref a2), .val (.int (0 : Int32)), .val (.int (2 : Int32)), .val (.int (0 : Int32)), .val (.int c0)] [(.int c0)])) _
    refine XS.sipush X0.here hx rfl (hb hby own_d7_17) ?_
    show Steps p.tables e below (s₁.setTop (mkF m 20 #[.val (.ref a0), .val (.int (0 : Int32)), .val (.ref a2), .val (.int (0 : Int32)), .val (.int (2 : Int32)), .val (.int (0 : Int32)), .val (.int c0)] [(.int (255 : Int32)), (.int c0)])) _
    refine XS.icmpYes X0.here hx rfl (pc0 := 20) (pc' := 26) rfl (hb hby own_d7_20) rfl (flt (hl0 : ¬ ((255 : Int32) < c0))).2.2.2 (by decide) (by decide) ?_
    show Steps p.tables e below (s₁.setTop (mkF m 26 #[.val (.ref a0), .val (.int (0 : Int32)), .val (.ref a2), .val (.int (0 : Int32)), .val (.int (2 : Int32)), .val (.int (0 : Int32)), .val (.int c0)] [])) _
    refine XS.aloadN X0.here hx rfl (hb hby own_d7_26) rfl rfl ?_
    show Steps p.tables e below (s₁.setTop (mkF m 27 #[.val (.ref a0), .val (.int (0 : Int32)), .val (.ref a2), .val (.int (0 : Int32)), .val (.int (2 : Int32)), .val (.int (0 : Int32)), .val (.int c0)] [(.ref a2)])) _
    refine XS.iloadN X0.here hx rfl (hb hby own_d7_27) rfl ?_
    show Steps p.tables e below (s₁.setTop (mkF m 28 #[.val (.ref a0), .val (.int (0 : Int32)), .val (.ref a2), .val (.int (0 : Int32)), .val (.int (2 : Int32)), .val (.int (0 : Int32)), .val (.int c0)] [(.int (0 : Int32)), (.ref a2)])) _
    refine XS.iload X0.here hx rfl (hb hby own_d7_28) rfl ?_
    show Steps p.tables e below (s₁.setTop (mkF m 30 #[.val (.ref a0), .val (.int (0 : Int32)), .val (.ref a2), .val (.int (0 : Int32)), .val (.int (2 : Int32)), .val (.int (0 : Int32)), .val (.int c0)] [(.int c0), (.int (0 : Int32)), (.ref a2)])) _
    refine XS.i2b X0.here hx rfl (hb hby own_d7_30) rfl ?_
    show Steps p.tables e below (s₁.setTop (mkF m 31 #[.val (.ref a0), .val (.int (0 : Int32)), .val (.ref a2), .val (.int (0 : Int32)), .val (.int (2 : Int32)), .val (.int (0 : Int32)), .val (.int c0)] [(.int (c0.toInt8.toInt32)), (.int (0 : Int32)), (.ref a2)])) _
    refine st3 _ ?_
    show Steps p.tables e below (T3.setTop (mkF m 32 #[.val (.ref a0), .val (.int (0 : Int32)), .val (.ref a2), .val (.int (0 : Int32)), .val (.int (2 : Int32)), .val (.int (0 : Int32)), .val (.int c0)] [])) _
    refine XS.iinc X3.here hx rfl (hb hby own_d7_32) rfl (l' := #[.val (.ref a0), .val (.int ((0 : Int32) + (1 : Int32))), .val (.ref a2), .val (.int (0 : Int32)), .val (.int (2 : Int32)), .val (.int (0 : Int32)), .val (.int c0)]) rfl ?_
    show Steps p.tables e below (T3.setTop (mkF m 35 #[.val (.ref a0), .val (.int ((0 : Int32) + (1 : Int32))), .val (.ref a2), .val (.int (0 : Int32)), .val (.int (2 : Int32)), .val (.int (0 : Int32)), .val (.int c0)] [])) _
    refine castTop (congrArg (fun z : Int32 => mkF m 35 #[.val (.ref a0), .val (.int z), .val (.ref a2), .val (.int (0 : Int32)), .val (.int (2 : Int32)), .val (.int (0 : Int32)), .val (.int c0)] []) (by decide : ((0 : Int32) + (1 : Int32)) = (1 : Int32))) ?_
    show Steps p.tables e below (T3.setTop (mkF m 35 #[.val (.ref a0), .val (.int (1 : Int32)), .val (.ref a2), .val (.int (0 : Int32)), .val (.int (2 : Int32)), .val (.int (0 : Int32)), .val (.int c0)] [])) _
    refine XS.iinc X3.here hx rfl (hb hby own_d7_35) rfl (l' := #[.val (.ref a0), .val (.int (1 : Int32)), .val (.ref a2), .val (.int ((0 : Int32) + (1 : Int32))), .val (.int (2 : Int32)), .val (.int (0 : Int32)), .val (.int c0)]) rfl ?_
    show Steps p.tables e below (T3.setTop (mkF m 38 #[.val (.ref a0), .val (.int (1 : Int32)), .val (.ref a2), .val (.int ((0 : Int32) + (1 : Int32))), .val (.int (2 : Int32)), .val (.int (0 : Int32)), .val (.int c0)] [])) _
    refine castTop (congrArg (fun z : Int32 => mkF m 38 #[.val (.ref a0), .val (.int (1 : Int32)), .val (.ref a2), .val (.int z), .val (.int (2 : Int32)), .val (.int (0 : Int32)), .val (.int c0)] []) (by decide : ((0 : Int32) + (1 : Int32)) = (1 : Int32))) ?_
    show Steps p.tables e below (T3.setTop (mkF m 38 #[.val (.ref a0), .val (.int (1 : Int32)), .val (.ref a2), .val (.int (1 : Int32)), .val (.int (2 : Int32)), .val (.int (0 : Int32)), .val (.int c0)] [])) _
    refine XS.iinc X3.here hx rfl (hb hby own_d7_38) rfl (l' := #[.val (.ref a0), .val (.int (1 : Int32)), .val (.ref a2), .val (.int (1 : Int32)), .val (.int (2 : Int32)), .val (.int ((0 : Int32) + (1 : Int32))), .val (.int c0)]) rfl ?_
    show Steps p.tables e below (T3.setTop (mkF m 41 #[.val (.ref a0), .val (.int (1 : Int32)), .val (.ref a2), .val (.int (1 : Int32)), .val (.int (2 : Int32)), .val (.int ((0 : Int32) + (1 : Int32))), .val (.int c0)] [])) _
    refine castTop (congrArg (fun z : Int32 => mkF m 41 #[.val (.ref a0), .val (.int (1 : Int32)), .val (.ref a2), .val (.int (1 : Int32)), .val (.int (2 : Int32)), .val (.int z), .val (.int c0)] []) (by decide : ((0 : Int32) + (1 : Int32)) = (1 : Int32))) ?_
    show Steps p.tables e below (T3.setTop (mkF m 41 #[.val (.ref a0), .val (.int (1 : Int32)), .val (.ref a2), .val (.int (1 : Int32)), .val (.int (2 : Int32)), .val (.int (1 : Int32)), .val (.int c0)] [])) _
    refine XS.goto X3.here hx rfl (pc0 := 41) (pc' := 3) rfl (hb hby own_d7_41) (by decide) (by decide) ?_
    show Steps p.tables e below (T3.setTop (mkF m 3 #[.val (.ref a0), .val (.int (1 : Int32)), .val (.ref a2), .val (.int (1 : Int32)), .val (.int (2 : Int32)), .val (.int (1 : Int32)), .val (.int c0)] [])) _
    refine XS.iload X3.here hx rfl (hb hby own_d7_3) rfl ?_
    show Steps p.tables e below (T3.setTop (mkF m 5 #[.val (.ref a0), .val (.int (1 : Int32)), .val (.ref a2), .val (.int (1 : Int32)), .val (.int (2 : Int32)), .val (.int (1 : Int32)), .val (.int c0)] [(.int (1 : Int32))])) _
    refine XS.iload X3.here hx rfl (hb hby own_d7_5) rfl ?_
    show Steps p.tables e below (T3.setTop (mkF m 7 #[.val (.ref a0), .val (.int (1 : Int32)), .val (.ref a2), .val (.int (1 : Int32)), .val (.int (2 : Int32)), .val (.int (1 : Int32)), .val (.int c0)] [(.int (2 : Int32)), (.int (1 : Int32))])) _
    refine XS.icmpNo X3.here hx rfl (hb hby own_d7_7) rfl (tlt (by decide : (1 : Int32) < (2 : Int32))).2.1 ?_
    show Steps p.tables e below (T3.setTop (mkF m 10 #[.val (.ref a0), .val (.int (1 : Int32)), .val (.ref a2), .val (.int (1 : Int32)), .val (.int (2 : Int32)), .val (.int (1 : Int32)), .val (.int c0)] [])) _
    refine XS.aloadN X3.here hx rfl (hb hby own_d7_10) rfl rfl ?_
    show Steps p.tables e below (T3.setTop (mkF m 11 #[.val (.ref a0), .val (.int (1 : Int32)), .val (.ref a2), .val (.int (1 : Int32)), .val (.int (2 : Int32)), .val (.int (1 : Int32)), .val (.int c0)] [(.ref a0)])) _
    refine XS.iloadN X3.here hx rfl (hb hby own_d7_11) rfl ?_
    show Steps p.tables e below (T3.setTop (mkF m 12 #[.val (.ref a0), .val (.int (1 : Int32)), .val (.ref a2), .val (.int (1 : Int32)), .val (.int (2 : Int32)), .val (.int (1 : Int32)), .val (.int c0)] [(.int (1 : Int32)), (.ref a0)])) _
    refine X3.caload hx (j := (1 : Int32)) (v := (.int c1)) (by rw [e3]; exact Ar9.1) (State.isArrayOf_alike hZ.alike Ar9.2.1) Ar9.2.2 hin9 hat9 (g := (mkF m 12 #[.val (.ref a0), .val (.int (1 : Int32)), .val (.ref a2), .val (.int (1 : Int32)), .val (.int (2 : Int32)), .val (.int (1 : Int32)), .val (.int c0)] [(.int (1 : Int32)), (.ref a0)])) rfl rfl (hb hby own_d7_12) _ ?_
    show Steps p.tables e below (T3.setTop (mkF m 13 #[.val (.ref a0), .val (.int (1 : Int32)), .val (.ref a2), .val (.int (1 : Int32)), .val (.int (2 : Int32)), .val (.int (1 : Int32)), .val (.int c0)] [(.int c1)])) _
    refine XS.istore X3.here hx rfl (hb hby own_d7_13) rfl (l' := #[.val (.ref a0), .val (.int (1 : Int32)), .val (.ref a2), .val (.int (1 : Int32)), .val (.int (2 : Int32)), .val (.int (1 : Int32)), .val (.int c1)]) rfl ?_
    show Steps p.tables e below (T3.setTop (mkF m 15 #[.val (.ref a0), .val (.int (1 : Int32)), .val (.ref a2), .val (.int (1 : Int32)), .val (.int (2 : Int32)), .val (.int (1 : Int32)), .val (.int c1)] [])) _
    refine XS.iload X3.here hx rfl (hb hby own_d7_15) rfl ?_
    show Steps p.tables e below (T3.setTop (mkF m 17 #[.val (.ref a0), .val (.int (1 : Int32)), .val (.ref a2), .val (.int (1 : Int32)), .val (.int (2 : Int32)), .val (.int (1 : Int32)), .val (.int c1)] [(.int c1)])) _
    refine XS.sipush X3.here hx rfl (hb hby own_d7_17) ?_
    show Steps p.tables e below (T3.setTop (mkF m 20 #[.val (.ref a0), .val (.int (1 : Int32)), .val (.ref a2), .val (.int (1 : Int32)), .val (.int (2 : Int32)), .val (.int (1 : Int32)), .val (.int c1)] [(.int (255 : Int32)), (.int c1)])) _
    refine XS.icmpYes X3.here hx rfl (pc0 := 20) (pc' := 26) rfl (hb hby own_d7_20) rfl (flt (hl1 : ¬ ((255 : Int32) < c1))).2.2.2 (by decide) (by decide) ?_
    show Steps p.tables e below (T3.setTop (mkF m 26 #[.val (.ref a0), .val (.int (1 : Int32)), .val (.ref a2), .val (.int (1 : Int32)), .val (.int (2 : Int32)), .val (.int (1 : Int32)), .val (.int c1)] [])) _
    refine XS.aloadN X3.here hx rfl (hb hby own_d7_26) rfl rfl ?_
    show Steps p.tables e below (T3.setTop (mkF m 27 #[.val (.ref a0), .val (.int (1 : Int32)), .val (.ref a2), .val (.int (1 : Int32)), .val (.int (2 : Int32)), .val (.int (1 : Int32)), .val (.int c1)] [(.ref a2)])) _
    refine XS.iloadN X3.here hx rfl (hb hby own_d7_27) rfl ?_
    show Steps p.tables e below (T3.setTop (mkF m 28 #[.val (.ref a0), .val (.int (1 : Int32)), .val (.ref a2), .val (.int (1 : Int32)), .val (.int (2 : Int32)), .val (.int (1 : Int32)), .val (.int c1)] [(.int (1 : Int32)), (.ref a2)])) _
    refine XS.iload X3.here hx rfl (hb hby own_d7_28) rfl ?_
    show Steps p.tables e below (T3.setTop (mkF m 30 #[.val (.ref a0), .val (.int (1 : Int32)), .val (.ref a2), .val (.int (1 : Int32)), .val (.int (2 : Int32)), .val (.int (1 : Int32)), .val (.int c1)] [(.int c1), (.int (1 : Int32)), (.ref a2)])) _
    refine XS.i2b X3.here hx rfl (hb hby own_d7_30) rfl ?_
    show Steps p.tables e below (T3.setTop (mkF m 31 #[.val (.ref a0), .val (.int (1 : Int32)), .val (.ref a2), .val (.int (1 : Int32)), .val (.int (2 : Int32)), .val (.int (1 : Int32)), .val (.int c1)] [(.int (c1.toInt8.toInt32)), (.int (1 : Int32)), (.ref a2)])) _
    refine st11 _ ?_
    show Steps p.tables e below (T11.setTop (mkF m 32 #[.val (.ref a0), .val (.int (1 : Int32)), .val (.ref a2), .val (.int (1 : Int32)), .val (.int (2 : Int32)), .val (.int (1 : Int32)), .val (.int c1)] [])) _
    refine XS.iinc X11.here hx rfl (hb hby own_d7_32) rfl (l' := #[.val (.ref a0), .val (.int ((1 : Int32) + (1 : Int32))), .val (.ref a2), .val (.int (1 : Int32)), .val (.int (2 : Int32)), .val (.int (1 : Int32)), .val (.int c1)]) rfl ?_
    show Steps p.tables e below (T11.setTop (mkF m 35 #[.val (.ref a0), .val (.int ((1 : Int32) + (1 : Int32))), .val (.ref a2), .val (.int (1 : Int32)), .val (.int (2 : Int32)), .val (.int (1 : Int32)), .val (.int c1)] [])) _
    refine castTop (congrArg (fun z : Int32 => mkF m 35 #[.val (.ref a0), .val (.int z), .val (.ref a2), .val (.int (1 : Int32)), .val (.int (2 : Int32)), .val (.int (1 : Int32)), .val (.int c1)] []) (by decide : ((1 : Int32) + (1 : Int32)) = (2 : Int32))) ?_
    show Steps p.tables e below (T11.setTop (mkF m 35 #[.val (.ref a0), .val (.int (2 : Int32)), .val (.ref a2), .val (.int (1 : Int32)), .val (.int (2 : Int32)), .val (.int (1 : Int32)), .val (.int c1)] [])) _
    refine XS.iinc X11.here hx rfl (hb hby own_d7_35) rfl (l' := #[.val (.ref a0), .val (.int (2 : Int32)), .val (.ref a2), .val (.int ((1 : Int32) + (1 : Int32))), .val (.int (2 : Int32)), .val (.int (1 : Int32)), .val (.int c1)]) rfl ?_
    show Steps p.tables e below (T11.setTop (mkF m 38 #[.val (.ref a0), .val (.int (2 : Int32)), .val (.ref a2), .val (.int ((1 : Int32) + (1 : Int32))), .val (.int (2 : Int32)), .val (.int (1 : Int32)), .val (.int c1)] [])) _
    refine castTop (congrArg (fun z : Int32 => mkF m 38 #[.val (.ref a0), .val (.int (2 : Int32)), .val (.ref a2), .val (.int z), .val (.int (2 : Int32)), .val (.int (1 : Int32)), .val (.int c1)] []) (by decide : ((1 : Int32) + (1 : Int32)) = (2 : Int32))) ?_
    show Steps p.tables e below (T11.setTop (mkF m 38 #[.val (.ref a0), .val (.int (2 : Int32)), .val (.ref a2), .val (.int (2 : Int32)), .val (.int (2 : Int32)), .val (.int (1 : Int32)), .val (.int c1)] [])) _
    refine XS.iinc X11.here hx rfl (hb hby own_d7_38) rfl (l' := #[.val (.ref a0), .val (.int (2 : Int32)), .val (.ref a2), .val (.int (2 : Int32)), .val (.int (2 : Int32)), .val (.int ((1 : Int32) + (1 : Int32))), .val (.int c1)]) rfl ?_
    show Steps p.tables e below (T11.setTop (mkF m 41 #[.val (.ref a0), .val (.int (2 : Int32)), .val (.ref a2), .val (.int (2 : Int32)), .val (.int (2 : Int32)), .val (.int ((1 : Int32) + (1 : Int32))), .val (.int c1)] [])) _
    refine castTop (congrArg (fun z : Int32 => mkF m 41 #[.val (.ref a0), .val (.int (2 : Int32)), .val (.ref a2), .val (.int (2 : Int32)), .val (.int (2 : Int32)), .val (.int z), .val (.int c1)] []) (by decide : ((1 : Int32) + (1 : Int32)) = (2 : Int32))) ?_
    show Steps p.tables e below (T11.setTop (mkF m 41 #[.val (.ref a0), .val (.int (2 : Int32)), .val (.ref a2), .val (.int (2 : Int32)), .val (.int (2 : Int32)), .val (.int (2 : Int32)), .val (.int c1)] [])) _
    refine XS.goto X11.here hx rfl (pc0 := 41) (pc' := 3) rfl (hb hby own_d7_41) (by decide) (by decide) ?_
    show Steps p.tables e below (T11.setTop (mkF m 3 #[.val (.ref a0), .val (.int (2 : Int32)), .val (.ref a2), .val (.int (2 : Int32)), .val (.int (2 : Int32)), .val (.int (2 : Int32)), .val (.int c1)] [])) _
    refine XS.iload X11.here hx rfl (hb hby own_d7_3) rfl ?_
    show Steps p.tables e below (T11.setTop (mkF m 5 #[.val (.ref a0), .val (.int (2 : Int32)), .val (.ref a2), .val (.int (2 : Int32)), .val (.int (2 : Int32)), .val (.int (2 : Int32)), .val (.int c1)] [(.int (2 : Int32))])) _
    refine XS.iload X11.here hx rfl (hb hby own_d7_5) rfl ?_
    show Steps p.tables e below (T11.setTop (mkF m 7 #[.val (.ref a0), .val (.int (2 : Int32)), .val (.ref a2), .val (.int (2 : Int32)), .val (.int (2 : Int32)), .val (.int (2 : Int32)), .val (.int c1)] [(.int (2 : Int32)), (.int (2 : Int32))])) _
    refine XS.icmpYes X11.here hx rfl (pc0 := 7) (pc' := 44) rfl (hb hby own_d7_7) rfl (flt (by decide : ¬ ((2 : Int32) < (2 : Int32)))).2.1 (by decide) (by decide) ?_
    show Steps p.tables e below (T11.setTop (mkF m 44 #[.val (.ref a0), .val (.int (2 : Int32)), .val (.ref a2), .val (.int (2 : Int32)), .val (.int (2 : Int32)), .val (.int (2 : Int32)), .val (.int c1)] [])) _
    refine XS.iload X11.here hx rfl (hb hby own_d7_44) rfl ?_
    show Steps p.tables e below (T11.setTop (mkF m 46 #[.val (.ref a0), .val (.int (2 : Int32)), .val (.ref a2), .val (.int (2 : Int32)), .val (.int (2 : Int32)), .val (.int (2 : Int32)), .val (.int c1)] [(.int (2 : Int32))])) _
    exact retI X11 hx Bd.returns (hb hby own_d7_46) hr
  · show own_QC2 Z a0 (0 : Int32) a2 (0 : Int32) (2 : Int32) ka c0 c1 kb h0 n0 _ T11.heap _
    rw [e11]
    exact ⟨[(.int (nar .byte (c0.toInt8.toInt32))), (.int (nar .byte (c1.toInt8.toInt32)))], rfl, N15, K13, f16⟩
theorem own_d6_0 : decode jdk_52_method_16_code 0 = .ok (.iload_n 2, 1) := by decide +kernel
theorem own_d6_1 : decode jdk_52_method_16_code 1 = .ok (.newarray .byte, 2) := by decide +kernel
theorem own_d6_3 : decode jdk_52_method_16_code 3 = .ok (.astore_n 3, 1) := by decide +kernel
theorem own_d6_4 : decode jdk_52_method_16_code 4 = .ok (.aload_n 0, 1) := by decide +kernel
theorem own_d6_5 : decode jdk_52_method_16_code 5 = .ok (.iload_n 1, 1) := by decide +kernel
theorem own_d6_6 : decode jdk_52_method_16_code 6 = .ok (.aload_n 3, 1) := by decide +kernel
theorem own_d6_7 : decode jdk_52_method_16_code 7 = .ok (.iconst 0, 1) := by decide +kernel
theorem own_d6_8 : decode jdk_52_method_16_code 8 = .ok (.iload_n 2, 1) := by decide +kernel
theorem own_pd0 : parseMethodDescriptor "([CI[BII)I" = some ⟨[(.array .char), .int, (.array .byte), .int, .int], some .int⟩ := by decide +kernel
theorem own_d6_9 : decode jdk_52_method_16_code 9 = .ok (.invokestatic 115, 3) := by decide +kernel
theorem own_d6_12 : decode jdk_52_method_16_code 12 = .ok (.istore 4, 2) := by decide +kernel
theorem own_d6_14 : decode jdk_52_method_16_code 14 = .ok (.iload 4, 2) := by decide +kernel
theorem own_d6_16 : decode jdk_52_method_16_code 16 = .ok (.iload_n 2, 1) := by decide +kernel
theorem own_d6_17 : decode jdk_52_method_16_code 17 = .ok (.if_icmp .eq 40, 3) := by decide +kernel
theorem own_d6_57 : decode jdk_52_method_16_code 57 = .ok (.aload_n 3, 1) := by decide +kernel
theorem own_d6_58 : decode jdk_52_method_16_code 58 = .ok (.areturn, 1) := by decide +kernel
theorem own_efCB (m : MethodId) (a0 : Addr) (p1 : Int32) (p2 : Int32) : entryFrame m #[(.ref a0), (.int p1), (.int p2)] 6 = mkF m 0 #[.val (.ref a0), .val (.int p1), .val (.int p2), .unset, .unset, .unset] [] := by first | (simp [entryFrame, mkF, argsToLocals, Value.category]; done) | rfl
def own_QCB (Z : State) (a0 : Addr) (p1 : Int32) (p2 : Int32) (ka : ClassId) (c0 : Int32) (c1 : Int32) (h0 : Heap) (n0 : Nat) (v : Option Value) (h : Heap) (L : List Loc) : Prop := ∃ b : Addr, ∃ kb : ClassId, ∃ vs : List Value, v = some (.ref b) ∧ Fr n0 L ∧ Keep h0 h [] ∧ n0 ≤ b ∧ h0.size ≤ b ∧ (Arv Z h b kb .byte (2 : Int32) vs (.int (0 : Int32)))
set_option maxRecDepth 65536 in
set_option maxHeartbeats 40000000 in
theorem own_rmCB (l : Launch) (Z : State) (av : Array Value) (hw : ∀ d ∈ tables_1, d.before av Z = true) (ws : List Jvm.Cond) (a0 : Addr) (p1 : Int32) (p2 : Int32) (ka : ClassId) (c0 : Int32) (c1 : Int32) (h0 : Heap) (n0 : Nat) (Z0 : n0 ≤ h0.size) (pr0 : Arv Z h0 a0 ka .char (2 : Int32) [(.int c0), (.int c1)] (.int (0 : Int32))) (hp1 : p1 = (0 : Int32)) (hp2 : p2 = (2 : Int32)) (hl0 : ¬ ((255 : Int32) < c0)) (hl1 : ¬ ((255 : Int32) < c1)) :
    MetFree l (⟨"java/lang/StringUTF16", "compress", "([CII)[B"⟩ : MethodName) (head1 (Jvm.Cond.code (⟨"java/lang/StringUTF16", "compress", "([CII)[B"⟩ : MethodName) jdk_52_method_16_code 6 (some (.array .byte)) :: ws) ({ frames := 1, cells := 1, slots := 2, locals := 18 } : Room)) (fun a U => a = #[(.ref a0), (.int p1), (.int p2)] ∧ Z.Warmed39 U.vm ∧ U.heap = h0) (fun _ _ _ _ _ => True) (fun _ U o U' => ∃ v L, o = .returned v ∧ own_QCB Z a0 p1 p2 ka c0 c1 h0 n0 v U'.heap L ∧ FrameEnd U o U' L ({ frames := 1, cells := 1, slots := 2, locals := 18 } : Room).cells ({ frames := 1, cells := 1, slots := 2, locals := 18 } : Room).slots) := by
  refine MetFree.of_bodySF (plainFor_of_name own_pn23) hisR ?_
  intro p e s m args below meth c s₁ Bd hml0 hP hK
  obtain ⟨rfl, hZ, hh⟩ := hP
  have hx := Bd.exec
  have hby := Bd.bytes
  have hml : c.maxLocals = 6 := hml0
  have hown : s.vm.findClass "java/lang/StringUTF16" = some m.cls := findClass_of_methodNamed Bd.named
  have hnm := (name_of_methodNamed Bd.named Bd.method).1
  have X0 : Stand p l e ({ frames := 1, cells := 1, slots := 2, locals := 18 } : Room) s m #[(.ref a0), (.int p1), (.int p2)] below meth c s₁ [] 0 0 := Stand.of_body Bd
  have e0 : s₁.heap = h0 := by rw [← hh, Bd.state]; rfl
  have N0 := Fr.nil n0
  have pre0 : ∀ t, Steps p.tables e below (s₁.setTop (mkF m 0 #[.val (.ref a0), .val (.int p1), .val (.int p2), .unset, .unset, .unset] [])) t → Steps p.tables e below (s₁.setTop (entryFrame m #[(.ref a0), (.int p1), (.int p2)] 6)) t := fun t k => castTop (own_efCB m a0 p1 p2) k
  subst hp1
  subst hp2
  obtain ⟨T17, h17, k17, X17, e17, E17, A17, st17⟩ := newP X0 hx hZ (hw _ (List.mem_of_getElem? (i := 29) rfl)) e0 (g := (mkF m 1 #[.val (.ref a0), .val (.int (0 : Int32)), .val (.int (2 : Int32)), .unset, .unset, .unset] [(.int (2 : Int32))])) rfl (hb hby own_d6_1) rfl (by decide) (cap := 2) (by decide) (by decide) (by decide) (by decide)
  obtain ⟨b17, g17⟩ : ∃ z, z = h0.size := ⟨_, rfl⟩
  have ne_a0_b17 : a0 ≠ b17 := Nat.ne_of_lt (Nat.lt_of_lt_of_le pr0.lt (Nat.le_of_eq g17.symm))
  have g_b17 : n0 ≤ b17 := Nat.le_trans Z0 (Nat.le_of_eq g17.symm)
  have sz_b17 : h0.size ≤ b17 := Nat.le_trans (Keep.refl h0 []).1 (Nat.le_of_eq g17.symm)
  rw [← g17] at A17 st17
  have f18 := pr0.ext E17
  have z19 : n0 ≤ h17.size := Nat.le_trans Z0 E17.1
  have K20 : Keep h0 h17 [] := (Keep.refl h0 []).ext E17
  have f21 : Arv Z h17 b17 k17 .byte (2 : Int32) [(.int (0 : Int32)), (.int (0 : Int32))] (.int (0 : Int32)) := (Arv.new A17 (by decide)).pad (pad_rep [] (.int (0 : Int32)) 2)
  obtain ⟨_, _, ⟨T22, L22, k22, n22⟩, -, X22, ⟨Lc22, hQ22, l22, y22, z22⟩, st22⟩ := Jvm.LawKit.callS X17 hx (y := (⟨"java/lang/StringUTF16", "compress", "([CI[BII)I"⟩ : MethodName)) hown (mvT hZ (hw _ (List.mem_of_getElem? (i := 30) rfl))) (mvT hZ (hw _ (List.mem_of_getElem? (i := 31) rfl))) (mvT hZ (hw _ (List.mem_of_getElem? (i := 27) rfl))) (mvT hZ (hw _ (List.mem_of_getElem? (i := 32) rfl))) (by decide) (backOf (W := 0) (own_rmC2 l Z av hw [] a0 (0 : Int32) b17 (0 : Int32) (2 : Int32) (ka) (c0) (c1) (k17) h17 n0 z19 f18 f21 g_b17 ne_a0_b17 (rfl) (rfl) (rfl) (hl0) (hl1)) hZ (hw _ (List.mem_of_getElem? (i := 32) rfl)) (hw _ (List.mem_of_getElem? (i := 27) rfl)) (by decide) (by decide)) (g := (mkF m 9 #[.val (.ref a0), .val (.int (0 : Int32)), .val (.int (2 : Int32)), .val (.ref b17), .unset, .unset] [(.int (2 : Int32)), (.int (0 : Int32)), (.ref b17), (.int (0 : Int32)), (.ref a0)])) rfl (by rw [hml]; rfl) (argsL := [(.ref a0), (.int (0 : Int32)), (.ref b17), (.int (0 : Int32)), (.int (2 : Int32))]) (rest := []) (lenOf own_pd0 rfl) rfl (by show 2 * 0 + _ ≤ _; exact Nat.le_of_eq rfl) (hb hby own_d6_9) (fun _ _ => ⟨rfl, e17, (by decide : 1 + 0 ≤ _), (by decide : 2 + 0 ≤ _)⟩)
  dsimp only [Pt.U, Pt.locs, Pt.cells, Pt.slots] at X22 l22 y22 z22 st22 hQ22
  subst l22 y22 z22
  obtain ⟨vs23, rfl, N22q, K22, f25⟩ := hQ22
  have f26 := f18.keep K22 (ninS ne_a0_b17 nin0)
  have K27 : Keep h0 T22.heap [] := K20.trans K22 (allS (Or.inr sz_b17) all0)
  have z28 : n0 ≤ T22.heap.size := Nat.le_trans z19 K22.1
  have N24 := Fr.app N0 N22q
  obtain ⟨fs, hr, hrun, hended, hW, hsame⟩ := X22.leave (v := some (.ref b17)) (fun h => by rw [Bd.returns] at h; cases h)
  refine ⟨_, _, pre0 _ ?_, hrun, hended, _, _, rfl, ?_, ⟨_, rfl⟩, hW, hsame.mono (by decide) (by decide)⟩
  · show Steps p.tables e below (s₁.setTop (mkF m 0 #[.val (.ref a0), .val (.int (0 : Int32)), .val (.int (2 : Int32)), .unset, .unset, .unset] [])) _
    refine XS.iloadN X0.here hx rfl (hb hby own_d6_0) rfl ?_
    show Steps p.tables e below (s₁.setTop (mkF m 1 #[.val (.ref a0), .val (.int (0 : Int32)), .val (.int (2 : Int32)), .unset, .unset, .unset] [(.int (2 : Int32))])) _
    refine st17 _ ?_
    show Steps p.tables e below (T17.setTop (mkF m 3 #[.val (.ref a0), .val (.int (0 : Int32)), .val (.int (2 : Int32)), .unset, .unset, .unset] [(.ref b17)])) _
    refine XS.astoreN X17.here hx rfl (hb hby own_d6_3) rfl rfl (l' := #[.val (.ref a0), .val (.int (0 : Int32)), .val (.int (2 : Int32)), .val (.ref b17), .unset, .unset]) rfl ?_
    show Steps p.tables e below (T17.setTop (mkF m 4 #[.val (.ref a0), .val (.int (0 : Int32)), .val (.int (2 : Int32)), .val (.ref b17), .unset, .unset] [])) _
    refine XS.aloadN X17.here hx rfl (hb hby own_d6_4) rfl rfl ?_
    show Steps p.tables e below (T17.setTop (mkF m 5 #[.val (.ref a0), .val (.int (0 : Int32)), .val (.int (2 : Int32)), .val (.ref b17), .unset, .unset] [(.ref a0)])) _
    refine XS.iloadN X17.here hx rfl (hb hby own_d6_5) rfl ?_
    show Steps p.tables e below (T17.setTop (mkF m 6 #[.val (.ref a0), .val (.int (0 : Int32)), .val (.int (2 : Int32)), .val (.ref b17), .unset, .unset] [(.int (0 : Int32)), (.ref a0)])) _
    refine XS.aloadN X17.here hx rfl (hb hby own_d6_6) rfl rfl ?_
    show Steps p.tables e below (T17.setTop (mkF m 7 #[.val (.ref a0), .val (.int (0 : Int32)), .val (.int (2 : Int32)), .val (.ref b17), .unset, .unset] [(.ref b17), (.int (0 : Int32)), (.ref a0)])) _
    refine XS.iconst X17.here hx rfl (hb hby own_d6_7) ?_
    show Steps p.tables e below (T17.setTop (mkF m 8 #[.val (.ref a0), .val (.int (0 : Int32)), .val (.int (2 : Int32)), .val (.ref b17), .unset, .unset] [(.int (0 : Int32)), (.ref b17), (.int (0 : Int32)), (.ref a0)])) _
    refine XS.iloadN X17.here hx rfl (hb hby own_d6_8) rfl ?_
    show Steps p.tables e below (T17.setTop (mkF m 9 #[.val (.ref a0), .val (.int (0 : Int32)), .val (.int (2 : Int32)), .val (.ref b17), .unset, .unset] [(.int (2 : Int32)), (.int (0 : Int32)), (.ref b17), (.int (0 : Int32)), (.ref a0)])) _
    refine st22 _ ?_
    show Steps p.tables e below (T22.setTop (mkF m 12 #[.val (.ref a0), .val (.int (0 : Int32)), .val (.int (2 : Int32)), .val (.ref b17), .unset, .unset] [(.int (2 : Int32))])) _
    refine XS.istore X22.here hx rfl (hb hby own_d6_12) rfl (l' := #[.val (.ref a0), .val (.int (0 : Int32)), .val (.int (2 : Int32)), .val (.ref b17), .val (.int (2 : Int32)), .unset]) rfl ?_
    show Steps p.tables e below (T22.setTop (mkF m 14 #[.val (.ref a0), .val (.int (0 : Int32)), .val (.int (2 : Int32)), .val (.ref b17), .val (.int (2 : Int32)), .unset] [])) _
    refine XS.iload X22.here hx rfl (hb hby own_d6_14) rfl ?_
    show Steps p.tables e below (T22.setTop (mkF m 16 #[.val (.ref a0), .val (.int (0 : Int32)), .val (.int (2 : Int32)), .val (.ref b17), .val (.int (2 : Int32)), .unset] [(.int (2 : Int32))])) _
    refine XS.iloadN X22.here hx rfl (hb hby own_d6_16) rfl ?_
    show Steps p.tables e below (T22.setTop (mkF m 17 #[.val (.ref a0), .val (.int (0 : Int32)), .val (.int (2 : Int32)), .val (.ref b17), .val (.int (2 : Int32)), .unset] [(.int (2 : Int32)), (.int (2 : Int32))])) _
    refine XS.icmpYes X22.here hx rfl (pc0 := 17) (pc' := 57) rfl (hb hby own_d6_17) rfl (teq (by decide : (2 : Int32) = (2 : Int32))).1 (by decide) (by decide) ?_
    show Steps p.tables e below (T22.setTop (mkF m 57 #[.val (.ref a0), .val (.int (0 : Int32)), .val (.int (2 : Int32)), .val (.ref b17), .val (.int (2 : Int32)), .unset] [])) _
    refine XS.aloadN X22.here hx rfl (hb hby own_d6_57) rfl rfl ?_
    show Steps p.tables e below (T22.setTop (mkF m 58 #[.val (.ref a0), .val (.int (0 : Int32)), .val (.int (2 : Int32)), .val (.ref b17), .val (.int (2 : Int32)), .unset] [(.ref b17)])) _
    exact retOut X22 hx (t := (.array .byte)) (i := .areturn) Bd.returns rfl (Or.inr (Or.inr (Or.inr (Or.inr ⟨rfl, rfl, rfl⟩)))) (hb hby own_d6_58) hr
  · show own_QCB Z a0 (0 : Int32) (2 : Int32) ka c0 c1 h0 n0 _ T22.heap _
    exact ⟨b17, k17, vs23, rfl, N24, K27, g_b17, sz_b17, f25⟩
theorem own_d8_0 : decode jdk_52_method_15_code 0 = .ok (.iload_n 1, 1) := by decide +kernel
theorem own_d8_1 : decode jdk_52_method_15_code 1 = .ok (.aload_n 0, 1) := by decide +kernel
theorem own_d8_2 : decode jdk_52_method_15_code 2 = .ok (.arraylength, 1) := by decide +kernel
theorem own_d8_3 : decode jdk_52_method_15_code 3 = .ok (.isub, 1) := by decide +kernel
theorem own_d8_4 : decode jdk_52_method_15_code 4 = .ok (.bipush 31, 2) := by decide +kernel
theorem own_d8_6 : decode jdk_52_method_15_code 6 = .ok (.iushr, 1) := by decide +kernel
theorem own_d8_7 : decode jdk_52_method_15_code 7 = .ok (.i2b, 1) := by decide +kernel
theorem own_d8_8 : decode jdk_52_method_15_code 8 = .ok (.ireturn, 1) := by decide +kernel
theorem own_ef8 (m : MethodId) (a0 : Addr) (p1 : Int32) : entryFrame m #[(.ref a0), (.int p1)] 2 = mkF m 0 #[.val (.ref a0), .val (.int p1)] [] := by first | (simp [entryFrame, mkF, argsToLocals, Value.category]; done) | rfl
def own_Q8 (Z : State) (a0 : Addr) (p1 : Int32) (kb : ClassId) (z : Int32) (vs : List Value) (dv : Value) (h0 : Heap) (n0 : Nat) (v : Option Value) (h : Heap) (L : List Loc) : Prop := ∃ r : Int32, v = some (.int r) ∧ Fr n0 L ∧ h = h0
set_option maxRecDepth 65536 in
set_option maxHeartbeats 40000000 in
theorem own_rm8 (l : Launch) (Z : State) (av : Array Value) (hw : ∀ d ∈ tables_1, d.before av Z = true) (ws : List Jvm.Cond) (a0 : Addr) (p1 : Int32) (kb : ClassId) (z : Int32) (vs : List Value) (dv : Value) (h0 : Heap) (n0 : Nat) (Z0 : n0 ≤ h0.size) (pr0 : Arv Z h0 a0 kb .byte z vs dv) :
    MetFree l (⟨"java/lang/StringUTF16", "coderFromArrayLen", "([BI)B"⟩ : MethodName) (head1 (Jvm.Cond.code (⟨"java/lang/StringUTF16", "coderFromArrayLen", "([BI)B"⟩ : MethodName) jdk_52_method_15_code 2 (some .byte) :: ws) ({ frames := 0, cells := 0, slots := 0, locals := 0 } : Room)) (fun a U => a = #[(.ref a0), (.int p1)] ∧ Z.Warmed39 U.vm ∧ U.heap = h0) (fun _ _ _ _ _ => True) (fun _ U o U' => ∃ v L, o = .returned v ∧ own_Q8 Z a0 p1 kb z vs dv h0 n0 v U'.heap L ∧ FrameEnd U o U' L ({ frames := 0, cells := 0, slots := 0, locals := 0 } : Room).cells ({ frames := 0, cells := 0, slots := 0, locals := 0 } : Room).slots) := by
  refine MetFree.of_bodySF (plainFor_of_name own_pn23) hisR ?_
  intro p e s m args below meth c s₁ Bd hml0 hP hK
  obtain ⟨rfl, hZ, hh⟩ := hP
  have hx := Bd.exec
  have hby := Bd.bytes
  have hml : c.maxLocals = 2 := hml0
  have hown : s.vm.findClass "java/lang/StringUTF16" = some m.cls := findClass_of_methodNamed Bd.named
  have hnm := (name_of_methodNamed Bd.named Bd.method).1
  have X0 : Stand p l e ({ frames := 0, cells := 0, slots := 0, locals := 0 } : Room) s m #[(.ref a0), (.int p1)] below meth c s₁ [] 0 0 := Stand.of_body Bd
  have e0 : s₁.heap = h0 := by rw [← hh, Bd.state]; rfl
  have N0 := Fr.nil n0
  have pre0 : ∀ t, Steps p.tables e below (s₁.setTop (mkF m 0 #[.val (.ref a0), .val (.int p1)] [])) t → Steps p.tables e below (s₁.setTop (entryFrame m #[(.ref a0), (.int p1)] 2)) t := fun t k => castTop (own_ef8 m a0 p1) k
  obtain ⟨cl29, Ar29, q29, S29, M29, H29, G29⟩ := id pr0
  obtain ⟨fs, hr, hrun, hended, hW, hsame⟩ := X0.leave (v := some (.int (nar .byte ((((p1 - z).toUInt32 >>> ((31 : Int32) &&& 31).toUInt32).toInt32).toInt8.toInt32)))) (fun h => by rw [Bd.returns] at h; cases h)
  refine ⟨_, _, pre0 _ ?_, hrun, hended, _, _, rfl, ?_, ⟨_, rfl⟩, hW, hsame.mono (by decide) (by decide)⟩
  · show Steps p.tables e below (s₁.setTop (mkF m 0 #[.val (.ref a0), .val (.int p1)] [])) _
    refine XS.iloadN X0.here hx rfl (hb hby own_d8_0) rfl ?_
    show Steps p.tables e below (s₁.setTop (mkF m 1 #[.val (.ref a0), .val (.int p1)] [(.int p1)])) _
    refine XS.aloadN X0.here hx rfl (hb hby own_d8_1) rfl rfl ?_
    show Steps p.tables e below (s₁.setTop (mkF m 2 #[.val (.ref a0), .val (.int p1)] [(.ref a0), (.int p1)])) _
    refine X0.arraylength hx (by rw [e0]; exact Ar29.1) (State.isArrayOf_alike hZ.alike Ar29.2.1) (g := (mkF m 2 #[.val (.ref a0), .val (.int p1)] [(.ref a0), (.int p1)])) rfl rfl (hb hby own_d8_2) _ ?_
    rw [len_of S29 M29]
    show Steps p.tables e below (s₁.setTop (mkF m 3 #[.val (.ref a0), .val (.int p1)] [(.int z), (.int p1)])) _
    refine XS.isub X0.here hx rfl (hb hby own_d8_3) rfl ?_
    show Steps p.tables e below (s₁.setTop (mkF m 4 #[.val (.ref a0), .val (.int p1)] [(.int (p1 - z))])) _
    refine XS.bipush X0.here hx rfl (hb hby own_d8_4) ?_
    show Steps p.tables e below (s₁.setTop (mkF m 6 #[.val (.ref a0), .val (.int p1)] [(.int (31 : Int32)), (.int (p1 - z))])) _
    refine XS.iushr X0.here hx rfl (hb hby own_d8_6) rfl ?_
    show Steps p.tables e below (s₁.setTop (mkF m 7 #[.val (.ref a0), .val (.int p1)] [(.int (((p1 - z).toUInt32 >>> ((31 : Int32) &&& 31).toUInt32).toInt32))])) _
    refine XS.i2b X0.here hx rfl (hb hby own_d8_7) rfl ?_
    show Steps p.tables e below (s₁.setTop (mkF m 8 #[.val (.ref a0), .val (.int p1)] [(.int ((((p1 - z).toUInt32 >>> ((31 : Int32) &&& 31).toUInt32).toInt32).toInt8.toInt32))])) _
    exact retN X0 hx (t := .byte) Bd.returns (by simp) (hb hby own_d8_8) hr
  · show own_Q8 Z a0 p1 kb z vs dv h0 n0 _ s₁.heap _
    rw [e0]
    exact ⟨(nar .byte ((((p1 - z).toUInt32 >>> ((31 : Int32) &&& 31).toUInt32).toInt32).toInt8.toInt32)), rfl, N0, rfl⟩
theorem own_d4_0 : decode jdk_42_method_149_code 0 = .ok (.aload_n 0, 1) := by decide +kernel
theorem own_d4_1 : decode jdk_42_method_149_code 1 = .ok (.invokespecial 1, 3) := by decide +kernel
theorem own_d4_4 : decode jdk_42_method_149_code 4 = .ok (.iload_n 3, 1) := by decide +kernel
theorem own_d4_5 : decode jdk_42_method_149_code 5 = .ok (.ifCond .ne 22, 3) := by decide +kernel
theorem own_d4_8 : decode jdk_42_method_149_code 8 = .ok (.aload_n 0, 1) := by decide +kernel
theorem own_d4_9 : decode jdk_42_method_149_code 9 = .ok (.ldc 7, 2) := by decide +kernel
theorem own_d4_11 : decode jdk_42_method_149_code 11 = .ok (.getfield 9, 3) := by decide +kernel
theorem own_d4_14 : decode jdk_42_method_149_code 14 = .ok (.putfield 9, 3) := by decide +kernel
theorem own_d4_17 : decode jdk_42_method_149_code 17 = .ok (.aload_n 0, 1) := by decide +kernel
theorem own_d4_18 : decode jdk_42_method_149_code 18 = .ok (.ldc 7, 2) := by decide +kernel
theorem own_d4_20 : decode jdk_42_method_149_code 20 = .ok (.getfield 15, 3) := by decide +kernel
theorem own_d4_23 : decode jdk_42_method_149_code 23 = .ok (.putfield 15, 3) := by decide +kernel
theorem own_d4_26 : decode jdk_42_method_149_code 26 = .ok (.return_, 1) := by decide +kernel
theorem own_pn60 : plainName "java/lang/String" = true := by first | (simp [plainName, overriddenIn]; done) | decide +kernel
theorem own_efI4E (m : MethodId) (a0 : Addr) (a1 : Addr) (p2 : Int32) (p3 : Int32) : entryFrame m #[(.ref a0), (.ref a1), (.int p2), (.int p3), .null] 6 = mkF m 0 #[.val (.ref a0), .val (.ref a1), .val (.int p2), .val (.int p3), .val .null, .unset] [] := by first | (simp [entryFrame, mkF, argsToLocals, Value.category]; done) | rfl
def own_QI4E (Z : State) (a0 : Addr) (a1 : Addr) (p2 : Int32) (p3 : Int32) (h0 : Heap) (n0 : Nat) (v : Option Value) (h : Heap) (L : List Loc) : Prop := v = none ∧ Fr n0 L ∧ Keep h0 h [a0] ∧ (Exa Z h a0 "java/lang/String")
set_option maxRecDepth 65536 in
set_option maxHeartbeats 40000000 in
theorem own_rmI4E (l : Launch) (Z : State) (av : Array Value) (hw : ∀ d ∈ tables_1, d.before av Z = true) (ws : List Jvm.Cond) (a0 : Addr) (a1 : Addr) (p2 : Int32) (p3 : Int32) (h0 : Heap) (n0 : Nat) (Z0 : n0 ≤ h0.size) (pr0 : Exa Z h0 a0 "java/lang/String") (pr1 : Fld Z h0 a0 "java/lang/String" "value" "[B" .null) (pr2 : Fld Z h0 a0 "java/lang/String" "coder" "B" (.int (0 : Int32))) (g_a0 : n0 ≤ a0) (hp3 : p3 = (0 : Int32)) :
    MetFree l (⟨"java/lang/String", "<init>", "([CIILjava/lang/Void;)V"⟩ : MethodName) (head1 (Jvm.Cond.code (⟨"java/lang/String", "<init>", "([CIILjava/lang/Void;)V"⟩ : MethodName) jdk_42_method_149_code 6 none :: ws) ({ frames := 1, cells := 4, slots := 8, locals := 12 } : Room)) (fun a U => a = #[(.ref a0), (.ref a1), (.int p2), (.int p3), .null] ∧ Z.Warmed39 U.vm ∧ U.heap = h0 ∧ CHv Z own_EL U.vm h0 ∧ ∀ x ∈ ([a0] : List Addr), Safe Z own_EL U.vm h0 x) (fun _ _ _ _ _ => True) (fun _ U o U' => ∃ v L, o = .returned v ∧ own_QI4E Z a0 a1 p2 p3 h0 n0 v U'.heap L ∧ CHr Z own_EL U.vm U.heap U'.vm U'.heap ∧ ReturnedEndW U o U' L ({ frames := 1, cells := 4, slots := 8, locals := 12 } : Room).cells ({ frames := 1, cells := 4, slots := 8, locals := 12 } : Room).slots) := by
  refine MetFree.of_bodySF (plainFor_of_name own_pn60) hisR ?_
  intro p e s m args below meth c s₁ Bd hml0 hP hK
  obtain ⟨rfl, hZ, hh, hCH, hSf⟩ := hP
  have hx := Bd.exec
  have hby := Bd.bytes
  have hml : c.maxLocals = 6 := hml0
  have hown : s.vm.findClass "java/lang/String" = some m.cls := findClass_of_methodNamed Bd.named
  have hnm := (name_of_methodNamed Bd.named Bd.method).1
  have X0 : Stand p l e ({ frames := 1, cells := 4, slots := 8, locals := 12 } : Room) s m #[(.ref a0), (.ref a1), (.int p2), (.int p3), .null] below meth c s₁ [] 0 0 := Stand.of_body Bd
  have e0 : s₁.heap = h0 := by rw [← hh, Bd.state]; rfl
  have N0 := Fr.nil n0
  have hS0 : s.Since s.vm s.heap.size := (State.WarmedH.refl s).since _
  have hk0 : s.heap.size ≤ h0.size := Nat.le_of_eq (congrArg Array.size hh)
  have wS := own_wS hw
  have hEL := own_hEL hw
  have CH0 : CHr Z own_EL s.vm h0 s.vm h0 := CHr.refl hCH
  have sfp0 : Safe Z own_EL s.vm h0 a0 := hSf _ (List.mem_of_getElem? (i := 0) rfl)
  have pre0 : ∀ t, Steps p.tables e below (s₁.setTop (mkF m 0 #[.val (.ref a0), .val (.ref a1), .val (.int p2), .val (.int p3), .val .null, .unset] [])) t → Steps p.tables e below (s₁.setTop (entryFrame m #[(.ref a0), (.ref a1), (.int p2), (.int p3), .null] 6)) t := fun t k => castTop (own_efI4E m a0 a1 p2 p3) k
  obtain ⟨T30, X30, e30, st30⟩ := initO X0 hx hZ hown (hw _ (List.mem_of_getElem? (i := 21) rfl)) (hw _ (List.mem_of_getElem? (i := 22) rfl)) (hw _ (List.mem_of_getElem? (i := 23) rfl)) e0 (g := (mkF m 1 #[.val (.ref a0), .val (.ref a1), .val (.int p2), .val (.int p3), .val .null, .unset] [(.ref a0)])) rfl (by rw [hml]; rfl) rfl (hb hby own_d4_1) (by decide) (W := 0) (by show 2 * 0 + _ ≤ _; exact Nat.le_of_eq rfl) (by decide)
  obtain ⟨b31, T31, h31, k1_31, d31, kd31, X31, e31, E31, hS31, hk31, hZ31, hown31, Ex31, Fc31, Fv31, Av31, la31, lb31, A31, -, ne31, st31⟩ := ldcCH (s := s) (vm0 := s.vm) (EL := own_EL) X30 hx hZ hown (hw _ (List.mem_of_getElem? (i := 180) rfl)) wS e30 hS0 hk0 hEL (by decide) CH0.1 (vs := []) (z := (0 : Int32)) ⟨by decide, rfl⟩ (by decide) rfl (g := (mkF m 9 #[.val (.ref a0), .val (.ref a1), .val (.int p2), .val (.int p3), .val .null, .unset] [(.ref a0)])) rfl (hb hby own_d4_9) (n := 0) (by decide) (by decide) (by decide) (by decide)
  have f32 := pr0.ext E31
  have f33 := pr1.ext E31
  have f34 := pr2.ext E31
  have f35 := CHr.safe A31 pr0.lt sfp0
  have CH36 := CHr.trans CH0 A31
  have z37 : n0 ≤ h31.size := Nat.le_trans Z0 E31.1
  have K38 : Keep h0 h31 [a0] := (Keep.refl h0 [a0]).ext E31
  obtain ⟨T39, X39, e39, st39⟩ := getF X31 hx hZ31 hown31 (host := "") (Or.inl (hw _ (List.mem_of_getElem? (i := 38) rfl))) Via.refl e31 Fv31 (g := (mkF m 11 #[.val (.ref a0), .val (.ref a1), .val (.int p2), .val (.int p3), .val .null, .unset] [(.ref b31), (.ref a0)])) rfl rfl (hb hby own_d4_11)
  obtain ⟨T40, h40, X40, e40, W40, st40⟩ := putF X39 hx hZ31 hown31 (host := "") (Or.inl (hw _ (List.mem_of_getElem? (i := 38) rfl))) Via.refl e39 f33 f32 (Or.inr ⟨(hw _ (List.mem_of_getElem? (i := 39) rfl)), rfl, hnm⟩) (hw _ (List.mem_of_getElem? (i := 12) rfl)) (ty := (.array .byte)) (by decide) rfl rfl (g := (mkF m 14 #[.val (.ref a0), .val (.ref a1), .val (.int p2), .val (.int p3), .val .null, .unset] [(.ref d31), (.ref a0)])) rfl rfl (hb hby own_d4_14)
  have f41 := f32.wr W40
  have f42 := f34.other W40 (Or.inr (slot_ne (Or.inr (hw _ (List.mem_of_getElem? (i := 37) rfl))) (Or.inr (hw _ (List.mem_of_getElem? (i := 39) rfl))) (by decide) (t := .byte) (t' := (.array .byte)) (by decide) (by decide)))
  have f43 := Safe.wr W40 f35 CH36.1 f35
  have f44 := Ex31.wr W40
  have f45 := Fc31.other W40 (Or.inl (Ne.symm (ne31 _ f35).1))
  have f46 := Fv31.other W40 (Or.inl (Ne.symm (ne31 _ f35).1))
  have CH47 := CHr.trans CH36 (CHr.wr W40 f35 CH36.1)
  have K48 : Keep h0 h40 [a0] := K38.wr W40 (Or.inl (List.mem_of_getElem? (i := 0) rfl))
  have z49 : n0 ≤ h40.size := Nat.le_trans z37 (Keep.of_wr W40).1
  have hk50 := Nat.le_trans hk31 (Keep.of_wr W40).1
  have N51 := Fr.snoc X40 N0 g_a0
  have f52 : Fld Z h40 a0 "java/lang/String" "value" "[B" (.ref d31) := f33.same W40
  obtain ⟨b53, T53, h53, k1_53, d53, kd53, X53, e53, E53, hS53, hk53, hZ53, hown53, Ex53, Fc53, Fv53, Av53, la53, lb53, A53, -, ne53, st53⟩ := ldcCH (s := s) (vm0 := T31.vm) (EL := own_EL) X40 hx hZ31 hown31 (hw _ (List.mem_of_getElem? (i := 180) rfl)) wS e40 hS31 hk50 hEL (by decide) CH47.1 (vs := []) (z := (0 : Int32)) ⟨by decide, rfl⟩ (by decide) rfl (g := (mkF m 18 #[.val (.ref a0), .val (.ref a1), .val (.int p2), .val (.int p3), .val .null, .unset] [(.ref a0)])) rfl (hb hby own_d4_18) (n := 0) (by decide) (by decide) (by decide) (by decide)
  have f54 := f41.ext E53
  have f55 := f52.ext E53
  have f56 := f42.ext E53
  have f57 := CHr.safe A53 f41.lt f43
  have f58 := f44.ext E53
  have f59 := f45.ext E53
  have f60 := f46.ext E53
  have CH61 := CHr.trans CH47 A53
  have z62 : n0 ≤ h53.size := Nat.le_trans z49 E53.1
  have K63 : Keep h0 h53 [a0] := K48.ext E53
  obtain ⟨T64, X64, e64, st64⟩ := getF X53 hx hZ53 hown53 (host := "") (Or.inl (hw _ (List.mem_of_getElem? (i := 36) rfl))) Via.refl e53 Fc53 (g := (mkF m 20 #[.val (.ref a0), .val (.ref a1), .val (.int p2), .val (.int p3), .val .null, .unset] [(.ref b53), (.ref a0)])) rfl rfl (hb hby own_d4_20)
  obtain ⟨T65, h65, X65, e65, W65, st65⟩ := putFN X64 hx hZ53 hown53 (hw _ (List.mem_of_getElem? (i := 36) rfl)) Via.refl e64 f56 f54 (Or.inr ⟨(hw _ (List.mem_of_getElem? (i := 37) rfl)), rfl, hnm⟩) (hw _ (List.mem_of_getElem? (i := 12) rfl)) (ty := .byte) (v' := (.int (nar .byte (0 : Int32)))) (by decide) rfl (fits_nar_byte _) (g := (mkF m 23 #[.val (.ref a0), .val (.ref a1), .val (.int p2), .val (.int p3), .val .null, .unset] [(.int (0 : Int32)), (.ref a0)])) rfl rfl (hb hby own_d4_23)
  have f66 := f54.wr W65
  have f67 := f55.other W65 (Or.inr (slot_ne (Or.inr (hw _ (List.mem_of_getElem? (i := 39) rfl))) (Or.inr (hw _ (List.mem_of_getElem? (i := 37) rfl))) (by decide) (t := (.array .byte)) (t' := .byte) (by decide) (by decide)))
  have f68 := Safe.wr W65 f57 CH61.1 f57
  have f69 := f58.wr W65
  have f70 := f59.other W65 (Or.inl (Ne.symm (ne31 _ f35).1))
  have f71 := f60.other W65 (Or.inl (Ne.symm (ne31 _ f35).1))
  have f72 := Ex53.wr W65
  have f73 := Fc53.other W65 (Or.inl (Ne.symm (ne53 _ f57).1))
  have f74 := Fv53.other W65 (Or.inl (Ne.symm (ne53 _ f57).1))
  have CH75 := CHr.trans CH61 (CHr.wr W65 f57 CH61.1)
  have K76 : Keep h0 h65 [a0] := K63.wr W65 (Or.inl (List.mem_of_getElem? (i := 0) rfl))
  have z77 : n0 ≤ h65.size := Nat.le_trans z62 (Keep.of_wr W65).1
  have hk78 := Nat.le_trans hk53 (Keep.of_wr W65).1
  have N79 := Fr.snoc X65 N51 g_a0
  have f80 : Fld Z h65 a0 "java/lang/String" "coder" "B" (.int (nar .byte (0 : Int32))) := f56.same W65
  obtain ⟨fs, hr, hrun, hended, hR1, hR2, hR3, hR4⟩ := Stand.leaveW (s := s) (vm₁ := T53.vm) X65 hS53 (by rw [e65]; exact hk78) (v := none) (fun _ => rfl)
  refine ⟨_, _, pre0 _ ?_, hrun, hended, _, _, rfl, ?_, (by show CHr Z own_EL s.vm s.heap T65.vm T65.heap; rw [hh, e65]; exact CHr.trans CH75 (CHv.at (s := s) (vm0 := T53.vm) X65 hZ53 hEL CH75.1)), hR1, hR2, hR3, hR4.mono (by decide) (by decide)⟩
  · show Steps p.tables e below (s₁.setTop (mkF m 0 #[.val (.ref a0), .val (.ref a1), .val (.int p2), .val (.int p3), .val .null, .unset] [])) _
    refine XS.aloadN X0.here hx rfl (hb hby own_d4_0) rfl rfl ?_
    show Steps p.tables e below (s₁.setTop (mkF m 1 #[.val (.ref a0), .val (.ref a1), .val (.int p2), .val (.int p3), .val .null, .unset] [(.ref a0)])) _
    refine st30 _ ?_
    show Steps p.tables e below (T30.setTop (mkF m 4 #[.val (.ref a0), .val (.ref a1), .val (.int p2), .val (.int p3), .val .null, .unset] [])) _
    refine XS.iloadN X30.here hx rfl (hb hby own_d4_4) rfl ?_
    show Steps p.tables e below (T30.setTop (mkF m 5 #[.val (.ref a0), .val (.ref a1), .val (.int p2), .val (.int p3), .val .null, .unset] [(.int p3)])) _
    refine XS.ifNo X30.here hx rfl (hb hby own_d4_5) rfl ((if0 _ _).trans (teq (hp3 : p3 = (0 : Int32))).2) ?_
    show Steps p.tables e below (T30.setTop (mkF m 8 #[.val (.ref a0), .val (.ref a1), .val (.int p2), .val (.int p3), .val .null, .unset] [])) _
    refine XS.aloadN X30.here hx rfl (hb hby own_d4_8) rfl rfl ?_
    show Steps p.tables e below (T30.setTop (mkF m 9 #[.val (.ref a0), .val (.ref a1), .val (.int p2), .val (.int p3), .val .null, .unset] [(.ref a0)])) _
    refine st31 _ ?_
    show Steps p.tables e below (T31.setTop (mkF m 11 #[.val (.ref a0), .val (.ref a1), .val (.int p2), .val (.int p3), .val .null, .unset] [(.ref b31), (.ref a0)])) _
    refine st39 _ ?_
    show Steps p.tables e below (T39.setTop (mkF m 14 #[.val (.ref a0), .val (.ref a1), .val (.int p2), .val (.int p3), .val .null, .unset] [(.ref d31), (.ref a0)])) _
    refine st40 _ ?_
    show Steps p.tables e below (T40.setTop (mkF m 17 #[.val (.ref a0), .val (.ref a1), .val (.int p2), .val (.int p3), .val .null, .unset] [])) _
    refine XS.aloadN X40.here hx rfl (hb hby own_d4_17) rfl rfl ?_
    show Steps p.tables e below (T40.setTop (mkF m 18 #[.val (.ref a0), .val (.ref a1), .val (.int p2), .val (.int p3), .val .null, .unset] [(.ref a0)])) _
    refine st53 _ ?_
    show Steps p.tables e below (T53.setTop (mkF m 20 #[.val (.ref a0), .val (.ref a1), .val (.int p2), .val (.int p3), .val .null, .unset] [(.ref b53), (.ref a0)])) _
    refine st64 _ ?_
    show Steps p.tables e below (T64.setTop (mkF m 23 #[.val (.ref a0), .val (.ref a1), .val (.int p2), .val (.int p3), .val .null, .unset] [(.int (0 : Int32)), (.ref a0)])) _
    refine st65 _ ?_
    show Steps p.tables e below (T65.setTop (mkF m 26 #[.val (.ref a0), .val (.ref a1), .val (.int p2), .val (.int p3), .val .null, .unset] [])) _
    exact X65.returnOut hx Bd.returns (hb hby own_d4_26) hr
  · show own_QI4E Z a0 a1 p2 p3 h0 n0 _ T65.heap _
    rw [e65]
    exact ⟨rfl, N79, K76, f66⟩
theorem own_d3_0 : decode jdk_42_method_3_code 0 = .ok (.aload_n 0, 1) := by decide +kernel
theorem own_d3_1 : decode jdk_42_method_3_code 1 = .ok (.aload_n 1, 1) := by decide +kernel
theorem own_d3_2 : decode jdk_42_method_3_code 2 = .ok (.iconst 0, 1) := by decide +kernel
theorem own_d3_3 : decode jdk_42_method_3_code 3 = .ok (.aload_n 1, 1) := by decide +kernel
theorem own_d3_4 : decode jdk_42_method_3_code 4 = .ok (.arraylength, 1) := by decide +kernel
theorem own_d3_5 : decode jdk_42_method_3_code 5 = .ok (.aconst_null, 1) := by decide +kernel
theorem own_pd1 : parseMethodDescriptor "([CIILjava/lang/Void;)V" = some ⟨[(.array .char), .int, .int, (.object "java/lang/Void")], none⟩ := by decide +kernel
theorem own_d3_6 : decode jdk_42_method_3_code 6 = .ok (.invokespecial 27, 3) := by decide +kernel
theorem own_d3_9 : decode jdk_42_method_3_code 9 = .ok (.return_, 1) := by decide +kernel
theorem own_efIE (m : MethodId) (a0 : Addr) (a1 : Addr) : entryFrame m #[(.ref a0), (.ref a1)] 2 = mkF m 0 #[.val (.ref a0), .val (.ref a1)] [] := by first | (simp [entryFrame, mkF, argsToLocals, Value.category]; done) | rfl
def own_QIE (Z : State) (a0 : Addr) (a1 : Addr) (ka : ClassId) (h0 : Heap) (n0 : Nat) (v : Option Value) (h : Heap) (L : List Loc) : Prop := v = none ∧ Fr n0 L ∧ Keep h0 h [a0] ∧ (Exa Z h a0 "java/lang/String")
set_option maxRecDepth 65536 in
set_option maxHeartbeats 40000000 in
theorem own_rmIE (l : Launch) (Z : State) (av : Array Value) (hw : ∀ d ∈ tables_1, d.before av Z = true) (ws : List Jvm.Cond) (a0 : Addr) (a1 : Addr) (ka : ClassId) (h0 : Heap) (n0 : Nat) (Z0 : n0 ≤ h0.size) (pr0 : Exa Z h0 a0 "java/lang/String") (pr1 : Fld Z h0 a0 "java/lang/String" "value" "[B" .null) (pr2 : Fld Z h0 a0 "java/lang/String" "coder" "B" (.int (0 : Int32))) (pr3 : Arv Z h0 a1 ka .char (0 : Int32) [] (.int (0 : Int32))) (g_a0 : n0 ≤ a0) (ne_a0_a1 : a0 ≠ a1) :
    MetFree l (⟨"java/lang/String", "<init>", "([C)V"⟩ : MethodName) (head1 (Jvm.Cond.code (⟨"java/lang/String", "<init>", "([C)V"⟩ : MethodName) jdk_42_method_3_code 2 none :: ws) ({ frames := 2, cells := 4, slots := 8, locals := 29 } : Room)) (fun a U => a = #[(.ref a0), (.ref a1)] ∧ Z.Warmed39 U.vm ∧ U.heap = h0 ∧ CHv Z own_EL U.vm h0 ∧ ∀ x ∈ ([a0] : List Addr), Safe Z own_EL U.vm h0 x) (fun _ _ _ _ _ => True) (fun _ U o U' => ∃ v L, o = .returned v ∧ own_QIE Z a0 a1 ka h0 n0 v U'.heap L ∧ CHr Z own_EL U.vm U.heap U'.vm U'.heap ∧ ReturnedEndW U o U' L ({ frames := 2, cells := 4, slots := 8, locals := 29 } : Room).cells ({ frames := 2, cells := 4, slots := 8, locals := 29 } : Room).slots) := by
  refine MetFree.of_bodySF (plainFor_of_name own_pn60) hisR ?_
  intro p e s m args below meth c s₁ Bd hml0 hP hK
  obtain ⟨rfl, hZ, hh, hCH, hSf⟩ := hP
  have hx := Bd.exec
  have hby := Bd.bytes
  have hml : c.maxLocals = 2 := hml0
  have hown : s.vm.findClass "java/lang/String" = some m.cls := findClass_of_methodNamed Bd.named
  have hnm := (name_of_methodNamed Bd.named Bd.method).1
  have X0 : Stand p l e ({ frames := 2, cells := 4, slots := 8, locals := 29 } : Room) s m #[(.ref a0), (.ref a1)] below meth c s₁ [] 0 0 := Stand.of_body Bd
  have e0 : s₁.heap = h0 := by rw [← hh, Bd.state]; rfl
  have N0 := Fr.nil n0
  have hS0 : s.Since s.vm s.heap.size := (State.WarmedH.refl s).since _
  have hk0 : s.heap.size ≤ h0.size := Nat.le_of_eq (congrArg Array.size hh)
  have wS := own_wS hw
  have hEL := own_hEL hw
  have CH0 : CHr Z own_EL s.vm h0 s.vm h0 := CHr.refl hCH
  have sfp0 : Safe Z own_EL s.vm h0 a0 := hSf _ (List.mem_of_getElem? (i := 0) rfl)
  have pre0 : ∀ t, Steps p.tables e below (s₁.setTop (mkF m 0 #[.val (.ref a0), .val (.ref a1)] [])) t → Steps p.tables e below (s₁.setTop (entryFrame m #[(.ref a0), (.ref a1)] 2)) t := fun t k => castTop (own_efIE m a0 a1) k
  obtain ⟨cl81, Ar81, q81, S81, M81, H81, G81⟩ := id pr3
  obtain ⟨_, _, ⟨T82, L82, k82, n82⟩, -, Y82, hSa82, gle82, ⟨Lc82, hQ82, l82, y82, z82, A82⟩, st82⟩ := X0.specialBackS hx (y := (⟨"java/lang/String", "<init>", "([CIILjava/lang/Void;)V"⟩ : MethodName)) rfl hown (mvT hZ (hw _ (List.mem_of_getElem? (i := 17) rfl))) (mvT hZ (hw _ (List.mem_of_getElem? (i := 18) rfl))) (mvT hZ (hw _ (List.mem_of_getElem? (i := 20) rfl))) (by decide) (own_backSH (s := s) (vm0 := s.vm) (W := 0) (xs := [a0]) (own_rmI4E l Z av hw [] a0 a1 (0 : Int32) (0 : Int32) h0 n0 Z0 pr0 pr1 pr2 g_a0 (rfl)) hZ (hw _ (List.mem_of_getElem? (i := 20) rfl)) (hw _ (List.mem_of_getElem? (i := 13) rfl)) (by decide) (by decide) hEL CH0.1 (own_slS sfp0 pr0.lt own_sl0)) (g := (mkF m 6 #[.val (.ref a0), .val (.ref a1)] [.null, (.int (0 : Int32)), (.int (0 : Int32)), (.ref a1), (.ref a0)])) rfl (by rw [hml]; rfl) (Steps.refl _) (a := a0) (argsL := [(.ref a1), (.int (0 : Int32)), (.int (0 : Int32)), .null]) (rest := []) (lenOf own_pd1 rfl) rfl (by show 2 * 0 + _ ≤ _; exact Nat.le_of_eq rfl) (hb hby own_d3_6) (fun _ _ => ⟨rfl, e0, (by decide : 0 + 4 ≤ _), (by decide : 0 + 8 ≤ _)⟩)
  dsimp only [Pt.U, Pt.locs, Pt.cells, Pt.slots] at Y82 hSa82 gle82 l82 y82 z82 st82 hQ82 A82
  subst l82 y82 z82
  obtain ⟨X82, hS82, hZ82, hown82⟩ := rebS (s := s) (vm0 := s.vm) hS0 (show _ ≤ s₁.heap.size from (by rw [e0]; exact hk0)) Y82 hSa82 gle82 hZ hown
  obtain ⟨rfl, N82q, K82, f84⟩ := hQ82
  have f85 := pr3.keep K82 (ninS (Ne.symm ne_a0_a1) nin0)
  have f86 := CHr.safe A82 pr0.lt sfp0
  have CH87 := CHr.trans CH0 A82
  have K88 : Keep h0 T82.heap [a0] := (Keep.refl h0 [a0]).trans K82 (allS (Or.inl (List.mem_of_getElem? (i := 0) rfl)) all0)
  have z89 : n0 ≤ T82.heap.size := Nat.le_trans Z0 K82.1
  have N83 := Fr.app N0 N82q
  obtain ⟨fs, hr, hrun, hended, hR1, hR2, hR3, hR4⟩ := Stand.leaveW (s := s) (vm₁ := T82.vm) X82 hS82 (Nat.le_refl T82.heap.size) (v := none) (fun _ => rfl)
  refine ⟨_, _, pre0 _ ?_, hrun, hended, _, _, rfl, ?_, (by show CHr Z own_EL s.vm s.heap T82.vm T82.heap; rw [hh]; exact CHr.trans CH87 (CHv.at (s := s) (vm0 := T82.vm) X82 hZ82 hEL CH87.1)), hR1, hR2, hR3, hR4.mono (by decide) (by decide)⟩
  · show Steps p.tables e below (s₁.setTop (mkF m 0 #[.val (.ref a0), .val (.ref a1)] [])) _
    refine XS.aloadN X0.here hx rfl (hb hby own_d3_0) rfl rfl ?_
    show Steps p.tables e below (s₁.setTop (mkF m 1 #[.val (.ref a0), .val (.ref a1)] [(.ref a0)])) _
    refine XS.aloadN X0.here hx rfl (hb hby own_d3_1) rfl rfl ?_
    show Steps p.tables e below (s₁.setTop (mkF m 2 #[.val (.ref a0), .val (.ref a1)] [(.ref a1), (.ref a0)])) _
    refine XS.iconst X0.here hx rfl (hb hby own_d3_2) ?_
    show Steps p.tables e below (s₁.setTop (mkF m 3 #[.val (.ref a0), .val (.ref a1)] [(.int (0 : Int32)), (.ref a1), (.ref a0)])) _
    refine XS.aloadN X0.here hx rfl (hb hby own_d3_3) rfl rfl ?_
    show Steps p.tables e below (s₁.setTop (mkF m 4 #[.val (.ref a0), .val (.ref a1)] [(.ref a1), (.int (0 : Int32)), (.ref a1), (.ref a0)])) _
    refine X0.arraylength hx (by rw [e0]; exact Ar81.1) (State.isArrayOf_alike hZ.alike Ar81.2.1) (g := (mkF m 4 #[.val (.ref a0), .val (.ref a1)] [(.ref a1), (.int (0 : Int32)), (.ref a1), (.ref a0)])) rfl rfl (hb hby own_d3_4) _ ?_
    rw [len_of S81 M81]
    show Steps p.tables e below (s₁.setTop (mkF m 5 #[.val (.ref a0), .val (.ref a1)] [(.int (0 : Int32)), (.int (0 : Int32)), (.ref a1), (.ref a0)])) _
    refine XS.aconstNull X0.here hx rfl (hb hby own_d3_5) ?_
    show Steps p.tables e below (s₁.setTop (mkF m 6 #[.val (.ref a0), .val (.ref a1)] [.null, (.int (0 : Int32)), (.int (0 : Int32)), (.ref a1), (.ref a0)])) _
    refine st82.trans ?_
    show Steps p.tables e below (T82.setTop (mkF m 9 #[.val (.ref a0), .val (.ref a1)] [])) _
    exact X82.returnOut hx Bd.returns (hb hby own_d3_9) hr
  · show own_QIE Z a0 a1 ka h0 n0 _ T82.heap _
    exact ⟨rfl, N83, K88, f84⟩
theorem own_d4_27 : decode jdk_42_method_149_code 27 = .ok (.getstatic 38, 3) := by decide +kernel
theorem own_d4_30 : decode jdk_42_method_149_code 30 = .ok (.ifCond .eq 28, 3) := by decide +kernel
theorem own_d4_33 : decode jdk_42_method_149_code 33 = .ok (.aload_n 1, 1) := by decide +kernel
theorem own_d4_34 : decode jdk_42_method_149_code 34 = .ok (.iload_n 2, 1) := by decide +kernel
theorem own_d4_35 : decode jdk_42_method_149_code 35 = .ok (.iload_n 3, 1) := by decide +kernel
theorem own_pd2 : parseMethodDescriptor "([CII)[B" = some ⟨[(.array .char), .int, .int], some (.array .byte)⟩ := by decide +kernel
theorem own_d4_36 : decode jdk_42_method_149_code 36 = .ok (.invokestatic 177, 3) := by decide +kernel
theorem own_d4_39 : decode jdk_42_method_149_code 39 = .ok (.astore 5, 2) := by decide +kernel
theorem own_d4_41 : decode jdk_42_method_149_code 41 = .ok (.aload_n 0, 1) := by decide +kernel
theorem own_d4_42 : decode jdk_42_method_149_code 42 = .ok (.aload 5, 2) := by decide +kernel
theorem own_d4_44 : decode jdk_42_method_149_code 44 = .ok (.iload_n 3, 1) := by decide +kernel
theorem own_pd3 : parseMethodDescriptor "([BI)B" = some ⟨[(.array .byte), .int], some .byte⟩ := by decide +kernel
theorem own_d4_45 : decode jdk_42_method_149_code 45 = .ok (.invokestatic 47, 3) := by decide +kernel
theorem own_d4_48 : decode jdk_42_method_149_code 48 = .ok (.putfield 15, 3) := by decide +kernel
theorem own_d4_51 : decode jdk_42_method_149_code 51 = .ok (.aload_n 0, 1) := by decide +kernel
theorem own_d4_52 : decode jdk_42_method_149_code 52 = .ok (.aload 5, 2) := by decide +kernel
theorem own_d4_54 : decode jdk_42_method_149_code 54 = .ok (.putfield 9, 3) := by decide +kernel
theorem own_d4_57 : decode jdk_42_method_149_code 57 = .ok (.return_, 1) := by decide +kernel
theorem own_efI42 (m : MethodId) (a0 : Addr) (a1 : Addr) (p2 : Int32) (p3 : Int32) : entryFrame m #[(.ref a0), (.ref a1), (.int p2), (.int p3), .null] 6 = mkF m 0 #[.val (.ref a0), .val (.ref a1), .val (.int p2), .val (.int p3), .val .null, .unset] [] := by first | (simp [entryFrame, mkF, argsToLocals, Value.category]; done) | rfl
def own_QI42 (Z : State) (a0 : Addr) (a1 : Addr) (p2 : Int32) (p3 : Int32) (ka : ClassId) (c0 : Int32) (c1 : Int32) (cs : Int32) (h0 : Heap) (n0 : Nat) (v : Option Value) (h : Heap) (L : List Loc) : Prop := v = none ∧ Fr n0 L ∧ Keep h0 h [a0] ∧ (Exa Z h a0 "java/lang/String")
set_option maxRecDepth 65536 in
set_option maxHeartbeats 40000000 in
theorem own_rmI42 (l : Launch) (Z : State) (av : Array Value) (hw : ∀ d ∈ tables_1, d.before av Z = true) (ws : List Jvm.Cond) (a0 : Addr) (a1 : Addr) (p2 : Int32) (p3 : Int32) (ka : ClassId) (c0 : Int32) (c1 : Int32) (cs : Int32) (h0 : Heap) (n0 : Nat) (Z0 : n0 ≤ h0.size) (pr0 : Exa Z h0 a0 "java/lang/String") (pr1 : Fld Z h0 a0 "java/lang/String" "value" "[B" .null) (pr2 : Fld Z h0 a0 "java/lang/String" "coder" "B" (.int (0 : Int32))) (pr3 : Arv Z h0 a1 ka .char (2 : Int32) [(.int c0), (.int c1)] (.int (0 : Int32))) (pr4 : Sta Z h0 "java/lang/String" "COMPACT_STRINGS" "Z" (.int cs)) (g_a0 : n0 ≤ a0) (ne_a0_a1 : a0 ≠ a1) (hp2 : p2 = (0 : Int32)) (hp3 : p3 = (2 : Int32)) (hcs : ¬ (cs = (0 : Int32))) (hl0 : ¬ ((255 : Int32) < c0)) (hl1 : ¬ ((255 : Int32) < c1)) :
    MetFree l (⟨"java/lang/String", "<init>", "([CIILjava/lang/Void;)V"⟩ : MethodName) (head1 (Jvm.Cond.code (⟨"java/lang/String", "<init>", "([CIILjava/lang/Void;)V"⟩ : MethodName) jdk_42_method_149_code 6 none :: ws) ({ frames := 2, cells := 1, slots := 2, locals := 35 } : Room)) (fun a U => a = #[(.ref a0), (.ref a1), (.int p2), (.int p3), .null] ∧ Z.Warmed39 U.vm ∧ U.heap = h0) (fun _ _ _ _ _ => True) (fun _ U o U' => ∃ v L, o = .returned v ∧ own_QI42 Z a0 a1 p2 p3 ka c0 c1 cs h0 n0 v U'.heap L ∧ FrameEnd U o U' L ({ frames := 2, cells := 1, slots := 2, locals := 35 } : Room).cells ({ frames := 2, cells := 1, slots := 2, locals := 35 } : Room).slots) := by
  refine MetFree.of_bodySF (plainFor_of_name own_pn60) hisR ?_
  intro p e s m args below meth c s₁ Bd hml0 hP hK
  obtain ⟨rfl, hZ, hh⟩ := hP
  have hx := Bd.exec
  have hby := Bd.bytes
  have hml : c.maxLocals = 6 := hml0
  have hown : s.vm.findClass "java/lang/String" = some m.cls := findClass_of_methodNamed Bd.named
  have hnm := (name_of_methodNamed Bd.named Bd.method).1
  have X0 : Stand p l e ({ frames := 2, cells := 1, slots := 2, locals := 35 } : Room) s m #[(.ref a0), (.ref a1), (.int p2), (.int p3), .null] below meth c s₁ [] 0 0 := Stand.of_body Bd
  have e0 : s₁.heap = h0 := by rw [← hh, Bd.state]; rfl
  have N0 := Fr.nil n0
  have pre0 : ∀ t, Steps p.tables e below (s₁.setTop (mkF m 0 #[.val (.ref a0), .val (.ref a1), .val (.int p2), .val (.int p3), .val .null, .unset] [])) t → Steps p.tables e below (s₁.setTop (entryFrame m #[(.ref a0), (.ref a1), (.int p2), (.int p3), .null] 6)) t := fun t k => castTop (own_efI42 m a0 a1 p2 p3) k
  subst hp2
  subst hp3
  obtain ⟨T90, X90, e90, st90⟩ := initO X0 hx hZ hown (hw _ (List.mem_of_getElem? (i := 21) rfl)) (hw _ (List.mem_of_getElem? (i := 22) rfl)) (hw _ (List.mem_of_getElem? (i := 23) rfl)) e0 (g := (mkF m 1 #[.val (.ref a0), .val (.ref a1), .val (.int (0 : Int32)), .val (.int (2 : Int32)), .val .null, .unset] [(.ref a0)])) rfl (by rw [hml]; rfl) rfl (hb hby own_d4_1) (by decide) (W := 0) (by show 2 * 0 + _ ≤ _; exact Nat.le_of_eq rfl) (by decide)
  obtain ⟨T91, X91, e91, st91⟩ := getS2 X90 hx hZ hown (host := "") (Or.inl (hw _ (List.mem_of_getElem? (i := 24) rfl))) Via.refl e90 pr4 (g := (mkF m 27 #[.val (.ref a0), .val (.ref a1), .val (.int (0 : Int32)), .val (.int (2 : Int32)), .val .null, .unset] [])) rfl (hb hby own_d4_27)
  obtain ⟨_, _, ⟨T92, L92, k92, n92⟩, -, X92, ⟨Lc92, hQ92, l92, y92, z92⟩, st92⟩ := Jvm.LawKit.callS X91 hx (y := (⟨"java/lang/StringUTF16", "compress", "([CII)[B"⟩ : MethodName)) hown (mvT hZ (hw _ (List.mem_of_getElem? (i := 25) rfl))) (mvT hZ (hw _ (List.mem_of_getElem? (i := 26) rfl))) (mvT hZ (hw _ (List.mem_of_getElem? (i := 27) rfl))) (mvT hZ (hw _ (List.mem_of_getElem? (i := 28) rfl))) (by decide) (backOf (W := 0) (own_rmCB l Z av hw [] a1 (0 : Int32) (2 : Int32) (ka) (c0) (c1) h0 n0 Z0 pr3 (rfl) (rfl) (hl0) (hl1)) hZ (hw _ (List.mem_of_getElem? (i := 28) rfl)) (hw _ (List.mem_of_getElem? (i := 27) rfl)) (by decide) (by decide)) (g := (mkF m 36 #[.val (.ref a0), .val (.ref a1), .val (.int (0 : Int32)), .val (.int (2 : Int32)), .val .null, .unset] [(.int (2 : Int32)), (.int (0 : Int32)), (.ref a1)])) rfl (by rw [hml]; rfl) (argsL := [(.ref a1), (.int (0 : Int32)), (.int (2 : Int32))]) (rest := []) (lenOf own_pd2 rfl) rfl (by show 2 * 0 + _ ≤ _; exact Nat.le_of_eq rfl) (hb hby own_d4_36) (fun _ _ => ⟨rfl, e91, (by decide : 0 + 1 ≤ _), (by decide : 0 + 2 ≤ _)⟩)
  dsimp only [Pt.U, Pt.locs, Pt.cells, Pt.slots] at X92 l92 y92 z92 st92 hQ92
  subst l92 y92 z92
  obtain ⟨b93, kb94, vs95, rfl, N92q, K92, g_b93, sz92_b93, f97⟩ := hQ92
  have ne_a0_b93 : a0 ≠ b93 := Nat.ne_of_lt (Nat.lt_of_lt_of_le pr0.lt sz92_b93)
  have ne_a1_b93 : a1 ≠ b93 := Nat.ne_of_lt (Nat.lt_of_lt_of_le pr3.lt sz92_b93)
  have sz_b93 : h0.size ≤ b93 := Nat.le_trans (Keep.refl h0 [a0]).1 sz92_b93
  have f98 := pr0.keep K92
  have f99 := pr1.keep K92 nin0
  have f100 := pr2.keep K92 nin0
  have f101 := pr3.keep K92 nin0
  have f102 := own_staKeep pr4 K92 all0
  have K103 : Keep h0 T92.heap [a0] := (Keep.refl h0 [a0]).trans K92 all0
  have z104 : n0 ≤ T92.heap.size := Nat.le_trans Z0 K92.1
  have N96 := Fr.app N0 N92q
  obtain ⟨_, _, ⟨T105, L105, k105, n105⟩, -, X105, ⟨Lc105, hQ105, l105, y105, z105⟩, st105⟩ := Jvm.LawKit.callS X92 hx (y := (⟨"java/lang/StringUTF16", "coderFromArrayLen", "([BI)B"⟩ : MethodName)) hown (mvT hZ (hw _ (List.mem_of_getElem? (i := 33) rfl))) (mvT hZ (hw _ (List.mem_of_getElem? (i := 34) rfl))) (mvT hZ (hw _ (List.mem_of_getElem? (i := 27) rfl))) (mvT hZ (hw _ (List.mem_of_getElem? (i := 35) rfl))) (by decide) (backOf (W := 1) (own_rm8 l Z av hw [] b93 (2 : Int32) (kb94) ((2 : Int32)) (vs95) ((.int (0 : Int32))) T92.heap n0 z104 f97) hZ (hw _ (List.mem_of_getElem? (i := 35) rfl)) (hw _ (List.mem_of_getElem? (i := 27) rfl)) (by decide) (by decide)) (g := (mkF m 45 #[.val (.ref a0), .val (.ref a1), .val (.int (0 : Int32)), .val (.int (2 : Int32)), .val .null, .val (.ref b93)] [(.int (2 : Int32)), (.ref b93), (.ref a0)])) rfl (by rw [hml]; rfl) (argsL := [(.ref b93), (.int (2 : Int32))]) (rest := [(.ref a0)]) (lenOf own_pd3 rfl) rfl (by show 2 * 0 + _ ≤ _; exact Nat.le_of_eq rfl) (hb hby own_d4_45) (fun _ _ => ⟨rfl, rfl, (by decide : 1 + 0 ≤ _), (by decide : 2 + 0 ≤ _)⟩)
  dsimp only [Pt.U, Pt.locs, Pt.cells, Pt.slots] at X105 l105 y105 z105 st105 hQ105
  subst l105 y105 z105
  obtain ⟨r106, rfl, N105q, e108⟩ := hQ105
  have N107 := Fr.app N96 N105q
  obtain ⟨T109, h109, X109, e109, W109, st109⟩ := putFN X105 hx hZ hown (hw _ (List.mem_of_getElem? (i := 36) rfl)) Via.refl e108 f100 f98 (Or.inr ⟨(hw _ (List.mem_of_getElem? (i := 37) rfl)), rfl, hnm⟩) (hw _ (List.mem_of_getElem? (i := 12) rfl)) (ty := .byte) (v' := (.int (nar .byte r106))) (by decide) rfl (fits_nar_byte _) (g := (mkF m 48 #[.val (.ref a0), .val (.ref a1), .val (.int (0 : Int32)), .val (.int (2 : Int32)), .val .null, .val (.ref b93)] [(.int r106), (.ref a0)])) rfl rfl (hb hby own_d4_48)
  have f110 := f98.wr W109
  have f111 := f99.other W109 (Or.inr (slot_ne (Or.inr (hw _ (List.mem_of_getElem? (i := 39) rfl))) (Or.inr (hw _ (List.mem_of_getElem? (i := 37) rfl))) (by decide) (t := (.array .byte)) (t' := .byte) (by decide) (by decide)))
  have f112 := f101.other W109 (Ne.symm ne_a0_a1)
  have f113 := f102.wr W109
  have f114 := f97.other W109 (Ne.symm ne_a0_b93)
  have K115 : Keep h0 h109 [a0] := K103.wr W109 (Or.inl (List.mem_of_getElem? (i := 0) rfl))
  have z116 : n0 ≤ h109.size := Nat.le_trans z104 (Keep.of_wr W109).1
  have N117 := Fr.snoc X109 N107 g_a0
  have f118 : Fld Z h109 a0 "java/lang/String" "coder" "B" (.int (nar .byte r106)) := f100.same W109
  obtain ⟨T119, h119, X119, e119, W119, st119⟩ := putF X109 hx hZ hown (host := "") (Or.inl (hw _ (List.mem_of_getElem? (i := 38) rfl))) Via.refl e109 f111 f110 (Or.inr ⟨(hw _ (List.mem_of_getElem? (i := 39) rfl)), rfl, hnm⟩) (hw _ (List.mem_of_getElem? (i := 12) rfl)) (ty := (.array .byte)) (by decide) rfl rfl (g := (mkF m 54 #[.val (.ref a0), .val (.ref a1), .val (.int (0 : Int32)), .val (.int (2 : Int32)), .val .null, .val (.ref b93)] [(.ref b93), (.ref a0)])) rfl rfl (hb hby own_d4_54)
  have f120 := f110.wr W119
  have f121 := f118.other W119 (Or.inr (slot_ne (Or.inr (hw _ (List.mem_of_getElem? (i := 37) rfl))) (Or.inr (hw _ (List.mem_of_getElem? (i := 39) rfl))) (by decide) (t := .byte) (t' := (.array .byte)) (by decide) (by decide)))
  have f122 := f112.other W119 (Ne.symm ne_a0_a1)
  have f123 := f113.wr W119
  have f124 := f114.other W119 (Ne.symm ne_a0_b93)
  have K125 : Keep h0 h119 [a0] := K115.wr W119 (Or.inl (List.mem_of_getElem? (i := 0) rfl))
  have z126 : n0 ≤ h119.size := Nat.le_trans z116 (Keep.of_wr W119).1
  have N127 := Fr.snoc X119 N117 g_a0
  have f128 : Fld Z h119 a0 "java/lang/String" "value" "[B" (.ref b93) := f111.same W119
  obtain ⟨fs, hr, hrun, hended, hW, hsame⟩ := X119.leave (v := none) (fun _ => rfl)
  refine ⟨_, _, pre0 _ ?_, hrun, hended, _, _, rfl, ?_, ⟨_, rfl⟩, hW, hsame.mono (by decide) (by decide)⟩
  · show Steps p.tables e below (s₁.setTop (mkF m 0 #[.val (.ref a0), .val (.ref a1), .val (.int (0 : Int32)), .val (.int (2 : Int32)), .val .null, .unset] [])) _
    refine XS.aloadN X0.here hx rfl (hb hby own_d4_0) rfl rfl ?_
    show Steps p.tables e below (s₁.setTop (mkF m 1 #[.val (.ref a0), .val (.ref a1), .val (.int (0 : Int32)), .val (.int (2 : Int32)), .val .null, .unset] [(.ref a0)])) _
    refine st90 _ ?_
    show Steps p.tables e below (T90.setTop (mkF m 4 #[.val (.ref a0), .val (.ref a1), .val (.int (0 : Int32)), .val (.int (2 : Int32)), .val .null, .unset] [])) _
    refine XS.iloadN X90.here hx rfl (hb hby own_d4_4) rfl ?_
    show Steps p.tables e below (T90.setTop (mkF m 5 #[.val (.ref a0), .val (.ref a1), .val (.int (0 : Int32)), .val (.int (2 : Int32)), .val .null, .unset] [(.int (2 : Int32))])) _
    refine XS.ifYes X90.here hx rfl (pc0 := 5) (pc' := 27) rfl (hb hby own_d4_5) rfl ((if0 _ _).trans (feq (by decide : ¬ ((2 : Int32) = (0 : Int32)))).2) (by decide) (by decide) ?_
    show Steps p.tables e below (T90.setTop (mkF m 27 #[.val (.ref a0), .val (.ref a1), .val (.int (0 : Int32)), .val (.int (2 : Int32)), .val .null, .unset] [])) _
    refine st91 _ ?_
    show Steps p.tables e below (T91.setTop (mkF m 30 #[.val (.ref a0), .val (.ref a1), .val (.int (0 : Int32)), .val (.int (2 : Int32)), .val .null, .unset] [(.int cs)])) _
    refine XS.ifNo X91.here hx rfl (hb hby own_d4_30) rfl ((if0 _ _).trans (feq (hcs : ¬ (cs = (0 : Int32)))).1) ?_
    show Steps p.tables e below (T91.setTop (mkF m 33 #[.val (.ref a0), .val (.ref a1), .val (.int (0 : Int32)), .val (.int (2 : Int32)), .val .null, .unset] [])) _
    refine XS.aloadN X91.here hx rfl (hb hby own_d4_33) rfl rfl ?_
    show Steps p.tables e below (T91.setTop (mkF m 34 #[.val (.ref a0), .val (.ref a1), .val (.int (0 : Int32)), .val (.int (2 : Int32)), .val .null, .unset] [(.ref a1)])) _
    refine XS.iloadN X91.here hx rfl (hb hby own_d4_34) rfl ?_
    show Steps p.tables e below (T91.setTop (mkF m 35 #[.val (.ref a0), .val (.ref a1), .val (.int (0 : Int32)), .val (.int (2 : Int32)), .val .null, .unset] [(.int (0 : Int32)), (.ref a1)])) _
    refine XS.iloadN X91.here hx rfl (hb hby own_d4_35) rfl ?_
    show Steps p.tables e below (T91.setTop (mkF m 36 #[.val (.ref a0), .val (.ref a1), .val (.int (0 : Int32)), .val (.int (2 : Int32)), .val .null, .unset] [(.int (2 : Int32)), (.int (0 : Int32)), (.ref a1)])) _
    refine st92 _ ?_
    show Steps p.tables e below (T92.setTop (mkF m 39 #[.val (.ref a0), .val (.ref a1), .val (.int (0 : Int32)), .val (.int (2 : Int32)), .val .null, .unset] [(.ref b93)])) _
    refine XS.astore X92.here hx rfl (hb hby own_d4_39) rfl rfl (l' := #[.val (.ref a0), .val (.ref a1), .val (.int (0 : Int32)), .val (.int (2 : Int32)), .val .null, .val (.ref b93)]) rfl ?_
    show Steps p.tables e below (T92.setTop (mkF m 41 #[.val (.ref a0), .val (.ref a1), .val (.int (0 : Int32)), .val (.int (2 : Int32)), .val .null, .val (.ref b93)] [])) _
    refine XS.aloadN X92.here hx rfl (hb hby own_d4_41) rfl rfl ?_
    show Steps p.tables e below (T92.setTop (mkF m 42 #[.val (.ref a0), .val (.ref a1), .val (.int (0 : Int32)), .val (.int (2 : Int32)), .val .null, .val (.ref b93)] [(.ref a0)])) _
    refine XS.aload X92.here hx rfl (hb hby own_d4_42) rfl rfl ?_
    show Steps p.tables e below (T92.setTop (mkF m 44 #[.val (.ref a0), .val (.ref a1), .val (.int (0 : Int32)), .val (.int (2 : Int32)), .val .null, .val (.ref b93)] [(.ref b93), (.ref a0)])) _
    refine XS.iloadN X92.here hx rfl (hb hby own_d4_44) rfl ?_
    show Steps p.tables e below (T92.setTop (mkF m 45 #[.val (.ref a0), .val (.ref a1), .val (.int (0 : Int32)), .val (.int (2 : Int32)), .val .null, .val (.ref b93)] [(.int (2 : Int32)), (.ref b93), (.ref a0)])) _
    refine st105 _ ?_
    show Steps p.tables e below (T105.setTop (mkF m 48 #[.val (.ref a0), .val (.ref a1), .val (.int (0 : Int32)), .val (.int (2 : Int32)), .val .null, .val (.ref b93)] [(.int r106), (.ref a0)])) _
    refine st109 _ ?_
    show Steps p.tables e below (T109.setTop (mkF m 51 #[.val (.ref a0), .val (.ref a1), .val (.int (0 : Int32)), .val (.int (2 : Int32)), .val .null, .val (.ref b93)] [])) _
    refine XS.aloadN X109.here hx rfl (hb hby own_d4_51) rfl rfl ?_
    show Steps p.tables e below (T109.setTop (mkF m 52 #[.val (.ref a0), .val (.ref a1), .val (.int (0 : Int32)), .val (.int (2 : Int32)), .val .null, .val (.ref b93)] [(.ref a0)])) _
    refine XS.aload X109.here hx rfl (hb hby own_d4_52) rfl rfl ?_
    show Steps p.tables e below (T109.setTop (mkF m 54 #[.val (.ref a0), .val (.ref a1), .val (.int (0 : Int32)), .val (.int (2 : Int32)), .val .null, .val (.ref b93)] [(.ref b93), (.ref a0)])) _
    refine st119 _ ?_
    show Steps p.tables e below (T119.setTop (mkF m 57 #[.val (.ref a0), .val (.ref a1), .val (.int (0 : Int32)), .val (.int (2 : Int32)), .val .null, .val (.ref b93)] [])) _
    exact X119.returnOut hx Bd.returns (hb hby own_d4_57) hr
  · show own_QI42 Z a0 a1 (0 : Int32) (2 : Int32) ka c0 c1 cs h0 n0 _ T119.heap _
    rw [e119]
    exact ⟨rfl, N127, K125, f120⟩
theorem own_efI2 (m : MethodId) (a0 : Addr) (a1 : Addr) : entryFrame m #[(.ref a0), (.ref a1)] 2 = mkF m 0 #[.val (.ref a0), .val (.ref a1)] [] := by first | (simp [entryFrame, mkF, argsToLocals, Value.category]; done) | rfl
def own_QI2 (Z : State) (a0 : Addr) (a1 : Addr) (ka : ClassId) (c0 : Int32) (c1 : Int32) (cs : Int32) (h0 : Heap) (n0 : Nat) (v : Option Value) (h : Heap) (L : List Loc) : Prop := v = none ∧ Fr n0 L ∧ Keep h0 h [a0] ∧ (Exa Z h a0 "java/lang/String")
set_option maxRecDepth 65536 in
set_option maxHeartbeats 40000000 in
theorem own_rmI2 (l : Launch) (Z : State) (av : Array Value) (hw : ∀ d ∈ tables_1, d.before av Z = true) (ws : List Jvm.Cond) (a0 : Addr) (a1 : Addr) (ka : ClassId) (c0 : Int32) (c1 : Int32) (cs : Int32) (h0 : Heap) (n0 : Nat) (Z0 : n0 ≤ h0.size) (pr0 : Exa Z h0 a0 "java/lang/String") (pr1 : Fld Z h0 a0 "java/lang/String" "value" "[B" .null) (pr2 : Fld Z h0 a0 "java/lang/String" "coder" "B" (.int (0 : Int32))) (pr3 : Arv Z h0 a1 ka .char (2 : Int32) [(.int c0), (.int c1)] (.int (0 : Int32))) (pr4 : Sta Z h0 "java/lang/String" "COMPACT_STRINGS" "Z" (.int cs)) (g_a0 : n0 ≤ a0) (ne_a0_a1 : a0 ≠ a1) (hcs : ¬ (cs = (0 : Int32))) (hl0 : ¬ ((255 : Int32) < c0)) (hl1 : ¬ ((255 : Int32) < c1)) :
    MetFree l (⟨"java/lang/String", "<init>", "([C)V"⟩ : MethodName) (head1 (Jvm.Cond.code (⟨"java/lang/String", "<init>", "([C)V"⟩ : MethodName) jdk_42_method_3_code 2 none :: ws) ({ frames := 3, cells := 1, slots := 2, locals := 52 } : Room)) (fun a U => a = #[(.ref a0), (.ref a1)] ∧ Z.Warmed39 U.vm ∧ U.heap = h0) (fun _ _ _ _ _ => True) (fun _ U o U' => ∃ v L, o = .returned v ∧ own_QI2 Z a0 a1 ka c0 c1 cs h0 n0 v U'.heap L ∧ FrameEnd U o U' L ({ frames := 3, cells := 1, slots := 2, locals := 52 } : Room).cells ({ frames := 3, cells := 1, slots := 2, locals := 52 } : Room).slots) := by
  refine MetFree.of_bodySF (plainFor_of_name own_pn60) hisR ?_
  intro p e s m args below meth c s₁ Bd hml0 hP hK
  obtain ⟨rfl, hZ, hh⟩ := hP
  have hx := Bd.exec
  have hby := Bd.bytes
  have hml : c.maxLocals = 2 := hml0
  have hown : s.vm.findClass "java/lang/String" = some m.cls := findClass_of_methodNamed Bd.named
  have hnm := (name_of_methodNamed Bd.named Bd.method).1
  have X0 : Stand p l e ({ frames := 3, cells := 1, slots := 2, locals := 52 } : Room) s m #[(.ref a0), (.ref a1)] below meth c s₁ [] 0 0 := Stand.of_body Bd
  have e0 : s₁.heap = h0 := by rw [← hh, Bd.state]; rfl
  have N0 := Fr.nil n0
  have pre0 : ∀ t, Steps p.tables e below (s₁.setTop (mkF m 0 #[.val (.ref a0), .val (.ref a1)] [])) t → Steps p.tables e below (s₁.setTop (entryFrame m #[(.ref a0), (.ref a1)] 2)) t := fun t k => castTop (own_efI2 m a0 a1) k
  obtain ⟨cl129, Ar129, q129, S129, M129, H129, G129⟩ := id pr3
  obtain ⟨_, _, ⟨T130, L130, k130, n130⟩, -, X130, ⟨Lc130, hQ130, l130, y130, z130⟩, st130⟩ := X0.specialBack hx (y := (⟨"java/lang/String", "<init>", "([CIILjava/lang/Void;)V"⟩ : MethodName)) rfl hown (mvT hZ (hw _ (List.mem_of_getElem? (i := 17) rfl))) (mvT hZ (hw _ (List.mem_of_getElem? (i := 18) rfl))) (mvT hZ (hw _ (List.mem_of_getElem? (i := 20) rfl))) (by decide) (backOf (W := 0) (own_rmI42 l Z av hw [] a0 a1 (0 : Int32) (2 : Int32) (ka) (c0) (c1) (cs) h0 n0 Z0 pr0 pr1 pr2 pr3 pr4 g_a0 ne_a0_a1 (rfl) (rfl) (hcs) (hl0) (hl1)) hZ (hw _ (List.mem_of_getElem? (i := 20) rfl)) (hw _ (List.mem_of_getElem? (i := 13) rfl)) (by decide) (by decide)) (g := (mkF m 6 #[.val (.ref a0), .val (.ref a1)] [.null, (.int (2 : Int32)), (.int (0 : Int32)), (.ref a1), (.ref a0)])) rfl (by rw [hml]; rfl) (Steps.refl _) (a := a0) (argsL := [(.ref a1), (.int (0 : Int32)), (.int (2 : Int32)), .null]) (rest := []) (lenOf own_pd1 rfl) rfl (by show 2 * 0 + _ ≤ _; exact Nat.le_of_eq rfl) (hb hby own_d3_6) (fun _ _ => ⟨rfl, e0, (by decide : 0 + 1 ≤ _), (by decide : 0 + 2 ≤ _)⟩)
  dsimp only [Pt.U, Pt.locs, Pt.cells, Pt.slots] at X130 l130 y130 z130 st130 hQ130
  subst l130 y130 z130
  obtain ⟨rfl, N130q, K130, f132⟩ := hQ130
  have f133 := pr3.keep K130 (ninS (Ne.symm ne_a0_a1) nin0)
  have f134 := own_staKeep pr4 K130 (allS (own_nsE pr0) all0)
  have K135 : Keep h0 T130.heap [a0] := (Keep.refl h0 [a0]).trans K130 (allS (Or.inl (List.mem_of_getElem? (i := 0) rfl)) all0)
  have z136 : n0 ≤ T130.heap.size := Nat.le_trans Z0 K130.1
  have N131 := Fr.app N0 N130q
  obtain ⟨fs, hr, hrun, hended, hW, hsame⟩ := X130.leave (v := none) (fun _ => rfl)
  refine ⟨_, _, pre0 _ ?_, hrun, hended, _, _, rfl, ?_, ⟨_, rfl⟩, hW, hsame.mono (by decide) (by decide)⟩
  · show Steps p.tables e below (s₁.setTop (mkF m 0 #[.val (.ref a0), .val (.ref a1)] [])) _
    refine XS.aloadN X0.here hx rfl (hb hby own_d3_0) rfl rfl ?_
    show Steps p.tables e below (s₁.setTop (mkF m 1 #[.val (.ref a0), .val (.ref a1)] [(.ref a0)])) _
    refine XS.aloadN X0.here hx rfl (hb hby own_d3_1) rfl rfl ?_
    show Steps p.tables e below (s₁.setTop (mkF m 2 #[.val (.ref a0), .val (.ref a1)] [(.ref a1), (.ref a0)])) _
    refine XS.iconst X0.here hx rfl (hb hby own_d3_2) ?_
    show Steps p.tables e below (s₁.setTop (mkF m 3 #[.val (.ref a0), .val (.ref a1)] [(.int (0 : Int32)), (.ref a1), (.ref a0)])) _
    refine XS.aloadN X0.here hx rfl (hb hby own_d3_3) rfl rfl ?_
    show Steps p.tables e below (s₁.setTop (mkF m 4 #[.val (.ref a0), .val (.ref a1)] [(.ref a1), (.int (0 : Int32)), (.ref a1), (.ref a0)])) _
    refine X0.arraylength hx (by rw [e0]; exact Ar129.1) (State.isArrayOf_alike hZ.alike Ar129.2.1) (g := (mkF m 4 #[.val (.ref a0), .val (.ref a1)] [(.ref a1), (.int (0 : Int32)), (.ref a1), (.ref a0)])) rfl rfl (hb hby own_d3_4) _ ?_
    rw [len_of S129 M129]
    show Steps p.tables e below (s₁.setTop (mkF m 5 #[.val (.ref a0), .val (.ref a1)] [(.int (2 : Int32)), (.int (0 : Int32)), (.ref a1), (.ref a0)])) _
    refine XS.aconstNull X0.here hx rfl (hb hby own_d3_5) ?_
    show Steps p.tables e below (s₁.setTop (mkF m 6 #[.val (.ref a0), .val (.ref a1)] [.null, (.int (2 : Int32)), (.int (0 : Int32)), (.ref a1), (.ref a0)])) _
    refine st130.trans ?_
    show Steps p.tables e below (T130.setTop (mkF m 9 #[.val (.ref a0), .val (.ref a1)] [])) _
    exact X130.returnOut hx Bd.returns (hb hby own_d3_9) hr
  · show own_QI2 Z a0 a1 ka c0 c1 cs h0 n0 _ T130.heap _
    exact ⟨rfl, N131, K135, f132⟩
theorem own_d14_0 : decode jdk_43_method_3_code 0 = .ok (.iload_n 0, 1) := by decide +kernel
theorem own_d14_1 : decode jdk_43_method_3_code 1 = .ok (.sipush 255, 3) := by decide +kernel
theorem own_d14_4 : decode jdk_43_method_3_code 4 = .ok (.if_icmp .gt 7, 3) := by decide +kernel
theorem own_d14_7 : decode jdk_43_method_3_code 7 = .ok (.iconst 1, 1) := by decide +kernel
theorem own_d14_8 : decode jdk_43_method_3_code 8 = .ok (.goto 4, 3) := by decide +kernel
theorem own_d14_12 : decode jdk_43_method_3_code 12 = .ok (.ireturn, 1) := by decide +kernel
theorem own_pn91 : plainName "java/lang/StringLatin1" = true := by first | (simp [plainName, overriddenIn]; done) | decide +kernel
theorem own_ef14 (m : MethodId) (p0 : Int32) : entryFrame m #[(.int p0)] 1 = mkF m 0 #[.val (.int p0)] [] := by first | (simp [entryFrame, mkF, argsToLocals, Value.category]; done) | rfl
def own_Q14 (Z : State) (p0 : Int32) (h0 : Heap) (n0 : Nat) (v : Option Value) (h : Heap) (L : List Loc) : Prop := v = some (.int (1 : Int32)) ∧ Fr n0 L ∧ h = h0
set_option maxRecDepth 65536 in
set_option maxHeartbeats 40000000 in
theorem own_rm14 (l : Launch) (Z : State) (av : Array Value) (hw : ∀ d ∈ tables_1, d.before av Z = true) (ws : List Jvm.Cond) (p0 : Int32) (h0 : Heap) (n0 : Nat) (Z0 : n0 ≤ h0.size) (hl : ¬ ((255 : Int32) < p0)) :
    MetFree l (⟨"java/lang/StringLatin1", "canEncode", "(C)Z"⟩ : MethodName) (head1 (Jvm.Cond.code (⟨"java/lang/StringLatin1", "canEncode", "(C)Z"⟩ : MethodName) jdk_43_method_3_code 1 (some .boolean) :: ws) ({ frames := 0, cells := 0, slots := 0, locals := 0 } : Room)) (fun a U => a = #[(.int p0)] ∧ Z.Warmed39 U.vm ∧ U.heap = h0) (fun _ _ _ _ _ => True) (fun _ U o U' => ∃ v L, o = .returned v ∧ own_Q14 Z p0 h0 n0 v U'.heap L ∧ FrameEnd U o U' L ({ frames := 0, cells := 0, slots := 0, locals := 0 } : Room).cells ({ frames := 0, cells := 0, slots := 0, locals := 0 } : Room).slots) := by
  refine MetFree.of_bodySF (plainFor_of_name own_pn91) hisR ?_
  intro p e s m args below meth c s₁ Bd hml0 hP hK
  obtain ⟨rfl, hZ, hh⟩ := hP
  have hx := Bd.exec
  have hby := Bd.bytes
  have hml : c.maxLocals = 1 := hml0
  have hown : s.vm.findClass "java/lang/StringLatin1" = some m.cls := findClass_of_methodNamed Bd.named
  have hnm := (name_of_methodNamed Bd.named Bd.method).1
  have X0 : Stand p l e ({ frames := 0, cells := 0, slots := 0, locals := 0 } : Room) s m #[(.int p0)] below meth c s₁ [] 0 0 := Stand.of_body Bd
  have e0 : s₁.heap = h0 := by rw [← hh, Bd.state]; rfl
  have N0 := Fr.nil n0
  have pre0 : ∀ t, Steps p.tables e below (s₁.setTop (mkF m 0 #[.val (.int p0)] [])) t → Steps p.tables e below (s₁.setTop (entryFrame m #[(.int p0)] 1)) t := fun t k => castTop (own_ef14 m p0) k
  obtain ⟨fs, hr, hrun, hended, hW, hsame⟩ := X0.leave (v := some (.int (1 : Int32))) (fun h => by rw [Bd.returns] at h; cases h)
  refine ⟨_, _, pre0 _ ?_, hrun, hended, _, _, rfl, ?_, ⟨_, rfl⟩, hW, hsame.mono (by decide) (by decide)⟩
  · show Steps p.tables e below (s₁.setTop (mkF m 0 #[.val (.int p0)] [])) _
    refine XS.iloadN X0.here hx rfl (hb hby own_d14_0) rfl ?_
    show Steps p.tables e below (s₁.setTop (mkF m 1 #[.val (.int p0)] [(.int p0)])) _
    refine XS.sipush X0.here hx rfl (hb hby own_d14_1) ?_
    show Steps p.tables e below (s₁.setTop (mkF m 4 #[.val (.int p0)] [(.int (255 : Int32)), (.int p0)])) _
    refine XS.icmpNo X0.here hx rfl (hb hby own_d14_4) rfl (flt (hl : ¬ ((255 : Int32) < p0))).2.2.1 ?_
    show Steps p.tables e below (s₁.setTop (mkF m 7 #[.val (.int p0)] [])) _
    refine XS.iconst X0.here hx rfl (hb hby own_d14_7) ?_
    show Steps p.tables e below (s₁.setTop (mkF m 8 #[.val (.int p0)] [(.int (1 : Int32))])) _
    refine XS.goto X0.here hx rfl (pc0 := 8) (pc' := 12) rfl (hb hby own_d14_8) (by decide) (by decide) ?_
    show Steps p.tables e below (s₁.setTop (mkF m 12 #[.val (.int p0)] [(.int (1 : Int32))])) _
    exact retN X0 hx (t := .boolean) Bd.returns (by simp) (hb hby own_d14_12) hr
  · show own_Q14 Z p0 h0 n0 _ s₁.heap _
    rw [e0]
    exact ⟨rfl, N0, rfl⟩
theorem own_d15_0 : decode jdk_43_method_46_code 0 = .ok (.iconst 1, 1) := by decide +kernel
theorem own_d15_1 : decode jdk_43_method_46_code 1 = .ok (.newarray .byte, 2) := by decide +kernel
theorem own_d15_3 : decode jdk_43_method_46_code 3 = .ok (.dup, 1) := by decide +kernel
theorem own_d15_4 : decode jdk_43_method_46_code 4 = .ok (.iconst 0, 1) := by decide +kernel
theorem own_d15_5 : decode jdk_43_method_46_code 5 = .ok (.iload_n 0, 1) := by decide +kernel
theorem own_d15_6 : decode jdk_43_method_46_code 6 = .ok (.i2b, 1) := by decide +kernel
theorem own_d15_7 : decode jdk_43_method_46_code 7 = .ok (.bastore, 1) := by decide +kernel
theorem own_d15_8 : decode jdk_43_method_46_code 8 = .ok (.areturn, 1) := by decide +kernel
theorem own_ef15 (m : MethodId) (p0 : Int32) : entryFrame m #[(.int p0)] 1 = mkF m 0 #[.val (.int p0)] [] := by first | (simp [entryFrame, mkF, argsToLocals, Value.category]; done) | rfl
def own_Q15 (Z : State) (p0 : Int32) (h0 : Heap) (n0 : Nat) (v : Option Value) (h : Heap) (L : List Loc) : Prop := ∃ b : Addr, ∃ kb : ClassId, ∃ vs : List Value, v = some (.ref b) ∧ Fr n0 L ∧ Keep h0 h [] ∧ n0 ≤ b ∧ h0.size ≤ b ∧ (Arv Z h b kb .byte (1 : Int32) vs (.int (0 : Int32)))
set_option maxRecDepth 65536 in
set_option maxHeartbeats 40000000 in
theorem own_rm15 (l : Launch) (Z : State) (av : Array Value) (hw : ∀ d ∈ tables_1, d.before av Z = true) (ws : List Jvm.Cond) (p0 : Int32) (h0 : Heap) (n0 : Nat) (Z0 : n0 ≤ h0.size) :
    MetFree l (⟨"java/lang/StringLatin1", "toBytes", "(C)[B"⟩ : MethodName) (head1 (Jvm.Cond.code (⟨"java/lang/StringLatin1", "toBytes", "(C)[B"⟩ : MethodName) jdk_43_method_46_code 1 (some (.array .byte)) :: ws) ({ frames := 0, cells := 1, slots := 1, locals := 0 } : Room)) (fun a U => a = #[(.int p0)] ∧ Z.Warmed39 U.vm ∧ U.heap = h0) (fun _ _ _ _ _ => True) (fun _ U o U' => ∃ v L, o = .returned v ∧ own_Q15 Z p0 h0 n0 v U'.heap L ∧ FrameEnd U o U' L ({ frames := 0, cells := 1, slots := 1, locals := 0 } : Room).cells ({ frames := 0, cells := 1, slots := 1, locals := 0 } : Room).slots) := by
  refine MetFree.of_bodySF (plainFor_of_name own_pn91) hisR ?_
  intro p e s m args below meth c s₁ Bd hml0 hP hK
  obtain ⟨rfl, hZ, hh⟩ := hP
  have hx := Bd.exec
  have hby := Bd.bytes
  have hml : c.maxLocals = 1 := hml0
  have hown : s.vm.findClass "java/lang/StringLatin1" = some m.cls := findClass_of_methodNamed Bd.named
  have hnm := (name_of_methodNamed Bd.named Bd.method).1
  have X0 : Stand p l e ({ frames := 0, cells := 1, slots := 1, locals := 0 } : Room) s m #[(.int p0)] below meth c s₁ [] 0 0 := Stand.of_body Bd
  have e0 : s₁.heap = h0 := by rw [← hh, Bd.state]; rfl
  have N0 := Fr.nil n0
  have pre0 : ∀ t, Steps p.tables e below (s₁.setTop (mkF m 0 #[.val (.int p0)] [])) t → Steps p.tables e below (s₁.setTop (entryFrame m #[(.int p0)] 1)) t := fun t k => castTop (own_ef15 m p0) k
  obtain ⟨T137, h137, k137, X137, e137, E137, A137, st137⟩ := newP X0 hx hZ (hw _ (List.mem_of_getElem? (i := 29) rfl)) e0 (g := (mkF m 1 #[.val (.int p0)] [(.int (1 : Int32))])) rfl (hb hby own_d15_1) rfl (by decide) (cap := 1) (by decide) (by decide) (by decide) (by decide)
  obtain ⟨b137, g137⟩ : ∃ z, z = h0.size := ⟨_, rfl⟩
  have g_b137 : n0 ≤ b137 := Nat.le_trans Z0 (Nat.le_of_eq g137.symm)
  have sz_b137 : h0.size ≤ b137 := Nat.le_trans (Keep.refl h0 []).1 (Nat.le_of_eq g137.symm)
  rw [← g137] at A137 st137
  have z138 : n0 ≤ h137.size := Nat.le_trans Z0 E137.1
  have K139 : Keep h0 h137 [] := (Keep.refl h0 []).ext E137
  have f140 : Arv Z h137 b137 k137 .byte (1 : Int32) [(.int (0 : Int32))] (.int (0 : Int32)) := (Arv.new A137 (by decide)).pad (pad_rep [] (.int (0 : Int32)) 1)
  obtain ⟨cl141, Ar141, q141, S141, M141, H141, G141⟩ := id f140
  have hin141 : ¬ ((0 : Int32) < 0 ∨ cl141.slots.size ≤ ((0 : Int32)).toNatClampNeg) := inb_of S141 ⟨by decide, by decide⟩
  obtain ⟨T142, h142, X142, e142, W142, st142⟩ := stB X137 hx hZ e137 Ar141 (j := (0 : Int32)) hin141 (g := (mkF m 7 #[.val (.int p0)] [(.int (p0.toInt8.toInt32)), (.int (0 : Int32)), (.ref b137), (.ref b137)])) rfl rfl (hb hby own_d15_7)
  have K143 : Keep h0 h142 [] := K139.wr W142 (Or.inr sz_b137)
  have z144 : n0 ≤ h142.size := Nat.le_trans z138 (Keep.of_wr W142).1
  have N145 := Fr.snoc X142 N0 g_b137
  have f146 : Arv Z h142 b137 k137 .byte (1 : Int32) [(.int (nar .byte (p0.toInt8.toInt32)))] (.int (0 : Int32)) := Arv.set Ar141 q141 S141 M141 H141 G141 (fits_nar_byte _) W142 0 rfl (Nat.le_of_ble_eq_true rfl)
  obtain ⟨fs, hr, hrun, hended, hW, hsame⟩ := X142.leave (v := some (.ref b137)) (fun h => by rw [Bd.returns] at h; cases h)
  refine ⟨_, _, pre0 _ ?_, hrun, hended, _, _, rfl, ?_, ⟨_, rfl⟩, hW, hsame.mono (by decide) (by decide)⟩
  · show Steps p.tables e below (s₁.setTop (mkF m 0 #[.val (.int p0)] [])) _
    refine XS.iconst X0.here hx rfl (hb hby own_d15_0) ?_
    show Steps p.tables e below (s₁.setTop (mkF m 1 #[.val (.int p0)] [(.int (1 : Int32))])) _
    refine st137 _ ?_
    show Steps p.tables e below (T137.setTop (mkF m 3 #[.val (.int p0)] [(.ref b137)])) _
    refine XS.dup X137.here hx rfl (hb hby own_d15_3) rfl rfl ?_
    show Steps p.tables e below (T137.setTop (mkF m 4 #[.val (.int p0)] [(.ref b137), (.ref b137)])) _
    refine XS.iconst X137.here hx rfl (hb hby own_d15_4) ?_
    show Steps p.tables e below (T137.setTop (mkF m 5 #[.val (.int p0)] [(.int (0 : Int32)), (.ref b137), (.ref b137)])) _
    refine XS.iloadN X137.here hx rfl (hb hby own_d15_5) rfl ?_
    show Steps p.tables e below (T137.setTop (mkF m 6 #[.val (.int p0)] [(.int p0), (.int (0 : Int32)), (.ref b137), (.ref b137)])) _
    refine XS.i2b X137.here hx rfl (hb hby own_d15_6) rfl ?_
    show Steps p.tables e below (T137.setTop (mkF m 7 #[.val (.int p0)] [(.int (p0.toInt8.toInt32)), (.int (0 : Int32)), (.ref b137), (.ref b137)])) _
    refine st142 _ ?_
    show Steps p.tables e below (T142.setTop (mkF m 8 #[.val (.int p0)] [(.ref b137)])) _
    exact retOut X142 hx (t := (.array .byte)) (i := .areturn) Bd.returns rfl (Or.inr (Or.inr (Or.inr (Or.inr ⟨rfl, rfl, rfl⟩)))) (hb hby own_d15_8) hr
  · show own_Q15 Z p0 h0 n0 _ T142.heap _
    rw [e142]
    exact ⟨b137, k137, [(.int (nar .byte (p0.toInt8.toInt32)))], rfl, N145, K143, g_b137, sz_b137, f146⟩
theorem own_d16_0 : decode jdk_42_method_151_code 0 = .ok (.aload_n 0, 1) := by decide +kernel
theorem own_d16_1 : decode jdk_42_method_151_code 1 = .ok (.invokespecial 1, 3) := by decide +kernel
theorem own_d16_4 : decode jdk_42_method_151_code 4 = .ok (.aload_n 0, 1) := by decide +kernel
theorem own_d16_5 : decode jdk_42_method_151_code 5 = .ok (.aload_n 1, 1) := by decide +kernel
theorem own_d16_6 : decode jdk_42_method_151_code 6 = .ok (.putfield 9, 3) := by decide +kernel
theorem own_d16_9 : decode jdk_42_method_151_code 9 = .ok (.aload_n 0, 1) := by decide +kernel
theorem own_d16_10 : decode jdk_42_method_151_code 10 = .ok (.iload_n 2, 1) := by decide +kernel
theorem own_d16_11 : decode jdk_42_method_151_code 11 = .ok (.putfield 15, 3) := by decide +kernel
theorem own_d16_14 : decode jdk_42_method_151_code 14 = .ok (.return_, 1) := by decide +kernel
theorem own_ef16 (m : MethodId) (a0 : Addr) (a1 : Addr) (p2 : Int32) : entryFrame m #[(.ref a0), (.ref a1), (.int p2)] 3 = mkF m 0 #[.val (.ref a0), .val (.ref a1), .val (.int p2)] [] := by first | (simp [entryFrame, mkF, argsToLocals, Value.category]; done) | rfl
def own_Q16 (Z : State) (a0 : Addr) (a1 : Addr) (p2 : Int32) (h0 : Heap) (n0 : Nat) (v : Option Value) (h : Heap) (L : List Loc) : Prop := v = none ∧ Fr n0 L ∧ Keep h0 h [a0] ∧ (Exa Z h a0 "java/lang/String")
set_option maxRecDepth 65536 in
set_option maxHeartbeats 40000000 in
theorem own_rm16 (l : Launch) (Z : State) (av : Array Value) (hw : ∀ d ∈ tables_1, d.before av Z = true) (ws : List Jvm.Cond) (a0 : Addr) (a1 : Addr) (p2 : Int32) (h0 : Heap) (n0 : Nat) (Z0 : n0 ≤ h0.size) (pr0 : Exa Z h0 a0 "java/lang/String") (pr1 : Fld Z h0 a0 "java/lang/String" "value" "[B" .null) (pr2 : Fld Z h0 a0 "java/lang/String" "coder" "B" (.int (0 : Int32))) (g_a0 : n0 ≤ a0) :
    MetFree l (⟨"java/lang/String", "<init>", "([BB)V"⟩ : MethodName) (head1 (Jvm.Cond.code (⟨"java/lang/String", "<init>", "([BB)V"⟩ : MethodName) jdk_42_method_151_code 3 none :: ws) ({ frames := 1, cells := 0, slots := 0, locals := 12 } : Room)) (fun a U => a = #[(.ref a0), (.ref a1), (.int p2)] ∧ Z.Warmed39 U.vm ∧ U.heap = h0) (fun _ _ _ _ _ => True) (fun _ U o U' => ∃ v L, o = .returned v ∧ own_Q16 Z a0 a1 p2 h0 n0 v U'.heap L ∧ FrameEnd U o U' L ({ frames := 1, cells := 0, slots := 0, locals := 12 } : Room).cells ({ frames := 1, cells := 0, slots := 0, locals := 12 } : Room).slots) := by
  refine MetFree.of_bodySF (plainFor_of_name own_pn60) hisR ?_
  intro p e s m args below meth c s₁ Bd hml0 hP hK
  obtain ⟨rfl, hZ, hh⟩ := hP
  have hx := Bd.exec
  have hby := Bd.bytes
  have hml : c.maxLocals = 3 := hml0
  have hown : s.vm.findClass "java/lang/String" = some m.cls := findClass_of_methodNamed Bd.named
  have hnm := (name_of_methodNamed Bd.named Bd.method).1
  have X0 : Stand p l e ({ frames := 1, cells := 0, slots := 0, locals := 12 } : Room) s m #[(.ref a0), (.ref a1), (.int p2)] below meth c s₁ [] 0 0 := Stand.of_body Bd
  have e0 : s₁.heap = h0 := by rw [← hh, Bd.state]; rfl
  have N0 := Fr.nil n0
  have pre0 : ∀ t, Steps p.tables e below (s₁.setTop (mkF m 0 #[.val (.ref a0), .val (.ref a1), .val (.int p2)] [])) t → Steps p.tables e below (s₁.setTop (entryFrame m #[(.ref a0), (.ref a1), (.int p2)] 3)) t := fun t k => castTop (own_ef16 m a0 a1 p2) k
  obtain ⟨T147, X147, e147, st147⟩ := initO X0 hx hZ hown (hw _ (List.mem_of_getElem? (i := 21) rfl)) (hw _ (List.mem_of_getElem? (i := 22) rfl)) (hw _ (List.mem_of_getElem? (i := 23) rfl)) e0 (g := (mkF m 1 #[.val (.ref a0), .val (.ref a1), .val (.int p2)] [(.ref a0)])) rfl (by rw [hml]; rfl) rfl (hb hby own_d16_1) (by decide) (W := 0) (by show 2 * 0 + _ ≤ _; exact Nat.le_of_eq rfl) (by decide)
  obtain ⟨T148, h148, X148, e148, W148, st148⟩ := putF X147 hx hZ hown (host := "") (Or.inl (hw _ (List.mem_of_getElem? (i := 38) rfl))) Via.refl e147 pr1 pr0 (Or.inr ⟨(hw _ (List.mem_of_getElem? (i := 39) rfl)), rfl, hnm⟩) (hw _ (List.mem_of_getElem? (i := 12) rfl)) (ty := (.array .byte)) (by decide) rfl rfl (g := (mkF m 6 #[.val (.ref a0), .val (.ref a1), .val (.int p2)] [(.ref a1), (.ref a0)])) rfl rfl (hb hby own_d16_6)
  have f149 := pr0.wr W148
  have f150 := pr2.other W148 (Or.inr (slot_ne (Or.inr (hw _ (List.mem_of_getElem? (i := 37) rfl))) (Or.inr (hw _ (List.mem_of_getElem? (i := 39) rfl))) (by decide) (t := .byte) (t' := (.array .byte)) (by decide) (by decide)))
  have K151 : Keep h0 h148 [a0] := (Keep.refl h0 [a0]).wr W148 (Or.inl (List.mem_of_getElem? (i := 0) rfl))
  have z152 : n0 ≤ h148.size := Nat.le_trans Z0 (Keep.of_wr W148).1
  have N153 := Fr.snoc X148 N0 g_a0
  have f154 : Fld Z h148 a0 "java/lang/String" "value" "[B" (.ref a1) := pr1.same W148
  obtain ⟨T155, h155, X155, e155, W155, st155⟩ := putFN X148 hx hZ hown (hw _ (List.mem_of_getElem? (i := 36) rfl)) Via.refl e148 f150 f149 (Or.inr ⟨(hw _ (List.mem_of_getElem? (i := 37) rfl)), rfl, hnm⟩) (hw _ (List.mem_of_getElem? (i := 12) rfl)) (ty := .byte) (v' := (.int (nar .byte p2))) (by decide) rfl (fits_nar_byte _) (g := (mkF m 11 #[.val (.ref a0), .val (.ref a1), .val (.int p2)] [(.int p2), (.ref a0)])) rfl rfl (hb hby own_d16_11)
  have f156 := f149.wr W155
  have f157 := f154.other W155 (Or.inr (slot_ne (Or.inr (hw _ (List.mem_of_getElem? (i := 39) rfl))) (Or.inr (hw _ (List.mem_of_getElem? (i := 37) rfl))) (by decide) (t := (.array .byte)) (t' := .byte) (by decide) (by decide)))
  have K158 : Keep h0 h155 [a0] := K151.wr W155 (Or.inl (List.mem_of_getElem? (i := 0) rfl))
  have z159 : n0 ≤ h155.size := Nat.le_trans z152 (Keep.of_wr W155).1
  have N160 := Fr.snoc X155 N153 g_a0
  have f161 : Fld Z h155 a0 "java/lang/String" "coder" "B" (.int (nar .byte p2)) := f150.same W155
  obtain ⟨fs, hr, hrun, hended, hW, hsame⟩ := X155.leave (v := none) (fun _ => rfl)
  refine ⟨_, _, pre0 _ ?_, hrun, hended, _, _, rfl, ?_, ⟨_, rfl⟩, hW, hsame.mono (by decide) (by decide)⟩
  · show Steps p.tables e below (s₁.setTop (mkF m 0 #[.val (.ref a0), .val (.ref a1), .val (.int p2)] [])) _
    refine XS.aloadN X0.here hx rfl (hb hby own_d16_0) rfl rfl ?_
    show Steps p.tables e below (s₁.setTop (mkF m 1 #[.val (.ref a0), .val (.ref a1), .val (.int p2)] [(.ref a0)])) _
    refine st147 _ ?_
    show Steps p.tables e below (T147.setTop (mkF m 4 #[.val (.ref a0), .val (.ref a1), .val (.int p2)] [])) _
    refine XS.aloadN X147.here hx rfl (hb hby own_d16_4) rfl rfl ?_
    show Steps p.tables e below (T147.setTop (mkF m 5 #[.val (.ref a0), .val (.ref a1), .val (.int p2)] [(.ref a0)])) _
    refine XS.aloadN X147.here hx rfl (hb hby own_d16_5) rfl rfl ?_
    show Steps p.tables e below (T147.setTop (mkF m 6 #[.val (.ref a0), .val (.ref a1), .val (.int p2)] [(.ref a1), (.ref a0)])) _
    refine st148 _ ?_
    show Steps p.tables e below (T148.setTop (mkF m 9 #[.val (.ref a0), .val (.ref a1), .val (.int p2)] [])) _
    refine XS.aloadN X148.here hx rfl (hb hby own_d16_9) rfl rfl ?_
    show Steps p.tables e below (T148.setTop (mkF m 10 #[.val (.ref a0), .val (.ref a1), .val (.int p2)] [(.ref a0)])) _
    refine XS.iloadN X148.here hx rfl (hb hby own_d16_10) rfl ?_
    show Steps p.tables e below (T148.setTop (mkF m 11 #[.val (.ref a0), .val (.ref a1), .val (.int p2)] [(.int p2), (.ref a0)])) _
    refine st155 _ ?_
    show Steps p.tables e below (T155.setTop (mkF m 14 #[.val (.ref a0), .val (.ref a1), .val (.int p2)] [])) _
    exact X155.returnOut hx Bd.returns (hb hby own_d16_14) hr
  · show own_Q16 Z a0 a1 p2 h0 n0 _ T155.heap _
    rw [e155]
    exact ⟨rfl, N160, K158, f156⟩
theorem own_d13_0 : decode jdk_42_method_139_code 0 = .ok (.getstatic 38, 3) := by decide +kernel
theorem own_d13_3 : decode jdk_42_method_139_code 3 = .ok (.ifCond .eq 23, 3) := by decide +kernel
theorem own_d13_6 : decode jdk_42_method_139_code 6 = .ok (.iload_n 0, 1) := by decide +kernel
theorem own_pd4 : parseMethodDescriptor "(C)Z" = some ⟨[.char], some .boolean⟩ := by decide +kernel
theorem own_d13_7 : decode jdk_42_method_139_code 7 = .ok (.invokestatic 1015, 3) := by decide +kernel
theorem own_d13_10 : decode jdk_42_method_139_code 10 = .ok (.ifCond .eq 16, 3) := by decide +kernel
theorem own_d13_13 : decode jdk_42_method_139_code 13 = .ok (.new 10, 3) := by decide +kernel
theorem own_d13_16 : decode jdk_42_method_139_code 16 = .ok (.dup, 1) := by decide +kernel
theorem own_d13_17 : decode jdk_42_method_139_code 17 = .ok (.iload_n 0, 1) := by decide +kernel
theorem own_pd5 : parseMethodDescriptor "(C)[B" = some ⟨[.char], some (.array .byte)⟩ := by decide +kernel
theorem own_d13_18 : decode jdk_42_method_139_code 18 = .ok (.invokestatic 1018, 3) := by decide +kernel
theorem own_d13_21 : decode jdk_42_method_139_code 21 = .ok (.iconst 0, 1) := by decide +kernel
theorem own_pd6 : parseMethodDescriptor "([BB)V" = some ⟨[(.array .byte), .byte], none⟩ := by decide +kernel
theorem own_d13_22 : decode jdk_42_method_139_code 22 = .ok (.invokespecial 209, 3) := by decide +kernel
theorem own_d13_25 : decode jdk_42_method_139_code 25 = .ok (.areturn, 1) := by decide +kernel
theorem own_ef13 (m : MethodId) (p0 : Int32) : entryFrame m #[(.int p0)] 1 = mkF m 0 #[.val (.int p0)] [] := by first | (simp [entryFrame, mkF, argsToLocals, Value.category]; done) | rfl
def own_Q13 (Z : State) (p0 : Int32) (cs : Int32) (h0 : Heap) (n0 : Nat) (v : Option Value) (h : Heap) (L : List Loc) : Prop := ∃ b : Addr, v = some (.ref b) ∧ Fr n0 L ∧ Keep h0 h [] ∧ n0 ≤ b ∧ h0.size ≤ b ∧ (Exa Z h b "java/lang/String")
set_option maxRecDepth 65536 in
set_option maxHeartbeats 40000000 in
theorem own_rm13 (l : Launch) (Z : State) (av : Array Value) (hw : ∀ d ∈ tables_1, d.before av Z = true) (ws : List Jvm.Cond) (p0 : Int32) (cs : Int32) (h0 : Heap) (n0 : Nat) (Z0 : n0 ≤ h0.size) (pr0 : Sta Z h0 "java/lang/String" "COMPACT_STRINGS" "Z" (.int cs)) (hcs : ¬ (cs = (0 : Int32))) (hl : ¬ ((255 : Int32) < p0)) :
    MetFree l (⟨"java/lang/String", "valueOf", "(C)Ljava/lang/String;"⟩ : MethodName) (head1 (Jvm.Cond.code (⟨"java/lang/String", "valueOf", "(C)Ljava/lang/String;"⟩ : MethodName) jdk_42_method_139_code 1 (some (.object "java/lang/String")) :: ws) ({ frames := 2, cells := 2, slots := 5, locals := 27 } : Room)) (fun a U => a = #[(.int p0)] ∧ Z.Warmed39 U.vm ∧ U.heap = h0) (fun _ _ _ _ _ => True) (fun _ U o U' => ∃ v L, o = .returned v ∧ own_Q13 Z p0 cs h0 n0 v U'.heap L ∧ FrameEnd U o U' L ({ frames := 2, cells := 2, slots := 5, locals := 27 } : Room).cells ({ frames := 2, cells := 2, slots := 5, locals := 27 } : Room).slots) := by
  refine MetFree.of_bodySF (plainFor_of_name own_pn60) hisR ?_
  intro p e s m args below meth c s₁ Bd hml0 hP hK
  obtain ⟨rfl, hZ, hh⟩ := hP
  have hx := Bd.exec
  have hby := Bd.bytes
  have hml : c.maxLocals = 1 := hml0
  have hown : s.vm.findClass "java/lang/String" = some m.cls := findClass_of_methodNamed Bd.named
  have hnm := (name_of_methodNamed Bd.named Bd.method).1
  have X0 : Stand p l e ({ frames := 2, cells := 2, slots := 5, locals := 27 } : Room) s m #[(.int p0)] below meth c s₁ [] 0 0 := Stand.of_body Bd
  have e0 : s₁.heap = h0 := by rw [← hh, Bd.state]; rfl
  have N0 := Fr.nil n0
  have pre0 : ∀ t, Steps p.tables e below (s₁.setTop (mkF m 0 #[.val (.int p0)] [])) t → Steps p.tables e below (s₁.setTop (entryFrame m #[(.int p0)] 1)) t := fun t k => castTop (own_ef13 m p0) k
  obtain ⟨T162, X162, e162, st162⟩ := getS2 X0 hx hZ hown (host := "") (Or.inl (hw _ (List.mem_of_getElem? (i := 24) rfl))) Via.refl e0 pr0 (g := (mkF m 0 #[.val (.int p0)] [])) rfl (hb hby own_d13_0)
  obtain ⟨_, _, ⟨T163, L163, k163, n163⟩, -, X163, ⟨Lc163, hQ163, l163, y163, z163⟩, st163⟩ := Jvm.LawKit.callS X162 hx (y := (⟨"java/lang/StringLatin1", "canEncode", "(C)Z"⟩ : MethodName)) hown (mvT hZ (hw _ (List.mem_of_getElem? (i := 71) rfl))) (mvT hZ (hw _ (List.mem_of_getElem? (i := 72) rfl))) (mvT hZ (hw _ (List.mem_of_getElem? (i := 73) rfl))) (mvT hZ (hw _ (List.mem_of_getElem? (i := 74) rfl))) (by decide) (backOf (W := 0) (own_rm14 l Z av hw [] p0 h0 n0 Z0 (hl)) hZ (hw _ (List.mem_of_getElem? (i := 74) rfl)) (hw _ (List.mem_of_getElem? (i := 73) rfl)) (by decide) (by decide)) (g := (mkF m 7 #[.val (.int p0)] [(.int p0)])) rfl (by rw [hml]; rfl) (argsL := [(.int p0)]) (rest := []) (lenOf own_pd4 rfl) rfl (by show 2 * 0 + _ ≤ _; exact Nat.le_of_eq rfl) (hb hby own_d13_7) (fun _ _ => ⟨rfl, e162, (by decide : 0 + 0 ≤ _), (by decide : 0 + 0 ≤ _)⟩)
  dsimp only [Pt.U, Pt.locs, Pt.cells, Pt.slots] at X163 l163 y163 z163 st163 hQ163
  subst l163 y163 z163
  obtain ⟨rfl, N163q, e165⟩ := hQ163
  have N164 := Fr.app N0 N163q
  obtain ⟨T166, h166, X166, e166, E166, A166, D166, -, st166⟩ := newO X163 hx hZ hown (hw _ (List.mem_of_getElem? (i := 75) rfl)) (hw _ (List.mem_of_getElem? (i := 12) rfl)) (hw _ (List.mem_of_getElem? (i := 13) rfl)) e165 (g := (mkF m 13 #[.val (.int p0)] [])) rfl (hb hby own_d13_13) (by decide) (by decide)
  obtain ⟨b166, g166⟩ : ∃ z, z = h0.size := ⟨_, rfl⟩
  have g_b166 : n0 ≤ b166 := Nat.le_trans Z0 (Nat.le_of_eq g166.symm)
  have sz_b166 : h0.size ≤ b166 := Nat.le_trans (Keep.refl h0 []).1 (Nat.le_of_eq g166.symm)
  rw [← g166] at A166 D166 st166
  have f167 := pr0.ext E166
  have z168 : n0 ≤ h166.size := Nat.le_trans Z0 E166.1
  have K169 : Keep h0 h166 [] := (Keep.refl h0 []).ext E166
  have f170 : Fld Z h166 b166 "java/lang/String" "coder" "B" (.int (0 : Int32)) := D166 (Or.inr (hw _ (List.mem_of_getElem? (i := 37) rfl))) (ty := .byte) (by decide)
  have f171 : Fld Z h166 b166 "java/lang/String" "value" "[B" .null := D166 (Or.inr (hw _ (List.mem_of_getElem? (i := 39) rfl))) (ty := (.array .byte)) (by decide)
  obtain ⟨_, _, ⟨T172, L172, k172, n172⟩, -, X172, ⟨Lc172, hQ172, l172, y172, z172⟩, st172⟩ := Jvm.LawKit.callS X166 hx (y := (⟨"java/lang/StringLatin1", "toBytes", "(C)[B"⟩ : MethodName)) hown (mvT hZ (hw _ (List.mem_of_getElem? (i := 76) rfl))) (mvT hZ (hw _ (List.mem_of_getElem? (i := 77) rfl))) (mvT hZ (hw _ (List.mem_of_getElem? (i := 73) rfl))) (mvT hZ (hw _ (List.mem_of_getElem? (i := 78) rfl))) (by decide) (backOf (W := 2) (own_rm15 l Z av hw [] p0 h166 n0 z168 ) hZ (hw _ (List.mem_of_getElem? (i := 78) rfl)) (hw _ (List.mem_of_getElem? (i := 73) rfl)) (by decide) (by decide)) (g := (mkF m 18 #[.val (.int p0)] [(.int p0), (.ref b166), (.ref b166)])) rfl (by rw [hml]; rfl) (argsL := [(.int p0)]) (rest := [(.ref b166), (.ref b166)]) (lenOf own_pd5 rfl) rfl (by show 2 * 0 + _ ≤ _; exact Nat.le_of_eq rfl) (hb hby own_d13_18) (fun _ _ => ⟨rfl, e166, (by decide : 1 + 1 ≤ _), (by decide : 4 + 1 ≤ _)⟩)
  dsimp only [Pt.U, Pt.locs, Pt.cells, Pt.slots] at X172 l172 y172 z172 st172 hQ172
  subst l172 y172 z172
  obtain ⟨b173, kb174, vs175, rfl, N172q, K172, g_b173, sz172_b173, f177⟩ := hQ172
  have ne_b166_b173 : b166 ≠ b173 := Nat.ne_of_lt (Nat.lt_of_lt_of_le A166.lt sz172_b173)
  have sz_b173 : h0.size ≤ b173 := Nat.le_trans K169.1 sz172_b173
  have f178 := own_staKeep f167 K172 all0
  have f179 := A166.keep K172
  have f180 := f170.keep K172 nin0
  have f181 := f171.keep K172 nin0
  have K182 : Keep h0 T172.heap [] := K169.trans K172 all0
  have z183 : n0 ≤ T172.heap.size := Nat.le_trans z168 K172.1
  have N176 := Fr.app N164 N172q
  obtain ⟨_, _, ⟨T184, L184, k184, n184⟩, -, X184, ⟨Lc184, hQ184, l184, y184, z184⟩, st184⟩ := X172.specialBack hx (y := (⟨"java/lang/String", "<init>", "([BB)V"⟩ : MethodName)) rfl hown (mvT hZ (hw _ (List.mem_of_getElem? (i := 79) rfl))) (mvT hZ (hw _ (List.mem_of_getElem? (i := 80) rfl))) (mvT hZ (hw _ (List.mem_of_getElem? (i := 81) rfl))) (by decide) (backOf (W := 1) (own_rm16 l Z av hw [] b166 b173 (0 : Int32) T172.heap n0 z183 f179 f181 f180 g_b166) hZ (hw _ (List.mem_of_getElem? (i := 81) rfl)) (hw _ (List.mem_of_getElem? (i := 13) rfl)) (by decide) (by decide)) (g := (mkF m 22 #[.val (.int p0)] [(.int (0 : Int32)), (.ref b173), (.ref b166), (.ref b166)])) rfl (by rw [hml]; rfl) (Steps.refl _) (a := b166) (argsL := [(.ref b173), (.int (0 : Int32))]) (rest := [(.ref b166)]) (lenOf own_pd6 rfl) rfl (by show 2 * 0 + _ ≤ _; exact Nat.le_of_eq rfl) (hb hby own_d13_22) (fun _ _ => ⟨rfl, rfl, (by decide : 2 + 0 ≤ _), (by decide : 5 + 0 ≤ _)⟩)
  dsimp only [Pt.U, Pt.locs, Pt.cells, Pt.slots] at X184 l184 y184 z184 st184 hQ184
  subst l184 y184 z184
  obtain ⟨rfl, N184q, K184, f186⟩ := hQ184
  have f187 := own_staKeep f178 K184 (allS (own_nsE f179) all0)
  have f188 := f177.keep K184 (ninS (Ne.symm ne_b166_b173) nin0)
  have K189 : Keep h0 T184.heap [] := K182.trans K184 (allS (Or.inr sz_b166) all0)
  have z190 : n0 ≤ T184.heap.size := Nat.le_trans z183 K184.1
  have N185 := Fr.app N176 N184q
  obtain ⟨fs, hr, hrun, hended, hW, hsame⟩ := X184.leave (v := some (.ref b166)) (fun h => by rw [Bd.returns] at h; cases h)
  refine ⟨_, _, pre0 _ ?_, hrun, hended, _, _, rfl, ?_, ⟨_, rfl⟩, hW, hsame.mono (by decide) (by decide)⟩
  · show Steps p.tables e below (s₁.setTop (mkF m 0 #[.val (.int p0)] [])) _
    refine st162 _ ?_
    show Steps p.tables e below (T162.setTop (mkF m 3 #[.val (.int p0)] [(.int cs)])) _
    refine XS.ifNo X162.here hx rfl (hb hby own_d13_3) rfl ((if0 _ _).trans (feq (hcs : ¬ (cs = (0 : Int32)))).1) ?_
    show Steps p.tables e below (T162.setTop (mkF m 6 #[.val (.int p0)] [])) _
    refine XS.iloadN X162.here hx rfl (hb hby own_d13_6) rfl ?_
    show Steps p.tables e below (T162.setTop (mkF m 7 #[.val (.int p0)] [(.int p0)])) _
    refine st163 _ ?_
    show Steps p.tables e below (T163.setTop (mkF m 10 #[.val (.int p0)] [(.int (1 : Int32))])) _
    refine XS.ifNo X163.here hx rfl (hb hby own_d13_10) rfl ((if0 _ _).trans (feq (by decide : ¬ ((1 : Int32) = (0 : Int32)))).1) ?_
    show Steps p.tables e below (T163.setTop (mkF m 13 #[.val (.int p0)] [])) _
    refine st166 _ ?_
    show Steps p.tables e below (T166.setTop (mkF m 16 #[.val (.int p0)] [(.ref b166)])) _
    refine XS.dup X166.here hx rfl (hb hby own_d13_16) rfl rfl ?_
    show Steps p.tables e below (T166.setTop (mkF m 17 #[.val (.int p0)] [(.ref b166), (.ref b166)])) _
    refine XS.iloadN X166.here hx rfl (hb hby own_d13_17) rfl ?_
    show Steps p.tables e below (T166.setTop (mkF m 18 #[.val (.int p0)] [(.int p0), (.ref b166), (.ref b166)])) _
    refine st172 _ ?_
    show Steps p.tables e below (T172.setTop (mkF m 21 #[.val (.int p0)] [(.ref b173), (.ref b166), (.ref b166)])) _
    refine XS.iconst X172.here hx rfl (hb hby own_d13_21) ?_
    show Steps p.tables e below (T172.setTop (mkF m 22 #[.val (.int p0)] [(.int (0 : Int32)), (.ref b173), (.ref b166), (.ref b166)])) _
    refine st184.trans ?_
    show Steps p.tables e below (T184.setTop (mkF m 25 #[.val (.int p0)] [(.ref b166)])) _
    exact retOut X184 hx (t := (.object "java/lang/String")) (i := .areturn) Bd.returns rfl (Or.inr (Or.inr (Or.inr (Or.inr ⟨rfl, rfl, rfl⟩)))) (hb hby own_d13_25) hr
  · show own_Q13 Z p0 cs h0 n0 _ T184.heap _
    exact ⟨b166, rfl, N185, K189, g_b166, sz_b166, f186⟩
theorem own_d2_0 : decode method_4_code 0 = .ok (.iload_n 0, 1) := by decide +kernel
theorem own_d2_1 : decode method_4_code 1 = .ok (.iconst 3, 1) := by decide +kernel
theorem own_d2_2 : decode method_4_code 2 = .ok (.iand, 1) := by decide +kernel
theorem own_d2_3 : decode method_4_code 3 = .ok (.istore_n 2, 1) := by decide +kernel
theorem own_d2_4 : decode method_4_code 4 = .ok (.iload_n 2, 1) := by decide +kernel
theorem own_d2_5 : decode method_4_code 5 = .ok (.ifCond .ne 5, 3) := by decide +kernel
theorem own_d2_8 : decode method_4_code 8 = .ok (.aconst_null, 1) := by decide +kernel
theorem own_d2_9 : decode method_4_code 9 = .ok (.areturn, 1) := by decide +kernel
theorem own_pn129 : plainName "com/example/thyme/thyme/lang/ScopeInstancePinLaw" = true := by first | (simp [plainName, overriddenIn]; done) | decide +kernel
theorem own_efSN (m : MethodId) (p0 : Int32) (p1 : Int32) : entryFrame m #[(.int p0), (.int p1)] 5 = mkF m 0 #[.val (.int p0), .val (.int p1), .unset, .unset, .unset] [] := by first | (simp [entryFrame, mkF, argsToLocals, Value.category]; done) | rfl
def own_QSN (Z : State) (p0 : Int32) (p1 : Int32) (h0 : Heap) (n0 : Nat) (v : Option Value) (h : Heap) (L : List Loc) : Prop := v = some .null ∧ Fr n0 L ∧ h = h0
set_option maxRecDepth 65536 in
set_option maxHeartbeats 40000000 in
theorem own_rmSN (l : Launch) (Z : State) (av : Array Value) (hw : ∀ d ∈ tables_1, d.before av Z = true) (ws : List Jvm.Cond) (p0 : Int32) (p1 : Int32) (h0 : Heap) (n0 : Nat) (Z0 : n0 ≤ h0.size) (hz : (p0 &&& (3 : Int32)) = (0 : Int32)) :
    MetFree l (⟨"com/example/thyme/thyme/lang/ScopeInstancePinLaw", "str", "(II)Ljava/lang/String;"⟩ : MethodName) (head1 (Jvm.Cond.code (⟨"com/example/thyme/thyme/lang/ScopeInstancePinLaw", "str", "(II)Ljava/lang/String;"⟩ : MethodName) method_4_code 5 (some (.object "java/lang/String")) :: ws) ({ frames := 0, cells := 0, slots := 0, locals := 0 } : Room)) (fun a U => a = #[(.int p0), (.int p1)] ∧ Z.Warmed39 U.vm ∧ U.heap = h0) (fun _ _ _ _ _ => True) (fun _ U o U' => ∃ v L, o = .returned v ∧ own_QSN Z p0 p1 h0 n0 v U'.heap L ∧ FrameEnd U o U' L ({ frames := 0, cells := 0, slots := 0, locals := 0 } : Room).cells ({ frames := 0, cells := 0, slots := 0, locals := 0 } : Room).slots) := by
  refine MetFree.of_bodySF (plainFor_of_name own_pn129) hisR ?_
  intro p e s m args below meth c s₁ Bd hml0 hP hK
  obtain ⟨rfl, hZ, hh⟩ := hP
  have hx := Bd.exec
  have hby := Bd.bytes
  have hml : c.maxLocals = 5 := hml0
  have hown : s.vm.findClass "com/example/thyme/thyme/lang/ScopeInstancePinLaw" = some m.cls := findClass_of_methodNamed Bd.named
  have hnm := (name_of_methodNamed Bd.named Bd.method).1
  have X0 : Stand p l e ({ frames := 0, cells := 0, slots := 0, locals := 0 } : Room) s m #[(.int p0), (.int p1)] below meth c s₁ [] 0 0 := Stand.of_body Bd
  have e0 : s₁.heap = h0 := by rw [← hh, Bd.state]; rfl
  have N0 := Fr.nil n0
  have pre0 : ∀ t, Steps p.tables e below (s₁.setTop (mkF m 0 #[.val (.int p0), .val (.int p1), .unset, .unset, .unset] [])) t → Steps p.tables e below (s₁.setTop (entryFrame m #[(.int p0), (.int p1)] 5)) t := fun t k => castTop (own_efSN m p0 p1) k
  obtain ⟨fs, hr, hrun, hended, hW, hsame⟩ := X0.leave (v := some .null) (fun h => by rw [Bd.returns] at h; cases h)
  refine ⟨_, _, pre0 _ ?_, hrun, hended, _, _, rfl, ?_, ⟨_, rfl⟩, hW, hsame.mono (by decide) (by decide)⟩
  · show Steps p.tables e below (s₁.setTop (mkF m 0 #[.val (.int p0), .val (.int p1), .unset, .unset, .unset] [])) _
    refine XS.iloadN X0.here hx rfl (hb hby own_d2_0) rfl ?_
    show Steps p.tables e below (s₁.setTop (mkF m 1 #[.val (.int p0), .val (.int p1), .unset, .unset, .unset] [(.int p0)])) _
    refine XS.iconst X0.here hx rfl (hb hby own_d2_1) ?_
    show Steps p.tables e below (s₁.setTop (mkF m 2 #[.val (.int p0), .val (.int p1), .unset, .unset, .unset] [(.int (3 : Int32)), (.int p0)])) _
    refine XS.iand X0.here hx rfl (hb hby own_d2_2) rfl ?_
    show Steps p.tables e below (s₁.setTop (mkF m 3 #[.val (.int p0), .val (.int p1), .unset, .unset, .unset] [(.int (p0 &&& (3 : Int32)))])) _
    refine XS.istoreN X0.here hx rfl (hb hby own_d2_3) rfl (l' := #[.val (.int p0), .val (.int p1), .val (.int (p0 &&& (3 : Int32))), .unset, .unset]) rfl ?_
    show Steps p.tables e below (s₁.setTop (mkF m 4 #[.val (.int p0), .val (.int p1), .val (.int (p0 &&& (3 : Int32))), .unset, .unset] [])) _
    refine XS.iloadN X0.here hx rfl (hb hby own_d2_4) rfl ?_
    show Steps p.tables e below (s₁.setTop (mkF m 5 #[.val (.int p0), .val (.int p1), .val (.int (p0 &&& (3 : Int32))), .unset, .unset] [(.int (p0 &&& (3 : Int32)))])) _
    refine XS.ifNo X0.here hx rfl (hb hby own_d2_5) rfl ((if0 _ _).trans (teq (hz : (p0 &&& (3 : Int32)) = (0 : Int32))).2) ?_
    show Steps p.tables e below (s₁.setTop (mkF m 8 #[.val (.int p0), .val (.int p1), .val (.int (p0 &&& (3 : Int32))), .unset, .unset] [])) _
    refine XS.aconstNull X0.here hx rfl (hb hby own_d2_8) ?_
    show Steps p.tables e below (s₁.setTop (mkF m 9 #[.val (.int p0), .val (.int p1), .val (.int (p0 &&& (3 : Int32))), .unset, .unset] [.null])) _
    exact retOut X0 hx (t := (.object "java/lang/String")) (i := .areturn) Bd.returns rfl (Or.inr (Or.inr (Or.inr (Or.inr ⟨rfl, rfl, rfl⟩)))) (hb hby own_d2_9) hr
  · show own_QSN Z p0 p1 h0 n0 _ s₁.heap _
    rw [e0]
    exact ⟨rfl, N0, rfl⟩
theorem own_lat1 (y : Int32) : ¬ ((255 : Int32) < ((y &&& (255 : Int32)).toUInt32.toUInt16.toUInt32.toInt32)) := by
  have a := c_mask y (255 : Int32) 8 (by decide) (by decide)
  have b := c_i2c (y &&& (255 : Int32))
  generalize ((y &&& (255 : Int32)).toUInt32.toUInt16.toUInt32.toInt32) = u at *
  generalize (y &&& (255 : Int32)) = w at *
  simp only [Int32.lt_iff_toInt_lt, Int32.reduceToInt]
  omega
theorem own_lat2 (y : Int32) : ¬ ((255 : Int32) < (nar .char ((y &&& (255 : Int32)).toUInt32.toUInt16.toUInt32.toInt32))) := by
  have a := c_mask y (255 : Int32) 8 (by decide) (by decide)
  have b := c_i2c (y &&& (255 : Int32))
  have c := c_i2c ((y &&& (255 : Int32)).toUInt32.toUInt16.toUInt32.toInt32)
  change ¬ ((255 : Int32) < (((y &&& (255 : Int32)).toUInt32.toUInt16.toUInt32.toInt32).toUInt32.toUInt16.toUInt32.toInt32))
  generalize (((y &&& (255 : Int32)).toUInt32.toUInt16.toUInt32.toInt32).toUInt32.toUInt16.toUInt32.toInt32) = v at *
  generalize ((y &&& (255 : Int32)).toUInt32.toUInt16.toUInt32.toInt32) = u at *
  generalize (y &&& (255 : Int32)) = w at *
  simp only [Int32.lt_iff_toInt_lt, Int32.reduceToInt]
  omega
theorem own_d2_10 : decode method_4_code 10 = .ok (.iload_n 2, 1) := by decide +kernel
theorem own_d2_11 : decode method_4_code 11 = .ok (.iconst 1, 1) := by decide +kernel
theorem own_d2_12 : decode method_4_code 12 = .ok (.if_icmp .ne 14, 3) := by decide +kernel
theorem own_d2_15 : decode method_4_code 15 = .ok (.new 37, 3) := by decide +kernel
theorem own_d2_18 : decode method_4_code 18 = .ok (.dup, 1) := by decide +kernel
theorem own_d2_19 : decode method_4_code 19 = .ok (.iconst 0, 1) := by decide +kernel
theorem own_d2_20 : decode method_4_code 20 = .ok (.newarray .char, 2) := by decide +kernel
theorem own_pd7 : parseMethodDescriptor "([C)V" = some ⟨[(.array .char)], none⟩ := by decide +kernel
theorem own_d2_22 : decode method_4_code 22 = .ok (.invokespecial 42, 3) := by decide +kernel
theorem own_d2_25 : decode method_4_code 25 = .ok (.areturn, 1) := by decide +kernel
theorem own_d2_26 : decode method_4_code 26 = .ok (.iload_n 1, 1) := by decide +kernel
theorem own_d2_27 : decode method_4_code 27 = .ok (.sipush 255, 3) := by decide +kernel
theorem own_d2_30 : decode method_4_code 30 = .ok (.iand, 1) := by decide +kernel
theorem own_d2_31 : decode method_4_code 31 = .ok (.i2c, 1) := by decide +kernel
theorem own_d2_32 : decode method_4_code 32 = .ok (.istore_n 3, 1) := by decide +kernel
theorem own_d2_33 : decode method_4_code 33 = .ok (.iload_n 2, 1) := by decide +kernel
theorem own_d2_34 : decode method_4_code 34 = .ok (.iconst 2, 1) := by decide +kernel
theorem own_d2_35 : decode method_4_code 35 = .ok (.if_icmp .ne 8, 3) := by decide +kernel
theorem own_d2_38 : decode method_4_code 38 = .ok (.iload_n 3, 1) := by decide +kernel
theorem own_pd8 : parseMethodDescriptor "(C)Ljava/lang/String;" = some ⟨[.char], some (.object "java/lang/String")⟩ := by decide +kernel
theorem own_d2_39 : decode method_4_code 39 = .ok (.invokestatic 45, 3) := by decide +kernel
theorem own_d2_42 : decode method_4_code 42 = .ok (.areturn, 1) := by decide +kernel
theorem own_d2_43 : decode method_4_code 43 = .ok (.iconst 2, 1) := by decide +kernel
theorem own_d2_44 : decode method_4_code 44 = .ok (.newarray .char, 2) := by decide +kernel
theorem own_d2_46 : decode method_4_code 46 = .ok (.astore 4, 2) := by decide +kernel
theorem own_d2_48 : decode method_4_code 48 = .ok (.aload 4, 2) := by decide +kernel
theorem own_d2_50 : decode method_4_code 50 = .ok (.iconst 0, 1) := by decide +kernel
theorem own_d2_51 : decode method_4_code 51 = .ok (.iload_n 3, 1) := by decide +kernel
theorem own_d2_52 : decode method_4_code 52 = .ok (.castore, 1) := by decide +kernel
theorem own_d2_53 : decode method_4_code 53 = .ok (.aload 4, 2) := by decide +kernel
theorem own_d2_55 : decode method_4_code 55 = .ok (.iconst 1, 1) := by decide +kernel
theorem own_d2_56 : decode method_4_code 56 = .ok (.iload_n 1, 1) := by decide +kernel
theorem own_d2_57 : decode method_4_code 57 = .ok (.bipush 8, 2) := by decide +kernel
theorem own_d2_59 : decode method_4_code 59 = .ok (.iushr, 1) := by decide +kernel
theorem own_d2_60 : decode method_4_code 60 = .ok (.sipush 255, 3) := by decide +kernel
theorem own_d2_63 : decode method_4_code 63 = .ok (.iand, 1) := by decide +kernel
theorem own_d2_64 : decode method_4_code 64 = .ok (.i2c, 1) := by decide +kernel
theorem own_d2_65 : decode method_4_code 65 = .ok (.castore, 1) := by decide +kernel
theorem own_d2_66 : decode method_4_code 66 = .ok (.new 37, 3) := by decide +kernel
theorem own_d2_69 : decode method_4_code 69 = .ok (.dup, 1) := by decide +kernel
theorem own_d2_70 : decode method_4_code 70 = .ok (.aload 4, 2) := by decide +kernel
theorem own_d2_72 : decode method_4_code 72 = .ok (.invokespecial 42, 3) := by decide +kernel
theorem own_d2_75 : decode method_4_code 75 = .ok (.areturn, 1) := by decide +kernel
theorem own_efSS (m : MethodId) (p0 : Int32) (p1 : Int32) : entryFrame m #[(.int p0), (.int p1)] 5 = mkF m 0 #[.val (.int p0), .val (.int p1), .unset, .unset, .unset] [] := by first | (simp [entryFrame, mkF, argsToLocals, Value.category]; done) | rfl
def own_QSS (Z : State) (p0 : Int32) (p1 : Int32) (cs : Int32) (h0 : Heap) (n0 : Nat) (v : Option Value) (h : Heap) (L : List Loc) : Prop := ∃ b : Addr, v = some (.ref b) ∧ Fr n0 L ∧ Keep h0 h [] ∧ n0 ≤ b ∧ h0.size ≤ b ∧ (Exa Z h b "java/lang/String")
set_option maxRecDepth 65536 in
set_option maxHeartbeats 40000000 in
theorem own_rmSS (l : Launch) (Z : State) (av : Array Value) (hw : ∀ d ∈ tables_1, d.before av Z = true) (ws : List Jvm.Cond) (p0 : Int32) (p1 : Int32) (cs : Int32) (h0 : Heap) (n0 : Nat) (Z0 : n0 ≤ h0.size) (pr0 : Sta Z h0 "java/lang/String" "COMPACT_STRINGS" "Z" (.int cs)) (hz : ¬ ((p0 &&& (3 : Int32)) = (0 : Int32))) (hcs : ¬ (cs = (0 : Int32))) :
    MetFree l (⟨"com/example/thyme/thyme/lang/ScopeInstancePinLaw", "str", "(II)Ljava/lang/String;"⟩ : MethodName) (head1 (Jvm.Cond.code (⟨"com/example/thyme/thyme/lang/ScopeInstancePinLaw", "str", "(II)Ljava/lang/String;"⟩ : MethodName) method_4_code 5 (some (.object "java/lang/String")) :: ws) ({ frames := 4, cells := 6, slots := 12, locals := 66 } : Room)) (fun a U => a = #[(.int p0), (.int p1)] ∧ Z.Warmed39 U.vm ∧ U.heap = h0 ∧ CHv Z own_EL U.vm h0 ∧ ∀ x ∈ ([] : List Addr), Safe Z own_EL U.vm h0 x) (fun _ _ _ _ _ => True) (fun _ U o U' => ∃ v L, o = .returned v ∧ own_QSS Z p0 p1 cs h0 n0 v U'.heap L ∧ CHr Z own_EL U.vm U.heap U'.vm U'.heap ∧ ReturnedEndW U o U' L ({ frames := 4, cells := 6, slots := 12, locals := 66 } : Room).cells ({ frames := 4, cells := 6, slots := 12, locals := 66 } : Room).slots) := by
  refine MetFree.of_bodySF (plainFor_of_name own_pn129) hisR ?_
  intro p e s m args below meth c s₁ Bd hml0 hP hK
  obtain ⟨rfl, hZ, hh, hCH, hSf⟩ := hP
  have hx := Bd.exec
  have hby := Bd.bytes
  have hml : c.maxLocals = 5 := hml0
  have hown : s.vm.findClass "com/example/thyme/thyme/lang/ScopeInstancePinLaw" = some m.cls := findClass_of_methodNamed Bd.named
  have hnm := (name_of_methodNamed Bd.named Bd.method).1
  have X0 : Stand p l e ({ frames := 4, cells := 6, slots := 12, locals := 66 } : Room) s m #[(.int p0), (.int p1)] below meth c s₁ [] 0 0 := Stand.of_body Bd
  have e0 : s₁.heap = h0 := by rw [← hh, Bd.state]; rfl
  have N0 := Fr.nil n0
  have hS0 : s.Since s.vm s.heap.size := (State.WarmedH.refl s).since _
  have hk0 : s.heap.size ≤ h0.size := Nat.le_of_eq (congrArg Array.size hh)
  have wS := own_wS hw
  have hEL := own_hEL hw
  have CH0 : CHr Z own_EL s.vm h0 s.vm h0 := CHr.refl hCH
  have pre0 : ∀ t, Steps p.tables e below (s₁.setTop (mkF m 0 #[.val (.int p0), .val (.int p1), .unset, .unset, .unset] [])) t → Steps p.tables e below (s₁.setTop (entryFrame m #[(.int p0), (.int p1)] 5)) t := fun t k => castTop (own_efSS m p0 p1) k
  have pre191 : ∀ t, Steps p.tables e below (s₁.setTop (mkF m 12 #[.val (.int p0), .val (.int p1), .val (.int (p0 &&& (3 : Int32))), .unset, .unset] [(.int (1 : Int32)), (.int (p0 &&& (3 : Int32)))])) t → Steps p.tables e below (s₁.setTop (entryFrame m #[(.int p0), (.int p1)] 5)) t := fun t kk => pre0 t (by
    show Steps p.tables e below (s₁.setTop (mkF m 0 #[.val (.int p0), .val (.int p1), .unset, .unset, .unset] [])) _
    refine XS.iloadN X0.here hx rfl (hb hby own_d2_0) rfl ?_
    show Steps p.tables e below (s₁.setTop (mkF m 1 #[.val (.int p0), .val (.int p1), .unset, .unset, .unset] [(.int p0)])) _
    refine XS.iconst X0.here hx rfl (hb hby own_d2_1) ?_
    show Steps p.tables e below (s₁.setTop (mkF m 2 #[.val (.int p0), .val (.int p1), .unset, .unset, .unset] [(.int (3 : Int32)), (.int p0)])) _
    refine XS.iand X0.here hx rfl (hb hby own_d2_2) rfl ?_
    show Steps p.tables e below (s₁.setTop (mkF m 3 #[.val (.int p0), .val (.int p1), .unset, .unset, .unset] [(.int (p0 &&& (3 : Int32)))])) _
    refine XS.istoreN X0.here hx rfl (hb hby own_d2_3) rfl (l' := #[.val (.int p0), .val (.int p1), .val (.int (p0 &&& (3 : Int32))), .unset, .unset]) rfl ?_
    show Steps p.tables e below (s₁.setTop (mkF m 4 #[.val (.int p0), .val (.int p1), .val (.int (p0 &&& (3 : Int32))), .unset, .unset] [])) _
    refine XS.iloadN X0.here hx rfl (hb hby own_d2_4) rfl ?_
    show Steps p.tables e below (s₁.setTop (mkF m 5 #[.val (.int p0), .val (.int p1), .val (.int (p0 &&& (3 : Int32))), .unset, .unset] [(.int (p0 &&& (3 : Int32)))])) _
    refine XS.ifYes X0.here hx rfl (pc0 := 5) (pc' := 10) rfl (hb hby own_d2_5) rfl ((if0 _ _).trans (feq (hz : ¬ ((p0 &&& (3 : Int32)) = (0 : Int32)))).2) (by decide) (by decide) ?_
    show Steps p.tables e below (s₁.setTop (mkF m 10 #[.val (.int p0), .val (.int p1), .val (.int (p0 &&& (3 : Int32))), .unset, .unset] [])) _
    refine XS.iloadN X0.here hx rfl (hb hby own_d2_10) rfl ?_
    show Steps p.tables e below (s₁.setTop (mkF m 11 #[.val (.int p0), .val (.int p1), .val (.int (p0 &&& (3 : Int32))), .unset, .unset] [(.int (p0 &&& (3 : Int32)))])) _
    refine XS.iconst X0.here hx rfl (hb hby own_d2_11) ?_
    show Steps p.tables e below (s₁.setTop (mkF m 12 #[.val (.int p0), .val (.int p1), .val (.int (p0 &&& (3 : Int32))), .unset, .unset] [(.int (1 : Int32)), (.int (p0 &&& (3 : Int32)))])) _
    exact kk)
  by_cases hc192 : (p0 &&& (3 : Int32)) = (1 : Int32)
  · obtain ⟨T193, h193, X193, e193, E193, A193, D193, -, st193⟩ := newO X0 hx hZ hown (hw _ (List.mem_of_getElem? (i := 11) rfl)) (hw _ (List.mem_of_getElem? (i := 12) rfl)) (hw _ (List.mem_of_getElem? (i := 13) rfl)) e0 (g := (mkF m 15 #[.val (.int p0), .val (.int p1), .val (.int (p0 &&& (3 : Int32))), .unset, .unset] [])) rfl (hb hby own_d2_15) (by decide) (by decide)
    obtain ⟨b193, g193⟩ : ∃ z, z = h0.size := ⟨_, rfl⟩
    have g_b193 : n0 ≤ b193 := Nat.le_trans Z0 (Nat.le_of_eq g193.symm)
    have sz_b193 : h0.size ≤ b193 := Nat.le_trans (Keep.refl h0 []).1 (Nat.le_of_eq g193.symm)
    have sf194 : Safe Z own_EL (s.vm) h0 b193 := Safe.new (Nat.le_of_eq g193.symm)
    rw [← g193] at A193 D193 st193
    have f195 := pr0.ext E193
    have f196 := Safe.ext E193 CH0.1 sf194
    have CH197 := CHr.trans CH0 (CHr.ext E193 CH0.1)
    have z198 : n0 ≤ h193.size := Nat.le_trans Z0 E193.1
    have hk199 := Nat.le_trans hk0 E193.1
    have K200 : Keep h0 h193 [] := (Keep.refl h0 []).ext E193
    have f201 : Fld Z h193 b193 "java/lang/String" "coder" "B" (.int (0 : Int32)) := D193 (Or.inr (hw _ (List.mem_of_getElem? (i := 37) rfl))) (ty := .byte) (by decide)
    have f202 : Fld Z h193 b193 "java/lang/String" "value" "[B" .null := D193 (Or.inr (hw _ (List.mem_of_getElem? (i := 39) rfl))) (ty := (.array .byte)) (by decide)
    obtain ⟨T203, h203, k203, X203, e203, E203, A203, st203⟩ := newP X193 hx hZ (hw _ (List.mem_of_getElem? (i := 10) rfl)) e193 (g := (mkF m 20 #[.val (.int p0), .val (.int p1), .val (.int (p0 &&& (3 : Int32))), .unset, .unset] [(.int (0 : Int32)), (.ref b193), (.ref b193)])) rfl (hb hby own_d2_20) rfl (by decide) (cap := 0) (by decide) (by decide) (by decide) (by decide)
    obtain ⟨b203, g203⟩ : ∃ z, z = h193.size := ⟨_, rfl⟩
    have ne_b193_b203 : b193 ≠ b203 := Nat.ne_of_lt (Nat.lt_of_lt_of_le A193.lt (Nat.le_of_eq g203.symm))
    have g_b203 : n0 ≤ b203 := Nat.le_trans z198 (Nat.le_of_eq g203.symm)
    have sz_b203 : h0.size ≤ b203 := Nat.le_trans K200.1 (Nat.le_of_eq g203.symm)
    have sf204 : Safe Z own_EL (s.vm) h193 b203 := Safe.new (Nat.le_of_eq g203.symm)
    rw [← g203] at A203 st203
    have f205 := f195.ext E203
    have f206 := Safe.ext E203 CH197.1 f196
    have f207 := A193.ext E203
    have f208 := f201.ext E203
    have f209 := f202.ext E203
    have f210 := Safe.ext E203 CH197.1 sf204
    have CH211 := CHr.trans CH197 (CHr.ext E203 CH197.1)
    have z212 : n0 ≤ h203.size := Nat.le_trans z198 E203.1
    have hk213 := Nat.le_trans hk199 E203.1
    have K214 : Keep h0 h203 [] := K200.ext E203
    have f215 : Arv Z h203 b203 k203 .char (0 : Int32) [] (.int (0 : Int32)) := (Arv.new A203 (by decide)).pad (pad_rep [] (.int (0 : Int32)) 0)
    obtain ⟨_, _, ⟨T216, L216, k216, n216⟩, -, Y216, hSa216, gle216, ⟨Lc216, hQ216, l216, y216, z216, A216⟩, st216⟩ := X203.specialBackS hx (y := (⟨"java/lang/String", "<init>", "([C)V"⟩ : MethodName)) rfl hown (mvT hZ (hw _ (List.mem_of_getElem? (i := 14) rfl))) (mvT hZ (hw _ (List.mem_of_getElem? (i := 15) rfl))) (mvT hZ (hw _ (List.mem_of_getElem? (i := 16) rfl))) (by decide) (own_backSH (s := s) (vm0 := s.vm) (W := 1) (xs := [b193]) (own_rmIE l Z av hw [] b193 b203 (k203) h203 n0 z212 f207 f209 f208 f215 g_b193 ne_b193_b203) hZ (hw _ (List.mem_of_getElem? (i := 16) rfl)) (hw _ (List.mem_of_getElem? (i := 13) rfl)) (by decide) (by decide) hEL CH211.1 (own_slS f206 f207.lt own_sl0)) (g := (mkF m 22 #[.val (.int p0), .val (.int p1), .val (.int (p0 &&& (3 : Int32))), .unset, .unset] [(.ref b203), (.ref b193), (.ref b193)])) rfl (by rw [hml]; rfl) (Steps.refl _) (a := b193) (argsL := [(.ref b203)]) (rest := [(.ref b193)]) (lenOf own_pd7 rfl) rfl (by show 2 * 0 + _ ≤ _; exact Nat.le_of_eq rfl) (hb hby own_d2_22) (fun _ _ => ⟨rfl, e203, (by decide : 2 + 4 ≤ _), (by decide : 4 + 8 ≤ _)⟩)
    dsimp only [Pt.U, Pt.locs, Pt.cells, Pt.slots] at Y216 hSa216 gle216 l216 y216 z216 st216 hQ216 A216
    subst l216 y216 z216
    obtain ⟨X216, hS216, hZ216, hown216⟩ := rebS (s := s) (vm0 := s.vm) hS0 (show _ ≤ T203.heap.size from (by rw [e203]; exact hk213)) Y216 hSa216 gle216 hZ hown
    obtain ⟨rfl, N216q, K216, f218⟩ := hQ216
    have f219 := own_staKeep f205 K216 (allS (own_nsE f207) all0)
    have f220 := CHr.safe A216 f207.lt f206
    have f221 := CHr.safe A216 f215.lt f210
    have f222 := f215.keep K216 (ninS (Ne.symm ne_b193_b203) nin0)
    have CH223 := CHr.trans CH211 A216
    have K224 : Keep h0 T216.heap [] := K214.trans K216 (allS (Or.inr sz_b193) all0)
    have z225 : n0 ≤ T216.heap.size := Nat.le_trans z212 K216.1
    have N217 := Fr.app N0 N216q
    obtain ⟨fs, hr, hrun, hended, hR1, hR2, hR3, hR4⟩ := Stand.leaveW (s := s) (vm₁ := T216.vm) X216 hS216 (Nat.le_refl T216.heap.size) (v := some (.ref b193)) (fun h => by rw [Bd.returns] at h; cases h)
    refine ⟨_, _, pre191 _ ?_, hrun, hended, _, _, rfl, ?_, (by show CHr Z own_EL s.vm s.heap T216.vm T216.heap; rw [hh]; exact CHr.trans CH223 (CHv.at (s := s) (vm0 := T216.vm) X216 hZ216 hEL CH223.1)), hR1, hR2, hR3, hR4.mono (by decide) (by decide)⟩
    · show Steps p.tables e below (s₁.setTop (mkF m 12 #[.val (.int p0), .val (.int p1), .val (.int (p0 &&& (3 : Int32))), .unset, .unset] [(.int (1 : Int32)), (.int (p0 &&& (3 : Int32)))])) _
      refine XS.icmpNo X0.here hx rfl (hb hby own_d2_12) rfl (teq hc192).2 ?_
      show Steps p.tables e below (s₁.setTop (mkF m 15 #[.val (.int p0), .val (.int p1), .val (.int (p0 &&& (3 : Int32))), .unset, .unset] [])) _
      refine st193 _ ?_
      show Steps p.tables e below (T193.setTop (mkF m 18 #[.val (.int p0), .val (.int p1), .val (.int (p0 &&& (3 : Int32))), .unset, .unset] [(.ref b193)])) _
      refine XS.dup X193.here hx rfl (hb hby own_d2_18) rfl rfl ?_
      show Steps p.tables e below (T193.setTop (mkF m 19 #[.val (.int p0), .val (.int p1), .val (.int (p0 &&& (3 : Int32))), .unset, .unset] [(.ref b193), (.ref b193)])) _
      refine XS.iconst X193.here hx rfl (hb hby own_d2_19) ?_
      show Steps p.tables e below (T193.setTop (mkF m 20 #[.val (.int p0), .val (.int p1), .val (.int (p0 &&& (3 : Int32))), .unset, .unset] [(.int (0 : Int32)), (.ref b193), (.ref b193)])) _
      refine st203 _ ?_
      show Steps p.tables e below (T203.setTop (mkF m 22 #[.val (.int p0), .val (.int p1), .val (.int (p0 &&& (3 : Int32))), .unset, .unset] [(.ref b203), (.ref b193), (.ref b193)])) _
      refine st216.trans ?_
      show Steps p.tables e below (T216.setTop (mkF m 25 #[.val (.int p0), .val (.int p1), .val (.int (p0 &&& (3 : Int32))), .unset, .unset] [(.ref b193)])) _
      exact retOut X216 hx (t := (.object "java/lang/String")) (i := .areturn) Bd.returns rfl (Or.inr (Or.inr (Or.inr (Or.inr ⟨rfl, rfl, rfl⟩)))) (hb hby own_d2_25) hr
    · show own_QSS Z p0 p1 cs h0 n0 _ T216.heap _
      exact ⟨b193, rfl, N217, K224, g_b193, sz_b193, f218⟩
  · have pre226 : ∀ t, Steps p.tables e below (s₁.setTop (mkF m 35 #[.val (.int p0), .val (.int p1), .val (.int (p0 &&& (3 : Int32))), .val (.int ((p1 &&& (255 : Int32)).toUInt32.toUInt16.toUInt32.toInt32)), .unset] [(.int (2 : Int32)), (.int (p0 &&& (3 : Int32)))])) t → Steps p.tables e below (s₁.setTop (entryFrame m #[(.int p0), (.int p1)] 5)) t := fun t kk => pre191 t (by
      show Steps p.tables e below (s₁.setTop (mkF m 12 #[.val (.int p0), .val (.int p1), .val (.int (p0 &&& (3 : Int32))), .unset, .unset] [(.int (1 : Int32)), (.int (p0 &&& (3 : Int32)))])) _
      refine XS.icmpYes X0.here hx rfl (pc0 := 12) (pc' := 26) rfl (hb hby own_d2_12) rfl (feq hc192).2 (by decide) (by decide) ?_
      show Steps p.tables e below (s₁.setTop (mkF m 26 #[.val (.int p0), .val (.int p1), .val (.int (p0 &&& (3 : Int32))), .unset, .unset] [])) _
      refine XS.iloadN X0.here hx rfl (hb hby own_d2_26) rfl ?_
      show Steps p.tables e below (s₁.setTop (mkF m 27 #[.val (.int p0), .val (.int p1), .val (.int (p0 &&& (3 : Int32))), .unset, .unset] [(.int p1)])) _
      refine XS.sipush X0.here hx rfl (hb hby own_d2_27) ?_
      show Steps p.tables e below (s₁.setTop (mkF m 30 #[.val (.int p0), .val (.int p1), .val (.int (p0 &&& (3 : Int32))), .unset, .unset] [(.int (255 : Int32)), (.int p1)])) _
      refine XS.iand X0.here hx rfl (hb hby own_d2_30) rfl ?_
      show Steps p.tables e below (s₁.setTop (mkF m 31 #[.val (.int p0), .val (.int p1), .val (.int (p0 &&& (3 : Int32))), .unset, .unset] [(.int (p1 &&& (255 : Int32)))])) _
      refine XS.i2c X0.here hx rfl (hb hby own_d2_31) rfl ?_
      show Steps p.tables e below (s₁.setTop (mkF m 32 #[.val (.int p0), .val (.int p1), .val (.int (p0 &&& (3 : Int32))), .unset, .unset] [(.int ((p1 &&& (255 : Int32)).toUInt32.toUInt16.toUInt32.toInt32))])) _
      refine XS.istoreN X0.here hx rfl (hb hby own_d2_32) rfl (l' := #[.val (.int p0), .val (.int p1), .val (.int (p0 &&& (3 : Int32))), .val (.int ((p1 &&& (255 : Int32)).toUInt32.toUInt16.toUInt32.toInt32)), .unset]) rfl ?_
      show Steps p.tables e below (s₁.setTop (mkF m 33 #[.val (.int p0), .val (.int p1), .val (.int (p0 &&& (3 : Int32))), .val (.int ((p1 &&& (255 : Int32)).toUInt32.toUInt16.toUInt32.toInt32)), .unset] [])) _
      refine XS.iloadN X0.here hx rfl (hb hby own_d2_33) rfl ?_
      show Steps p.tables e below (s₁.setTop (mkF m 34 #[.val (.int p0), .val (.int p1), .val (.int (p0 &&& (3 : Int32))), .val (.int ((p1 &&& (255 : Int32)).toUInt32.toUInt16.toUInt32.toInt32)), .unset] [(.int (p0 &&& (3 : Int32)))])) _
      refine XS.iconst X0.here hx rfl (hb hby own_d2_34) ?_
      show Steps p.tables e below (s₁.setTop (mkF m 35 #[.val (.int p0), .val (.int p1), .val (.int (p0 &&& (3 : Int32))), .val (.int ((p1 &&& (255 : Int32)).toUInt32.toUInt16.toUInt32.toInt32)), .unset] [(.int (2 : Int32)), (.int (p0 &&& (3 : Int32)))])) _
      exact kk)
    by_cases hc227 : (p0 &&& (3 : Int32)) = (2 : Int32)
    · obtain ⟨_, _, ⟨T228, L228, k228, n228⟩, -, X228, ⟨Lc228, hQ228, l228, y228, z228⟩, st228⟩ := Jvm.LawKit.callS X0 hx (y := (⟨"java/lang/String", "valueOf", "(C)Ljava/lang/String;"⟩ : MethodName)) hown (mvT hZ (hw _ (List.mem_of_getElem? (i := 68) rfl))) (mvT hZ (hw _ (List.mem_of_getElem? (i := 69) rfl))) (mvT hZ (hw _ (List.mem_of_getElem? (i := 13) rfl))) (mvT hZ (hw _ (List.mem_of_getElem? (i := 70) rfl))) (by decide) (backOf (W := 0) (own_rm13 l Z av hw [] ((p1 &&& (255 : Int32)).toUInt32.toUInt16.toUInt32.toInt32) (cs) h0 n0 Z0 pr0 (hcs) (own_lat1 _)) hZ (hw _ (List.mem_of_getElem? (i := 70) rfl)) (hw _ (List.mem_of_getElem? (i := 13) rfl)) (by decide) (by decide)) (g := (mkF m 39 #[.val (.int p0), .val (.int p1), .val (.int (p0 &&& (3 : Int32))), .val (.int ((p1 &&& (255 : Int32)).toUInt32.toUInt16.toUInt32.toInt32)), .unset] [(.int ((p1 &&& (255 : Int32)).toUInt32.toUInt16.toUInt32.toInt32))])) rfl (by rw [hml]; rfl) (argsL := [(.int ((p1 &&& (255 : Int32)).toUInt32.toUInt16.toUInt32.toInt32))]) (rest := []) (lenOf own_pd8 rfl) rfl (by show 2 * 0 + _ ≤ _; exact Nat.le_of_eq rfl) (hb hby own_d2_39) (fun _ _ => ⟨rfl, e0, (by decide : 0 + 2 ≤ _), (by decide : 0 + 5 ≤ _)⟩)
      dsimp only [Pt.U, Pt.locs, Pt.cells, Pt.slots] at X228 l228 y228 z228 st228 hQ228
      subst l228 y228 z228
      obtain ⟨b229, rfl, N228q, K228, g_b229, sz228_b229, f231⟩ := hQ228
      have sz_b229 : h0.size ≤ b229 := Nat.le_trans (Keep.refl h0 []).1 sz228_b229
      have sf232 : Safe Z own_EL (s.vm) h0 b229 := Safe.new sz228_b229
      have f233 := own_staKeep pr0 K228 all0
      have f234 := Safe.keep K228 sf0 CH0.1 sf232
      have CH235 := CHr.trans CH0 (CHr.keep K228 sf0 CH0.1)
      have K236 : Keep h0 T228.heap [] := (Keep.refl h0 []).trans K228 all0
      have z237 : n0 ≤ T228.heap.size := Nat.le_trans Z0 K228.1
      have hk238 := Nat.le_trans hk0 K228.1
      have N230 := Fr.app N0 N228q
      obtain ⟨fs, hr, hrun, hended, hR1, hR2, hR3, hR4⟩ := Stand.leaveW (s := s) (vm₁ := s.vm) X228 hS0 hk238 (v := some (.ref b229)) (fun h => by rw [Bd.returns] at h; cases h)
      refine ⟨_, _, pre226 _ ?_, hrun, hended, _, _, rfl, ?_, (by show CHr Z own_EL s.vm s.heap T228.vm T228.heap; rw [hh]; exact CHr.trans CH235 (CHv.at (s := s) (vm0 := s.vm) X228 hZ hEL CH235.1)), hR1, hR2, hR3, hR4.mono (by decide) (by decide)⟩
      · show Steps p.tables e below (s₁.setTop (mkF m 35 #[.val (.int p0), .val (.int p1), .val (.int (p0 &&& (3 : Int32))), .val (.int ((p1 &&& (255 : Int32)).toUInt32.toUInt16.toUInt32.toInt32)), .unset] [(.int (2 : Int32)), (.int (p0 &&& (3 : Int32)))])) _
        refine XS.icmpNo X0.here hx rfl (hb hby own_d2_35) rfl (teq hc227).2 ?_
        show Steps p.tables e below (s₁.setTop (mkF m 38 #[.val (.int p0), .val (.int p1), .val (.int (p0 &&& (3 : Int32))), .val (.int ((p1 &&& (255 : Int32)).toUInt32.toUInt16.toUInt32.toInt32)), .unset] [])) _
        refine XS.iloadN X0.here hx rfl (hb hby own_d2_38) rfl ?_
        show Steps p.tables e below (s₁.setTop (mkF m 39 #[.val (.int p0), .val (.int p1), .val (.int (p0 &&& (3 : Int32))), .val (.int ((p1 &&& (255 : Int32)).toUInt32.toUInt16.toUInt32.toInt32)), .unset] [(.int ((p1 &&& (255 : Int32)).toUInt32.toUInt16.toUInt32.toInt32))])) _
        refine st228 _ ?_
        show Steps p.tables e below (T228.setTop (mkF m 42 #[.val (.int p0), .val (.int p1), .val (.int (p0 &&& (3 : Int32))), .val (.int ((p1 &&& (255 : Int32)).toUInt32.toUInt16.toUInt32.toInt32)), .unset] [(.ref b229)])) _
        exact retOut X228 hx (t := (.object "java/lang/String")) (i := .areturn) Bd.returns rfl (Or.inr (Or.inr (Or.inr (Or.inr ⟨rfl, rfl, rfl⟩)))) (hb hby own_d2_42) hr
      · show own_QSS Z p0 p1 cs h0 n0 _ T228.heap _
        exact ⟨b229, rfl, N230, K236, g_b229, sz_b229, f231⟩
    · obtain ⟨T239, h239, k239, X239, e239, E239, A239, st239⟩ := newP X0 hx hZ (hw _ (List.mem_of_getElem? (i := 10) rfl)) e0 (g := (mkF m 44 #[.val (.int p0), .val (.int p1), .val (.int (p0 &&& (3 : Int32))), .val (.int ((p1 &&& (255 : Int32)).toUInt32.toUInt16.toUInt32.toInt32)), .unset] [(.int (2 : Int32))])) rfl (hb hby own_d2_44) rfl (by decide) (cap := 2) (by decide) (by decide) (by decide) (by decide)
      obtain ⟨b239, g239⟩ : ∃ z, z = h0.size := ⟨_, rfl⟩
      have g_b239 : n0 ≤ b239 := Nat.le_trans Z0 (Nat.le_of_eq g239.symm)
      have sz_b239 : h0.size ≤ b239 := Nat.le_trans (Keep.refl h0 []).1 (Nat.le_of_eq g239.symm)
      have sf240 : Safe Z own_EL (s.vm) h0 b239 := Safe.new (Nat.le_of_eq g239.symm)
      rw [← g239] at A239 st239
      have f241 := pr0.ext E239
      have f242 := Safe.ext E239 CH0.1 sf240
      have CH243 := CHr.trans CH0 (CHr.ext E239 CH0.1)
      have z244 : n0 ≤ h239.size := Nat.le_trans Z0 E239.1
      have hk245 := Nat.le_trans hk0 E239.1
      have K246 : Keep h0 h239 [] := (Keep.refl h0 []).ext E239
      have f247 : Arv Z h239 b239 k239 .char (2 : Int32) [(.int (0 : Int32)), (.int (0 : Int32))] (.int (0 : Int32)) := (Arv.new A239 (by decide)).pad (pad_rep [] (.int (0 : Int32)) 2)
      obtain ⟨cl248, Ar248, q248, S248, M248, H248, G248⟩ := id f247
      have hin248 : ¬ ((0 : Int32) < 0 ∨ cl248.slots.size ≤ ((0 : Int32)).toNatClampNeg) := inb_of S248 ⟨by decide, by decide⟩
      obtain ⟨T249, h249, X249, e249, W249, st249⟩ := stC X239 hx hZ e239 Ar248 (j := (0 : Int32)) hin248 (g := (mkF m 52 #[.val (.int p0), .val (.int p1), .val (.int (p0 &&& (3 : Int32))), .val (.int ((p1 &&& (255 : Int32)).toUInt32.toUInt16.toUInt32.toInt32)), .val (.ref b239)] [(.int ((p1 &&& (255 : Int32)).toUInt32.toUInt16.toUInt32.toInt32)), (.int (0 : Int32)), (.ref b239)])) rfl rfl (hb hby own_d2_52)
      have f250 := f241.wr W249
      have f251 := Safe.wr W249 f242 CH243.1 f242
      have CH252 := CHr.trans CH243 (CHr.wr W249 f242 CH243.1)
      have K253 : Keep h0 h249 [] := K246.wr W249 (Or.inr sz_b239)
      have z254 : n0 ≤ h249.size := Nat.le_trans z244 (Keep.of_wr W249).1
      have hk255 := Nat.le_trans hk245 (Keep.of_wr W249).1
      have N256 := Fr.snoc X249 N0 g_b239
      have f257 : Arv Z h249 b239 k239 .char (2 : Int32) [(.int (nar .char ((p1 &&& (255 : Int32)).toUInt32.toUInt16.toUInt32.toInt32))), (.int (0 : Int32))] (.int (0 : Int32)) := Arv.set Ar248 q248 S248 M248 H248 G248 (fits_nar_char _) W249 0 rfl (Nat.le_of_ble_eq_true rfl)
      obtain ⟨cl258, Ar258, q258, S258, M258, H258, G258⟩ := id f257
      have hin258 : ¬ ((1 : Int32) < 0 ∨ cl258.slots.size ≤ ((1 : Int32)).toNatClampNeg) := inb_of S258 ⟨by decide, by decide⟩
      obtain ⟨T259, h259, X259, e259, W259, st259⟩ := stC X249 hx hZ e249 Ar258 (j := (1 : Int32)) hin258 (g := (mkF m 65 #[.val (.int p0), .val (.int p1), .val (.int (p0 &&& (3 : Int32))), .val (.int ((p1 &&& (255 : Int32)).toUInt32.toUInt16.toUInt32.toInt32)), .val (.ref b239)] [(.int ((((p1.toUInt32 >>> ((8 : Int32) &&& 31).toUInt32).toInt32) &&& (255 : Int32)).toUInt32.toUInt16.toUInt32.toInt32)), (.int (1 : Int32)), (.ref b239)])) rfl rfl (hb hby own_d2_65)
      have f260 := f250.wr W259
      have f261 := Safe.wr W259 f251 CH252.1 f251
      have CH262 := CHr.trans CH252 (CHr.wr W259 f251 CH252.1)
      have K263 : Keep h0 h259 [] := K253.wr W259 (Or.inr sz_b239)
      have z264 : n0 ≤ h259.size := Nat.le_trans z254 (Keep.of_wr W259).1
      have hk265 := Nat.le_trans hk255 (Keep.of_wr W259).1
      have N266 := Fr.snoc X259 N256 g_b239
      have f267 : Arv Z h259 b239 k239 .char (2 : Int32) [(.int (nar .char ((p1 &&& (255 : Int32)).toUInt32.toUInt16.toUInt32.toInt32))), (.int (nar .char ((((p1.toUInt32 >>> ((8 : Int32) &&& 31).toUInt32).toInt32) &&& (255 : Int32)).toUInt32.toUInt16.toUInt32.toInt32)))] (.int (0 : Int32)) := Arv.set Ar258 q258 S258 M258 H258 G258 (fits_nar_char _) W259 1 rfl (Nat.le_of_ble_eq_true rfl)
      obtain ⟨T268, h268, X268, e268, E268, A268, D268, -, st268⟩ := newO X259 hx hZ hown (hw _ (List.mem_of_getElem? (i := 11) rfl)) (hw _ (List.mem_of_getElem? (i := 12) rfl)) (hw _ (List.mem_of_getElem? (i := 13) rfl)) e259 (g := (mkF m 66 #[.val (.int p0), .val (.int p1), .val (.int (p0 &&& (3 : Int32))), .val (.int ((p1 &&& (255 : Int32)).toUInt32.toUInt16.toUInt32.toInt32)), .val (.ref b239)] [])) rfl (hb hby own_d2_66) (by decide) (by decide)
      obtain ⟨b268, g268⟩ : ∃ z, z = h259.size := ⟨_, rfl⟩
      have ne_b239_b268 : b239 ≠ b268 := Nat.ne_of_lt (Nat.lt_of_lt_of_le f267.lt (Nat.le_of_eq g268.symm))
      have g_b268 : n0 ≤ b268 := Nat.le_trans z264 (Nat.le_of_eq g268.symm)
      have sz_b268 : h0.size ≤ b268 := Nat.le_trans K263.1 (Nat.le_of_eq g268.symm)
      have sf269 : Safe Z own_EL (s.vm) h259 b268 := Safe.new (Nat.le_of_eq g268.symm)
      rw [← g268] at A268 D268 st268
      have f270 := f260.ext E268
      have f271 := Safe.ext E268 CH262.1 f261
      have f272 := f267.ext E268
      have f273 := Safe.ext E268 CH262.1 sf269
      have CH274 := CHr.trans CH262 (CHr.ext E268 CH262.1)
      have z275 : n0 ≤ h268.size := Nat.le_trans z264 E268.1
      have hk276 := Nat.le_trans hk265 E268.1
      have K277 : Keep h0 h268 [] := K263.ext E268
      have f278 : Fld Z h268 b268 "java/lang/String" "coder" "B" (.int (0 : Int32)) := D268 (Or.inr (hw _ (List.mem_of_getElem? (i := 37) rfl))) (ty := .byte) (by decide)
      have f279 : Fld Z h268 b268 "java/lang/String" "value" "[B" .null := D268 (Or.inr (hw _ (List.mem_of_getElem? (i := 39) rfl))) (ty := (.array .byte)) (by decide)
      obtain ⟨_, _, ⟨T280, L280, k280, n280⟩, -, X280, ⟨Lc280, hQ280, l280, y280, z280⟩, st280⟩ := X268.specialBack hx (y := (⟨"java/lang/String", "<init>", "([C)V"⟩ : MethodName)) rfl hown (mvT hZ (hw _ (List.mem_of_getElem? (i := 14) rfl))) (mvT hZ (hw _ (List.mem_of_getElem? (i := 15) rfl))) (mvT hZ (hw _ (List.mem_of_getElem? (i := 16) rfl))) (by decide) (backOf (W := 1) (own_rmI2 l Z av hw [] b268 b239 (k239) ((nar .char ((p1 &&& (255 : Int32)).toUInt32.toUInt16.toUInt32.toInt32))) ((nar .char ((((p1.toUInt32 >>> ((8 : Int32) &&& 31).toUInt32).toInt32) &&& (255 : Int32)).toUInt32.toUInt16.toUInt32.toInt32))) (cs) h268 n0 z275 A268 f279 f278 f272 f270 g_b268 (Ne.symm ne_b239_b268) (hcs) (own_lat2 _) (own_lat2 _)) hZ (hw _ (List.mem_of_getElem? (i := 16) rfl)) (hw _ (List.mem_of_getElem? (i := 13) rfl)) (by decide) (by decide)) (g := (mkF m 72 #[.val (.int p0), .val (.int p1), .val (.int (p0 &&& (3 : Int32))), .val (.int ((p1 &&& (255 : Int32)).toUInt32.toUInt16.toUInt32.toInt32)), .val (.ref b239)] [(.ref b239), (.ref b268), (.ref b268)])) rfl (by rw [hml]; rfl) (Steps.refl _) (a := b268) (argsL := [(.ref b239)]) (rest := [(.ref b268)]) (lenOf own_pd7 rfl) rfl (by show 2 * 0 + _ ≤ _; exact Nat.le_of_eq rfl) (hb hby own_d2_72) (fun _ _ => ⟨rfl, e268, (by decide : 2 + 1 ≤ _), (by decide : 6 + 2 ≤ _)⟩)
      dsimp only [Pt.U, Pt.locs, Pt.cells, Pt.slots] at X280 l280 y280 z280 st280 hQ280
      subst l280 y280 z280
      obtain ⟨rfl, N280q, K280, f282⟩ := hQ280
      have f283 := own_staKeep f270 K280 (allS (own_nsE A268) all0)
      have f284 := Safe.keep K280 (sfS f273 sf0) CH274.1 f271
      have f285 := f272.keep K280 (ninS ne_b239_b268 nin0)
      have f286 := Safe.keep K280 (sfS f273 sf0) CH274.1 f273
      have CH287 := CHr.trans CH274 (CHr.keep K280 (sfS f273 sf0) CH274.1)
      have K288 : Keep h0 T280.heap [] := K277.trans K280 (allS (Or.inr sz_b268) all0)
      have z289 : n0 ≤ T280.heap.size := Nat.le_trans z275 K280.1
      have hk290 := Nat.le_trans hk276 K280.1
      have N281 := Fr.app N266 N280q
      obtain ⟨fs, hr, hrun, hended, hR1, hR2, hR3, hR4⟩ := Stand.leaveW (s := s) (vm₁ := s.vm) X280 hS0 hk290 (v := some (.ref b268)) (fun h => by rw [Bd.returns] at h; cases h)
      refine ⟨_, _, pre226 _ ?_, hrun, hended, _, _, rfl, ?_, (by show CHr Z own_EL s.vm s.heap T280.vm T280.heap; rw [hh]; exact CHr.trans CH287 (CHv.at (s := s) (vm0 := s.vm) X280 hZ hEL CH287.1)), hR1, hR2, hR3, hR4.mono (by decide) (by decide)⟩
      · show Steps p.tables e below (s₁.setTop (mkF m 35 #[.val (.int p0), .val (.int p1), .val (.int (p0 &&& (3 : Int32))), .val (.int ((p1 &&& (255 : Int32)).toUInt32.toUInt16.toUInt32.toInt32)), .unset] [(.int (2 : Int32)), (.int (p0 &&& (3 : Int32)))])) _
        refine XS.icmpYes X0.here hx rfl (pc0 := 35) (pc' := 43) rfl (hb hby own_d2_35) rfl (feq hc227).2 (by decide) (by decide) ?_
        show Steps p.tables e below (s₁.setTop (mkF m 43 #[.val (.int p0), .val (.int p1), .val (.int (p0 &&& (3 : Int32))), .val (.int ((p1 &&& (255 : Int32)).toUInt32.toUInt16.toUInt32.toInt32)), .unset] [])) _
        refine XS.iconst X0.here hx rfl (hb hby own_d2_43) ?_
        show Steps p.tables e below (s₁.setTop (mkF m 44 #[.val (.int p0), .val (.int p1), .val (.int (p0 &&& (3 : Int32))), .val (.int ((p1 &&& (255 : Int32)).toUInt32.toUInt16.toUInt32.toInt32)), .unset] [(.int (2 : Int32))])) _
        refine st239 _ ?_
        show Steps p.tables e below (T239.setTop (mkF m 46 #[.val (.int p0), .val (.int p1), .val (.int (p0 &&& (3 : Int32))), .val (.int ((p1 &&& (255 : Int32)).toUInt32.toUInt16.toUInt32.toInt32)), .unset] [(.ref b239)])) _
        refine XS.astore X239.here hx rfl (hb hby own_d2_46) rfl rfl (l' := #[.val (.int p0), .val (.int p1), .val (.int (p0 &&& (3 : Int32))), .val (.int ((p1 &&& (255 : Int32)).toUInt32.toUInt16.toUInt32.toInt32)), .val (.ref b239)]) rfl ?_
        show Steps p.tables e below (T239.setTop (mkF m 48 #[.val (.int p0), .val (.int p1), .val (.int (p0 &&& (3 : Int32))), .val (.int ((p1 &&& (255 : Int32)).toUInt32.toUInt16.toUInt32.toInt32)), .val (.ref b239)] [])) _
        refine XS.aload X239.here hx rfl (hb hby own_d2_48) rfl rfl ?_
        show Steps p.tables e below (T239.setTop (mkF m 50 #[.val (.int p0), .val (.int p1), .val (.int (p0 &&& (3 : Int32))), .val (.int ((p1 &&& (255 : Int32)).toUInt32.toUInt16.toUInt32.toInt32)), .val (.ref b239)] [(.ref b239)])) _
        refine XS.iconst X239.here hx rfl (hb hby own_d2_50) ?_
        show Steps p.tables e below (T239.setTop (mkF m 51 #[.val (.int p0), .val (.int p1), .val (.int (p0 &&& (3 : Int32))), .val (.int ((p1 &&& (255 : Int32)).toUInt32.toUInt16.toUInt32.toInt32)), .val (.ref b239)] [(.int (0 : Int32)), (.ref b239)])) _
        refine XS.iloadN X239.here hx rfl (hb hby own_d2_51) rfl ?_
        show Steps p.tables e below (T239.setTop (mkF m 52 #[.val (.int p0), .val (.int p1), .val (.int (p0 &&& (3 : Int32))), .val (.int ((p1 &&& (255 : Int32)).toUInt32.toUInt16.toUInt32.toInt32)), .val (.ref b239)] [(.int ((p1 &&& (255 : Int32)).toUInt32.toUInt16.toUInt32.toInt32)), (.int (0 : Int32)), (.ref b239)])) _
        refine st249 _ ?_
        show Steps p.tables e below (T249.setTop (mkF m 53 #[.val (.int p0), .val (.int p1), .val (.int (p0 &&& (3 : Int32))), .val (.int ((p1 &&& (255 : Int32)).toUInt32.toUInt16.toUInt32.toInt32)), .val (.ref b239)] [])) _
        refine XS.aload X249.here hx rfl (hb hby own_d2_53) rfl rfl ?_
        show Steps p.tables e below (T249.setTop (mkF m 55 #[.val (.int p0), .val (.int p1), .val (.int (p0 &&& (3 : Int32))), .val (.int ((p1 &&& (255 : Int32)).toUInt32.toUInt16.toUInt32.toInt32)), .val (.ref b239)] [(.ref b239)])) _
        refine XS.iconst X249.here hx rfl (hb hby own_d2_55) ?_
        show Steps p.tables e below (T249.setTop (mkF m 56 #[.val (.int p0), .val (.int p1), .val (.int (p0 &&& (3 : Int32))), .val (.int ((p1 &&& (255 : Int32)).toUInt32.toUInt16.toUInt32.toInt32)), .val (.ref b239)] [(.int (1 : Int32)), (.ref b239)])) _
        refine XS.iloadN X249.here hx rfl (hb hby own_d2_56) rfl ?_
        show Steps p.tables e below (T249.setTop (mkF m 57 #[.val (.int p0), .val (.int p1), .val (.int (p0 &&& (3 : Int32))), .val (.int ((p1 &&& (255 : Int32)).toUInt32.toUInt16.toUInt32.toInt32)), .val (.ref b239)] [(.int p1), (.int (1 : Int32)), (.ref b239)])) _
        refine XS.bipush X249.here hx rfl (hb hby own_d2_57) ?_
        show Steps p.tables e below (T249.setTop (mkF m 59 #[.val (.int p0), .val (.int p1), .val (.int (p0 &&& (3 : Int32))), .val (.int ((p1 &&& (255 : Int32)).toUInt32.toUInt16.toUInt32.toInt32)), .val (.ref b239)] [(.int (8 : Int32)), (.int p1), (.int (1 : Int32)), (.ref b239)])) _
        refine XS.iushr X249.here hx rfl (hb hby own_d2_59) rfl ?_
        show Steps p.tables e below (T249.setTop (mkF m 60 #[.val (.int p0), .val (.int p1), .val (.int (p0 &&& (3 : Int32))), .val (.int ((p1 &&& (255 : Int32)).toUInt32.toUInt16.toUInt32.toInt32)), .val (.ref b239)] [(.int ((p1.toUInt32 >>> ((8 : Int32) &&& 31).toUInt32).toInt32)), (.int (1 : Int32)), (.ref b239)])) _
        refine XS.sipush X249.here hx rfl (hb hby own_d2_60) ?_
        show Steps p.tables e below (T249.setTop (mkF m 63 #[.val (.int p0), .val (.int p1), .val (.int (p0 &&& (3 : Int32))), .val (.int ((p1 &&& (255 : Int32)).toUInt32.toUInt16.toUInt32.toInt32)), .val (.ref b239)] [(.int (255 : Int32)), (.int ((p1.toUInt32 >>> ((8 : Int32) &&& 31).toUInt32).toInt32)), (.int (1 : Int32)), (.ref b239)])) _
        refine XS.iand X249.here hx rfl (hb hby own_d2_63) rfl ?_
        show Steps p.tables e below (T249.setTop (mkF m 64 #[.val (.int p0), .val (.int p1), .val (.int (p0 &&& (3 : Int32))), .val (.int ((p1 &&& (255 : Int32)).toUInt32.toUInt16.toUInt32.toInt32)), .val (.ref b239)] [(.int (((p1.toUInt32 >>> ((8 : Int32) &&& 31).toUInt32).toInt32) &&& (255 : Int32))), (.int (1 : Int32)), (.ref b239)])) _
        refine XS.i2c X249.here hx rfl (hb hby own_d2_64) rfl ?_
        show Steps p.tables e below (T249.setTop (mkF m 65 #[.val (.int p0), .val (.int p1), .val (.int (p0 &&& (3 : Int32))), .val (.int ((p1 &&& (255 : Int32)).toUInt32.toUInt16.toUInt32.toInt32)), .val (.ref b239)] [(.int ((((p1.toUInt32 >>> ((8 : Int32) &&& 31).toUInt32).toInt32) &&& (255 : Int32)).toUInt32.toUInt16.toUInt32.toInt32)), (.int (1 : Int32)), (.ref b239)])) _
        refine st259 _ ?_
        show Steps p.tables e below (T259.setTop (mkF m 66 #[.val (.int p0), .val (.int p1), .val (.int (p0 &&& (3 : Int32))), .val (.int ((p1 &&& (255 : Int32)).toUInt32.toUInt16.toUInt32.toInt32)), .val (.ref b239)] [])) _
        refine st268 _ ?_
        show Steps p.tables e below (T268.setTop (mkF m 69 #[.val (.int p0), .val (.int p1), .val (.int (p0 &&& (3 : Int32))), .val (.int ((p1 &&& (255 : Int32)).toUInt32.toUInt16.toUInt32.toInt32)), .val (.ref b239)] [(.ref b268)])) _
        refine XS.dup X268.here hx rfl (hb hby own_d2_69) rfl rfl ?_
        show Steps p.tables e below (T268.setTop (mkF m 70 #[.val (.int p0), .val (.int p1), .val (.int (p0 &&& (3 : Int32))), .val (.int ((p1 &&& (255 : Int32)).toUInt32.toUInt16.toUInt32.toInt32)), .val (.ref b239)] [(.ref b268), (.ref b268)])) _
        refine XS.aload X268.here hx rfl (hb hby own_d2_70) rfl rfl ?_
        show Steps p.tables e below (T268.setTop (mkF m 72 #[.val (.int p0), .val (.int p1), .val (.int (p0 &&& (3 : Int32))), .val (.int ((p1 &&& (255 : Int32)).toUInt32.toUInt16.toUInt32.toInt32)), .val (.ref b239)] [(.ref b239), (.ref b268), (.ref b268)])) _
        refine st280.trans ?_
        show Steps p.tables e below (T280.setTop (mkF m 75 #[.val (.int p0), .val (.int p1), .val (.int (p0 &&& (3 : Int32))), .val (.int ((p1 &&& (255 : Int32)).toUInt32.toUInt16.toUInt32.toInt32)), .val (.ref b239)] [(.ref b268)])) _
        exact retOut X280 hx (t := (.object "java/lang/String")) (i := .areturn) Bd.returns rfl (Or.inr (Or.inr (Or.inr (Or.inr ⟨rfl, rfl, rfl⟩)))) (hb hby own_d2_75) hr
      · show own_QSS Z p0 p1 cs h0 n0 _ T280.heap _
        exact ⟨b268, rfl, N281, K288, g_b268, sz_b268, f282⟩
theorem own_d25_0 : decode jdk_42_method_66_code 0 = .ok (.aload_n 0, 1) := by decide +kernel
theorem own_d25_1 : decode jdk_42_method_66_code 1 = .ok (.aload_n 1, 1) := by decide +kernel
theorem own_d25_2 : decode jdk_42_method_66_code 2 = .ok (.if_acmp .ne 5, 3) := by decide +kernel
theorem own_d25_5 : decode jdk_42_method_66_code 5 = .ok (.iconst 1, 1) := by decide +kernel
theorem own_d25_6 : decode jdk_42_method_66_code 6 = .ok (.ireturn, 1) := by decide +kernel
theorem own_ef25 (m : MethodId) (a0 : Addr) (a1 : Addr) : entryFrame m #[(.ref a0), (.ref a1)] 3 = mkF m 0 #[.val (.ref a0), .val (.ref a1), .unset] [] := by first | (simp [entryFrame, mkF, argsToLocals, Value.category]; done) | rfl
def own_Q25 (Z : State) (a0 : Addr) (a1 : Addr) (h0 : Heap) (n0 : Nat) (v : Option Value) (h : Heap) (L : List Loc) : Prop := v = some (.int (1 : Int32)) ∧ Fr n0 L ∧ h = h0
set_option maxRecDepth 65536 in
set_option maxHeartbeats 40000000 in
theorem own_rm25 (l : Launch) (Z : State) (av : Array Value) (hw : ∀ d ∈ tables_1, d.before av Z = true) (ws : List Jvm.Cond) (a0 : Addr) (a1 : Addr) (h0 : Heap) (n0 : Nat) (Z0 : n0 ≤ h0.size) (hsm : a0 = a1) :
    MetFree l (⟨"java/lang/String", "equals", "(Ljava/lang/Object;)Z"⟩ : MethodName) (head1 (Jvm.Cond.code (⟨"java/lang/String", "equals", "(Ljava/lang/Object;)Z"⟩ : MethodName) jdk_42_method_66_code 3 (some .boolean) :: ws) ({ frames := 0, cells := 0, slots := 0, locals := 0 } : Room)) (fun a U => a = #[(.ref a0), (.ref a1)] ∧ Z.Warmed39 U.vm ∧ U.heap = h0) (fun _ _ _ _ _ => True) (fun _ U o U' => ∃ v L, o = .returned v ∧ own_Q25 Z a0 a1 h0 n0 v U'.heap L ∧ FrameEnd U o U' L ({ frames := 0, cells := 0, slots := 0, locals := 0 } : Room).cells ({ frames := 0, cells := 0, slots := 0, locals := 0 } : Room).slots) := by
  refine MetFree.of_bodySF (plainFor_of_name own_pn60) hisR ?_
  intro p e s m args below meth c s₁ Bd hml0 hP hK
  obtain ⟨rfl, hZ, hh⟩ := hP
  have hx := Bd.exec
  have hby := Bd.bytes
  have hml : c.maxLocals = 3 := hml0
  have hown : s.vm.findClass "java/lang/String" = some m.cls := findClass_of_methodNamed Bd.named
  have hnm := (name_of_methodNamed Bd.named Bd.method).1
  have X0 : Stand p l e ({ frames := 0, cells := 0, slots := 0, locals := 0 } : Room) s m #[(.ref a0), (.ref a1)] below meth c s₁ [] 0 0 := Stand.of_body Bd
  have e0 : s₁.heap = h0 := by rw [← hh, Bd.state]; rfl
  have N0 := Fr.nil n0
  have pre0 : ∀ t, Steps p.tables e below (s₁.setTop (mkF m 0 #[.val (.ref a0), .val (.ref a1), .unset] [])) t → Steps p.tables e below (s₁.setTop (entryFrame m #[(.ref a0), (.ref a1)] 3)) t := fun t k => castTop (own_ef25 m a0 a1) k
  subst hsm
  obtain ⟨fs, hr, hrun, hended, hW, hsame⟩ := X0.leave (v := some (.int (1 : Int32))) (fun h => by rw [Bd.returns] at h; cases h)
  refine ⟨_, _, pre0 _ ?_, hrun, hended, _, _, rfl, ?_, ⟨_, rfl⟩, hW, hsame.mono (by decide) (by decide)⟩
  · show Steps p.tables e below (s₁.setTop (mkF m 0 #[.val (.ref a0), .val (.ref a0), .unset] [])) _
    refine XS.aloadN X0.here hx rfl (hb hby own_d25_0) rfl rfl ?_
    show Steps p.tables e below (s₁.setTop (mkF m 1 #[.val (.ref a0), .val (.ref a0), .unset] [(.ref a0)])) _
    refine XS.aloadN X0.here hx rfl (hb hby own_d25_1) rfl rfl ?_
    show Steps p.tables e below (s₁.setTop (mkF m 2 #[.val (.ref a0), .val (.ref a0), .unset] [(.ref a0), (.ref a0)])) _
    refine Jvm.RoadKit.acmp (g := (mkF m 2 #[.val (.ref a0), .val (.ref a0), .unset] [(.ref a0), (.ref a0)])) X0 hx rfl rfl rfl (pc0 := 2) (pc' := 5) (same := true) rfl (hb hby own_d25_2) rfl (decide_eq_true rfl) (by decide) (by decide) ?_
    show Steps p.tables e below (s₁.setTop (mkF m 5 #[.val (.ref a0), .val (.ref a0), .unset] [])) _
    refine XS.iconst X0.here hx rfl (hb hby own_d25_5) ?_
    show Steps p.tables e below (s₁.setTop (mkF m 6 #[.val (.ref a0), .val (.ref a0), .unset] [(.int (1 : Int32))])) _
    exact retN X0 hx (t := .boolean) Bd.returns (by simp) (hb hby own_d25_6) hr
  · show own_Q25 Z a0 a0 h0 n0 _ s₁.heap _
    rw [e0]
    exact ⟨rfl, N0, rfl⟩
theorem own_d12_0 : decode method_3_code 0 = .ok (.aload_n 0, 1) := by decide +kernel
theorem own_d12_1 : decode method_3_code 1 = .ok (.ifnonnull 13, 3) := by decide +kernel
theorem own_d12_4 : decode method_3_code 4 = .ok (.aload_n 1, 1) := by decide +kernel
theorem own_d12_5 : decode method_3_code 5 = .ok (.ifnonnull 7, 3) := by decide +kernel
theorem own_d12_8 : decode method_3_code 8 = .ok (.iconst 1, 1) := by decide +kernel
theorem own_d12_9 : decode method_3_code 9 = .ok (.goto 4, 3) := by decide +kernel
theorem own_d12_13 : decode method_3_code 13 = .ok (.ireturn, 1) := by decide +kernel
theorem own_efPN (m : MethodId)  : entryFrame m #[.null, .null] 2 = mkF m 0 #[.val .null, .val .null] [] := by first | (simp [entryFrame, mkF, argsToLocals, Value.category]; done) | rfl
def own_QPN (Z : State)  (h0 : Heap) (n0 : Nat) (v : Option Value) (h : Heap) (L : List Loc) : Prop := v = some (.int (1 : Int32)) ∧ Fr n0 L ∧ h = h0
set_option maxRecDepth 65536 in
set_option maxHeartbeats 40000000 in
theorem own_rmPN (l : Launch) (Z : State) (av : Array Value) (hw : ∀ d ∈ tables_1, d.before av Z = true) (ws : List Jvm.Cond)  (h0 : Heap) (n0 : Nat) (Z0 : n0 ≤ h0.size) :
    MetFree l (⟨"com/example/thyme/thyme/lang/ScopeInstancePinLaw", "same", "(Ljava/lang/String;Ljava/lang/String;)Z"⟩ : MethodName) (head1 (Jvm.Cond.code (⟨"com/example/thyme/thyme/lang/ScopeInstancePinLaw", "same", "(Ljava/lang/String;Ljava/lang/String;)Z"⟩ : MethodName) method_3_code 2 (some .boolean) :: ws) ({ frames := 0, cells := 0, slots := 0, locals := 0 } : Room)) (fun a U => a = #[.null, .null] ∧ Z.Warmed39 U.vm ∧ U.heap = h0) (fun _ _ _ _ _ => True) (fun _ U o U' => ∃ v L, o = .returned v ∧ own_QPN Z  h0 n0 v U'.heap L ∧ FrameEnd U o U' L ({ frames := 0, cells := 0, slots := 0, locals := 0 } : Room).cells ({ frames := 0, cells := 0, slots := 0, locals := 0 } : Room).slots) := by
  refine MetFree.of_bodySF (plainFor_of_name own_pn129) hisR ?_
  intro p e s m args below meth c s₁ Bd hml0 hP hK
  obtain ⟨rfl, hZ, hh⟩ := hP
  have hx := Bd.exec
  have hby := Bd.bytes
  have hml : c.maxLocals = 2 := hml0
  have hown : s.vm.findClass "com/example/thyme/thyme/lang/ScopeInstancePinLaw" = some m.cls := findClass_of_methodNamed Bd.named
  have hnm := (name_of_methodNamed Bd.named Bd.method).1
  have X0 : Stand p l e ({ frames := 0, cells := 0, slots := 0, locals := 0 } : Room) s m #[.null, .null] below meth c s₁ [] 0 0 := Stand.of_body Bd
  have e0 : s₁.heap = h0 := by rw [← hh, Bd.state]; rfl
  have N0 := Fr.nil n0
  have pre0 : ∀ t, Steps p.tables e below (s₁.setTop (mkF m 0 #[.val .null, .val .null] [])) t → Steps p.tables e below (s₁.setTop (entryFrame m #[.null, .null] 2)) t := fun t k => castTop (own_efPN m ) k
  obtain ⟨fs, hr, hrun, hended, hW, hsame⟩ := X0.leave (v := some (.int (1 : Int32))) (fun h => by rw [Bd.returns] at h; cases h)
  refine ⟨_, _, pre0 _ ?_, hrun, hended, _, _, rfl, ?_, ⟨_, rfl⟩, hW, hsame.mono (by decide) (by decide)⟩
  · show Steps p.tables e below (s₁.setTop (mkF m 0 #[.val .null, .val .null] [])) _
    refine XS.aloadN X0.here hx rfl (hb hby own_d12_0) rfl rfl ?_
    show Steps p.tables e below (s₁.setTop (mkF m 1 #[.val .null, .val .null] [.null])) _
    refine XS.ifnonnullNo X0.here hx rfl (hb hby own_d12_1) rfl ?_
    show Steps p.tables e below (s₁.setTop (mkF m 4 #[.val .null, .val .null] [])) _
    refine XS.aloadN X0.here hx rfl (hb hby own_d12_4) rfl rfl ?_
    show Steps p.tables e below (s₁.setTop (mkF m 5 #[.val .null, .val .null] [.null])) _
    refine XS.ifnonnullNo X0.here hx rfl (hb hby own_d12_5) rfl ?_
    show Steps p.tables e below (s₁.setTop (mkF m 8 #[.val .null, .val .null] [])) _
    refine XS.iconst X0.here hx rfl (hb hby own_d12_8) ?_
    show Steps p.tables e below (s₁.setTop (mkF m 9 #[.val .null, .val .null] [(.int (1 : Int32))])) _
    refine XS.goto X0.here hx rfl (pc0 := 9) (pc' := 13) rfl (hb hby own_d12_9) (by decide) (by decide) ?_
    show Steps p.tables e below (s₁.setTop (mkF m 13 #[.val .null, .val .null] [(.int (1 : Int32))])) _
    exact retN X0 hx (t := .boolean) Bd.returns (by simp) (hb hby own_d12_13) hr
  · show own_QPN Z  h0 n0 _ s₁.heap _
    rw [e0]
    exact ⟨rfl, N0, rfl⟩
theorem own_d12_14 : decode method_3_code 14 = .ok (.aload_n 1, 1) := by decide +kernel
theorem own_d12_15 : decode method_3_code 15 = .ok (.ifnull 15, 3) := by decide +kernel
theorem own_d12_18 : decode method_3_code 18 = .ok (.aload_n 0, 1) := by decide +kernel
theorem own_d12_19 : decode method_3_code 19 = .ok (.aload_n 1, 1) := by decide +kernel
theorem own_pd9 : parseMethodDescriptor "(Ljava/lang/Object;)Z" = some ⟨[(.object "java/lang/Object")], some .boolean⟩ := by decide +kernel
theorem own_d12_20 : decode method_3_code 20 = .ok (.invokevirtual 36, 3) := by decide +kernel
theorem own_d12_23 : decode method_3_code 23 = .ok (.ifCond .eq 7, 3) := by decide +kernel
theorem own_d12_26 : decode method_3_code 26 = .ok (.iconst 1, 1) := by decide +kernel
theorem own_d12_27 : decode method_3_code 27 = .ok (.goto 4, 3) := by decide +kernel
theorem own_d12_31 : decode method_3_code 31 = .ok (.ireturn, 1) := by decide +kernel
theorem own_efPS (m : MethodId) (a0 : Addr) (a1 : Addr) : entryFrame m #[(.ref a0), (.ref a1)] 2 = mkF m 0 #[.val (.ref a0), .val (.ref a1)] [] := by first | (simp [entryFrame, mkF, argsToLocals, Value.category]; done) | rfl
def own_QPS (Z : State) (a0 : Addr) (a1 : Addr) (h0 : Heap) (n0 : Nat) (v : Option Value) (h : Heap) (L : List Loc) : Prop := v = some (.int (1 : Int32)) ∧ Fr n0 L ∧ h = h0
set_option maxRecDepth 65536 in
set_option maxHeartbeats 40000000 in
theorem own_rmPS (l : Launch) (Z : State) (av : Array Value) (hw : ∀ d ∈ tables_1, d.before av Z = true) (ws : List Jvm.Cond) (a0 : Addr) (a1 : Addr) (h0 : Heap) (n0 : Nat) (Z0 : n0 ≤ h0.size) (pr0 : Exa Z h0 a0 "java/lang/String") (hsm : a0 = a1) :
    MetFree l (⟨"com/example/thyme/thyme/lang/ScopeInstancePinLaw", "same", "(Ljava/lang/String;Ljava/lang/String;)Z"⟩ : MethodName) (head1 (Jvm.Cond.code (⟨"com/example/thyme/thyme/lang/ScopeInstancePinLaw", "same", "(Ljava/lang/String;Ljava/lang/String;)Z"⟩ : MethodName) method_3_code 2 (some .boolean) :: ws) ({ frames := 1, cells := 0, slots := 0, locals := 14 } : Room)) (fun a U => a = #[(.ref a0), (.ref a1)] ∧ Z.Warmed39 U.vm ∧ U.heap = h0) (fun _ _ _ _ _ => True) (fun _ U o U' => ∃ v L, o = .returned v ∧ own_QPS Z a0 a1 h0 n0 v U'.heap L ∧ FrameEnd U o U' L ({ frames := 1, cells := 0, slots := 0, locals := 14 } : Room).cells ({ frames := 1, cells := 0, slots := 0, locals := 14 } : Room).slots) := by
  refine MetFree.of_bodySF (plainFor_of_name own_pn129) hisR ?_
  intro p e s m args below meth c s₁ Bd hml0 hP hK
  obtain ⟨rfl, hZ, hh⟩ := hP
  have hx := Bd.exec
  have hby := Bd.bytes
  have hml : c.maxLocals = 2 := hml0
  have hown : s.vm.findClass "com/example/thyme/thyme/lang/ScopeInstancePinLaw" = some m.cls := findClass_of_methodNamed Bd.named
  have hnm := (name_of_methodNamed Bd.named Bd.method).1
  have X0 : Stand p l e ({ frames := 1, cells := 0, slots := 0, locals := 14 } : Room) s m #[(.ref a0), (.ref a1)] below meth c s₁ [] 0 0 := Stand.of_body Bd
  have e0 : s₁.heap = h0 := by rw [← hh, Bd.state]; rfl
  have N0 := Fr.nil n0
  have pre0 : ∀ t, Steps p.tables e below (s₁.setTop (mkF m 0 #[.val (.ref a0), .val (.ref a1)] [])) t → Steps p.tables e below (s₁.setTop (entryFrame m #[(.ref a0), (.ref a1)] 2)) t := fun t k => castTop (own_efPS m a0 a1) k
  subst hsm
  obtain ⟨cq291, kq291, q291a, q291b, q291c⟩ := isOf hZ e0 pr0
  obtain ⟨_, _, ⟨T291, L291, k291, n291⟩, -, X291, ⟨Lc291, hQ291, l291, y291, z291⟩, st291⟩ := X0.virtualBack hx (y := (⟨"java/lang/String", "equals", "(Ljava/lang/Object;)Z"⟩ : MethodName)) (z := (⟨"java/lang/String", "equals", "(Ljava/lang/Object;)Z"⟩ : MethodName)) hown (mvT hZ (hw _ (List.mem_of_getElem? (i := 167) rfl))) (mvT hZ (hw _ (List.mem_of_getElem? (i := 168) rfl))) (notFace_of_selects (args := #[]) (mvT hZ (hw _ (List.mem_of_getElem? (i := 170) rfl)))) (mvT hZ (hw _ (List.mem_of_getElem? (i := 170) rfl))) (mvT hZ (hw _ (List.mem_of_getElem? (i := 169) rfl))) (by decide) (backOf (W := 0) (own_rm25 l Z av hw [] a0 a0 h0 n0 Z0 (rfl)) hZ (hw _ (List.mem_of_getElem? (i := 171) rfl)) (hw _ (List.mem_of_getElem? (i := 13) rfl)) (by decide) (by decide)) q291a q291c (g := (mkF m 20 #[.val (.ref a0), .val (.ref a0)] [(.ref a0), (.ref a0)])) rfl (by rw [hml]; rfl) (Steps.refl _) (argsL := [(.ref a0)]) (rest := []) (lenOf own_pd9 rfl) rfl (by show 2 * 0 + _ ≤ _; exact Nat.le_of_eq rfl) (hb hby own_d12_20) (fun _ _ => ⟨rfl, e0, (by decide : 0 + 0 ≤ _), (by decide : 0 + 0 ≤ _)⟩)
  dsimp only [Pt.U, Pt.locs, Pt.cells, Pt.slots] at X291 l291 y291 z291 st291 hQ291
  subst l291 y291 z291
  obtain ⟨rfl, N291q, e293⟩ := hQ291
  have N292 := Fr.app N0 N291q
  obtain ⟨fs, hr, hrun, hended, hW, hsame⟩ := X291.leave (v := some (.int (1 : Int32))) (fun h => by rw [Bd.returns] at h; cases h)
  refine ⟨_, _, pre0 _ ?_, hrun, hended, _, _, rfl, ?_, ⟨_, rfl⟩, hW, hsame.mono (by decide) (by decide)⟩
  · show Steps p.tables e below (s₁.setTop (mkF m 0 #[.val (.ref a0), .val (.ref a0)] [])) _
    refine XS.aloadN X0.here hx rfl (hb hby own_d12_0) rfl rfl ?_
    show Steps p.tables e below (s₁.setTop (mkF m 1 #[.val (.ref a0), .val (.ref a0)] [(.ref a0)])) _
    refine XS.ifnonnullYes X0.here hx rfl (pc0 := 1) (pc' := 14) rfl (hb hby own_d12_1) rfl (by decide) (by decide) ?_
    show Steps p.tables e below (s₁.setTop (mkF m 14 #[.val (.ref a0), .val (.ref a0)] [])) _
    refine XS.aloadN X0.here hx rfl (hb hby own_d12_14) rfl rfl ?_
    show Steps p.tables e below (s₁.setTop (mkF m 15 #[.val (.ref a0), .val (.ref a0)] [(.ref a0)])) _
    refine XS.ifnullNo X0.here hx rfl (hb hby own_d12_15) rfl ?_
    show Steps p.tables e below (s₁.setTop (mkF m 18 #[.val (.ref a0), .val (.ref a0)] [])) _
    refine XS.aloadN X0.here hx rfl (hb hby own_d12_18) rfl rfl ?_
    show Steps p.tables e below (s₁.setTop (mkF m 19 #[.val (.ref a0), .val (.ref a0)] [(.ref a0)])) _
    refine XS.aloadN X0.here hx rfl (hb hby own_d12_19) rfl rfl ?_
    show Steps p.tables e below (s₁.setTop (mkF m 20 #[.val (.ref a0), .val (.ref a0)] [(.ref a0), (.ref a0)])) _
    refine st291.trans ?_
    show Steps p.tables e below (T291.setTop (mkF m 23 #[.val (.ref a0), .val (.ref a0)] [(.int (1 : Int32))])) _
    refine XS.ifNo X291.here hx rfl (hb hby own_d12_23) rfl ((if0 _ _).trans (feq (by decide : ¬ ((1 : Int32) = (0 : Int32)))).1) ?_
    show Steps p.tables e below (T291.setTop (mkF m 26 #[.val (.ref a0), .val (.ref a0)] [])) _
    refine XS.iconst X291.here hx rfl (hb hby own_d12_26) ?_
    show Steps p.tables e below (T291.setTop (mkF m 27 #[.val (.ref a0), .val (.ref a0)] [(.int (1 : Int32))])) _
    refine XS.goto X291.here hx rfl (pc0 := 27) (pc' := 31) rfl (hb hby own_d12_27) (by decide) (by decide) ?_
    show Steps p.tables e below (T291.setTop (mkF m 31 #[.val (.ref a0), .val (.ref a0)] [(.int (1 : Int32))])) _
    exact retN X291 hx (t := .boolean) Bd.returns (by simp) (hb hby own_d12_31) hr
  · show own_QPS Z a0 a0 h0 n0 _ T291.heap _
    rw [e293]
    exact ⟨rfl, N292, rfl⟩
theorem own_d1_0 : decode method_5_code 0 = .ok (.iload_n 0, 1) := by decide +kernel
theorem own_d1_1 : decode method_5_code 1 = .ok (.ifCond .ne 7, 3) := by decide +kernel
theorem own_d1_4 : decode method_5_code 4 = .ok (.getstatic 49, 3) := by decide +kernel
theorem own_d1_7 : decode method_5_code 7 = .ok (.areturn, 1) := by decide +kernel
theorem own_d1_8 : decode method_5_code 8 = .ok (.iload_n 0, 1) := by decide +kernel
theorem own_d1_9 : decode method_5_code 9 = .ok (.iconst 1, 1) := by decide +kernel
theorem own_d1_10 : decode method_5_code 10 = .ok (.if_icmp .ne 7, 3) := by decide +kernel
theorem own_d1_13 : decode method_5_code 13 = .ok (.getstatic 55, 3) := by decide +kernel
theorem own_d1_16 : decode method_5_code 16 = .ok (.areturn, 1) := by decide +kernel
theorem own_d1_17 : decode method_5_code 17 = .ok (.iload_n 0, 1) := by decide +kernel
theorem own_d1_18 : decode method_5_code 18 = .ok (.iconst 2, 1) := by decide +kernel
theorem own_d1_19 : decode method_5_code 19 = .ok (.if_icmp .ne 7, 3) := by decide +kernel
theorem own_d1_22 : decode method_5_code 22 = .ok (.getstatic 58, 3) := by decide +kernel
theorem own_d1_25 : decode method_5_code 25 = .ok (.areturn, 1) := by decide +kernel
theorem own_d1_26 : decode method_5_code 26 = .ok (.iload_n 0, 1) := by decide +kernel
theorem own_d1_27 : decode method_5_code 27 = .ok (.iconst 3, 1) := by decide +kernel
theorem own_d1_28 : decode method_5_code 28 = .ok (.if_icmp .ne 7, 3) := by decide +kernel
theorem own_d1_31 : decode method_5_code 31 = .ok (.getstatic 61, 3) := by decide +kernel
theorem own_d1_34 : decode method_5_code 34 = .ok (.areturn, 1) := by decide +kernel
theorem own_d1_35 : decode method_5_code 35 = .ok (.iload_n 0, 1) := by decide +kernel
theorem own_d1_36 : decode method_5_code 36 = .ok (.iconst 4, 1) := by decide +kernel
theorem own_d1_37 : decode method_5_code 37 = .ok (.if_icmp .ne 7, 3) := by decide +kernel
theorem own_d1_40 : decode method_5_code 40 = .ok (.getstatic 64, 3) := by decide +kernel
theorem own_d1_43 : decode method_5_code 43 = .ok (.areturn, 1) := by decide +kernel
theorem own_d1_44 : decode method_5_code 44 = .ok (.iload_n 0, 1) := by decide +kernel
theorem own_d1_45 : decode method_5_code 45 = .ok (.iconst 5, 1) := by decide +kernel
theorem own_d1_46 : decode method_5_code 46 = .ok (.if_icmp .ne 7, 3) := by decide +kernel
theorem own_d1_49 : decode method_5_code 49 = .ok (.getstatic 67, 3) := by decide +kernel
theorem own_d1_52 : decode method_5_code 52 = .ok (.areturn, 1) := by decide +kernel
theorem own_d1_53 : decode method_5_code 53 = .ok (.iload_n 0, 1) := by decide +kernel
theorem own_d1_54 : decode method_5_code 54 = .ok (.bipush 6, 2) := by decide +kernel
theorem own_d1_56 : decode method_5_code 56 = .ok (.if_icmp .ne 7, 3) := by decide +kernel
theorem own_d1_59 : decode method_5_code 59 = .ok (.getstatic 70, 3) := by decide +kernel
theorem own_d1_62 : decode method_5_code 62 = .ok (.areturn, 1) := by decide +kernel
theorem own_d1_63 : decode method_5_code 63 = .ok (.getstatic 73, 3) := by decide +kernel
theorem own_d1_66 : decode method_5_code 66 = .ok (.areturn, 1) := by decide +kernel
theorem own_ef1 (m : MethodId) (p0 : Int32) : entryFrame m #[(.int p0)] 1 = mkF m 0 #[.val (.int p0)] [] := by first | (simp [entryFrame, mkF, argsToLocals, Value.category]; done) | rfl
def own_Q1 (Z : State) (p0 : Int32) (x0 : Addr) (x1 : Addr) (x2 : Addr) (x3 : Addr) (x4 : Addr) (x5 : Addr) (x6 : Addr) (x7 : Addr) (h0 : Heap) (n0 : Nat) (v : Option Value) (h : Heap) (L : List Loc) : Prop := ∃ r : Addr, v = some (.ref r) ∧ Fr n0 L ∧ h = h0
set_option maxRecDepth 65536 in
set_option maxHeartbeats 40000000 in
theorem own_rm1 (l : Launch) (Z : State) (av : Array Value) (hw : ∀ d ∈ tables_1, d.before av Z = true) (ws : List Jvm.Cond) (p0 : Int32) (x0 : Addr) (x1 : Addr) (x2 : Addr) (x3 : Addr) (x4 : Addr) (x5 : Addr) (x6 : Addr) (x7 : Addr) (h0 : Heap) (n0 : Nat) (Z0 : n0 ≤ h0.size) (pr0 : Sta Z h0 "com/example/thyme/thyme/lang/ExpressionResolver$Context" "CONSTANT" "Lcom/example/thyme/thyme/lang/ExpressionResolver$Context;" (.ref x0)) (pr1 : Sta Z h0 "com/example/thyme/thyme/lang/ExpressionResolver$Context" "STATIC" "Lcom/example/thyme/thyme/lang/ExpressionResolver$Context;" (.ref x1)) (pr2 : Sta Z h0 "com/example/thyme/thyme/lang/ExpressionResolver$Context" "CLOCK_CONSTANT" "Lcom/example/thyme/thyme/lang/ExpressionResolver$Context;" (.ref x2)) (pr3 : Sta Z h0 "com/example/thyme/thyme/lang/ExpressionResolver$Context" "SIZE" "Lcom/example/thyme/thyme/lang/ExpressionResolver$Context;" (.ref x3)) (pr4 : Sta Z h0 "com/example/thyme/thyme/lang/ExpressionResolver$Context" "INDEX" "Lcom/example/thyme/thyme/lang/ExpressionResolver$Context;" (.ref x4)) (pr5 : Sta Z h0 "com/example/thyme/thyme/lang/ExpressionResolver$Context" "ARGUMENT" "Lcom/example/thyme/thyme/lang/ExpressionResolver$Context;" (.ref x5)) (pr6 : Sta Z h0 "com/example/thyme/thyme/lang/ExpressionResolver$Context" "AUTOMATON" "Lcom/example/thyme/thyme/lang/ExpressionResolver$Context;" (.ref x6)) (pr7 : Sta Z h0 "com/example/thyme/thyme/lang/ExpressionResolver$Context" "CHECK" "Lcom/example/thyme/thyme/lang/ExpressionResolver$Context;" (.ref x7)) :
    MetFree l (⟨"com/example/thyme/thyme/lang/ScopeInstancePinLaw", "context", "(I)Lcom/example/thyme/thyme/lang/ExpressionResolver$Context;"⟩ : MethodName) (head1 (Jvm.Cond.code (⟨"com/example/thyme/thyme/lang/ScopeInstancePinLaw", "context", "(I)Lcom/example/thyme/thyme/lang/ExpressionResolver$Context;"⟩ : MethodName) method_5_code 1 (some (.object "com/example/thyme/thyme/lang/ExpressionResolver$Context")) :: ws) ({ frames := 0, cells := 0, slots := 0, locals := 0 } : Room)) (fun a U => a = #[(.int p0)] ∧ Z.Warmed39 U.vm ∧ U.heap = h0) (fun _ _ _ _ _ => True) (fun _ U o U' => ∃ v L, o = .returned v ∧ own_Q1 Z p0 x0 x1 x2 x3 x4 x5 x6 x7 h0 n0 v U'.heap L ∧ FrameEnd U o U' L ({ frames := 0, cells := 0, slots := 0, locals := 0 } : Room).cells ({ frames := 0, cells := 0, slots := 0, locals := 0 } : Room).slots) := by
  refine MetFree.of_bodySF (plainFor_of_name own_pn129) hisR ?_
  intro p e s m args below meth c s₁ Bd hml0 hP hK
  obtain ⟨rfl, hZ, hh⟩ := hP
  have hx := Bd.exec
  have hby := Bd.bytes
  have hml : c.maxLocals = 1 := hml0
  have hown : s.vm.findClass "com/example/thyme/thyme/lang/ScopeInstancePinLaw" = some m.cls := findClass_of_methodNamed Bd.named
  have hnm := (name_of_methodNamed Bd.named Bd.method).1
  have X0 : Stand p l e ({ frames := 0, cells := 0, slots := 0, locals := 0 } : Room) s m #[(.int p0)] below meth c s₁ [] 0 0 := Stand.of_body Bd
  have e0 : s₁.heap = h0 := by rw [← hh, Bd.state]; rfl
  have N0 := Fr.nil n0
  have pre0 : ∀ t, Steps p.tables e below (s₁.setTop (mkF m 0 #[.val (.int p0)] [])) t → Steps p.tables e below (s₁.setTop (entryFrame m #[(.int p0)] 1)) t := fun t k => castTop (own_ef1 m p0) k
  have pre294 : ∀ t, Steps p.tables e below (s₁.setTop (mkF m 1 #[.val (.int p0)] [(.int p0)])) t → Steps p.tables e below (s₁.setTop (entryFrame m #[(.int p0)] 1)) t := fun t kk => pre0 t (by
    show Steps p.tables e below (s₁.setTop (mkF m 0 #[.val (.int p0)] [])) _
    refine XS.iloadN X0.here hx rfl (hb hby own_d1_0) rfl ?_
    show Steps p.tables e below (s₁.setTop (mkF m 1 #[.val (.int p0)] [(.int p0)])) _
    exact kk)
  by_cases hc295 : p0 = (0 : Int32)
  · obtain ⟨T296, X296, e296, st296⟩ := getS2 X0 hx hZ hown (host := "") (Or.inl (hw _ (List.mem_of_getElem? (i := 4) rfl))) Via.refl e0 pr0 (g := (mkF m 4 #[.val (.int p0)] [])) rfl (hb hby own_d1_4)
    obtain ⟨fs, hr, hrun, hended, hW, hsame⟩ := X296.leave (v := some (.ref x0)) (fun h => by rw [Bd.returns] at h; cases h)
    refine ⟨_, _, pre294 _ ?_, hrun, hended, _, _, rfl, ?_, ⟨_, rfl⟩, hW, hsame.mono (by decide) (by decide)⟩
    · show Steps p.tables e below (s₁.setTop (mkF m 1 #[.val (.int p0)] [(.int p0)])) _
      refine XS.ifNo X0.here hx rfl (hb hby own_d1_1) rfl ((if0 _ _).trans (teq hc295).2) ?_
      show Steps p.tables e below (s₁.setTop (mkF m 4 #[.val (.int p0)] [])) _
      refine st296 _ ?_
      show Steps p.tables e below (T296.setTop (mkF m 7 #[.val (.int p0)] [(.ref x0)])) _
      exact retOut X296 hx (t := (.object "com/example/thyme/thyme/lang/ExpressionResolver$Context")) (i := .areturn) Bd.returns rfl (Or.inr (Or.inr (Or.inr (Or.inr ⟨rfl, rfl, rfl⟩)))) (hb hby own_d1_7) hr
    · show own_Q1 Z p0 x0 x1 x2 x3 x4 x5 x6 x7 h0 n0 _ T296.heap _
      rw [e296]
      exact ⟨x0, rfl, N0, rfl⟩
  · have pre297 : ∀ t, Steps p.tables e below (s₁.setTop (mkF m 10 #[.val (.int p0)] [(.int (1 : Int32)), (.int p0)])) t → Steps p.tables e below (s₁.setTop (entryFrame m #[(.int p0)] 1)) t := fun t kk => pre294 t (by
      show Steps p.tables e below (s₁.setTop (mkF m 1 #[.val (.int p0)] [(.int p0)])) _
      refine XS.ifYes X0.here hx rfl (pc0 := 1) (pc' := 8) rfl (hb hby own_d1_1) rfl ((if0 _ _).trans (feq hc295).2) (by decide) (by decide) ?_
      show Steps p.tables e below (s₁.setTop (mkF m 8 #[.val (.int p0)] [])) _
      refine XS.iloadN X0.here hx rfl (hb hby own_d1_8) rfl ?_
      show Steps p.tables e below (s₁.setTop (mkF m 9 #[.val (.int p0)] [(.int p0)])) _
      refine XS.iconst X0.here hx rfl (hb hby own_d1_9) ?_
      show Steps p.tables e below (s₁.setTop (mkF m 10 #[.val (.int p0)] [(.int (1 : Int32)), (.int p0)])) _
      exact kk)
    by_cases hc298 : p0 = (1 : Int32)
    · obtain ⟨T299, X299, e299, st299⟩ := getS2 X0 hx hZ hown (host := "") (Or.inl (hw _ (List.mem_of_getElem? (i := 185) rfl))) Via.refl e0 pr1 (g := (mkF m 13 #[.val (.int p0)] [])) rfl (hb hby own_d1_13)
      obtain ⟨fs, hr, hrun, hended, hW, hsame⟩ := X299.leave (v := some (.ref x1)) (fun h => by rw [Bd.returns] at h; cases h)
      refine ⟨_, _, pre297 _ ?_, hrun, hended, _, _, rfl, ?_, ⟨_, rfl⟩, hW, hsame.mono (by decide) (by decide)⟩
      · show Steps p.tables e below (s₁.setTop (mkF m 10 #[.val (.int p0)] [(.int (1 : Int32)), (.int p0)])) _
        refine XS.icmpNo X0.here hx rfl (hb hby own_d1_10) rfl (teq hc298).2 ?_
        show Steps p.tables e below (s₁.setTop (mkF m 13 #[.val (.int p0)] [])) _
        refine st299 _ ?_
        show Steps p.tables e below (T299.setTop (mkF m 16 #[.val (.int p0)] [(.ref x1)])) _
        exact retOut X299 hx (t := (.object "com/example/thyme/thyme/lang/ExpressionResolver$Context")) (i := .areturn) Bd.returns rfl (Or.inr (Or.inr (Or.inr (Or.inr ⟨rfl, rfl, rfl⟩)))) (hb hby own_d1_16) hr
      · show own_Q1 Z p0 x0 x1 x2 x3 x4 x5 x6 x7 h0 n0 _ T299.heap _
        rw [e299]
        exact ⟨x1, rfl, N0, rfl⟩
    · have pre300 : ∀ t, Steps p.tables e below (s₁.setTop (mkF m 19 #[.val (.int p0)] [(.int (2 : Int32)), (.int p0)])) t → Steps p.tables e below (s₁.setTop (entryFrame m #[(.int p0)] 1)) t := fun t kk => pre297 t (by
        show Steps p.tables e below (s₁.setTop (mkF m 10 #[.val (.int p0)] [(.int (1 : Int32)), (.int p0)])) _
        refine XS.icmpYes X0.here hx rfl (pc0 := 10) (pc' := 17) rfl (hb hby own_d1_10) rfl (feq hc298).2 (by decide) (by decide) ?_
        show Steps p.tables e below (s₁.setTop (mkF m 17 #[.val (.int p0)] [])) _
        refine XS.iloadN X0.here hx rfl (hb hby own_d1_17) rfl ?_
        show Steps p.tables e below (s₁.setTop (mkF m 18 #[.val (.int p0)] [(.int p0)])) _
        refine XS.iconst X0.here hx rfl (hb hby own_d1_18) ?_
        show Steps p.tables e below (s₁.setTop (mkF m 19 #[.val (.int p0)] [(.int (2 : Int32)), (.int p0)])) _
        exact kk)
      by_cases hc301 : p0 = (2 : Int32)
      · obtain ⟨T302, X302, e302, st302⟩ := getS2 X0 hx hZ hown (host := "") (Or.inl (hw _ (List.mem_of_getElem? (i := 176) rfl))) Via.refl e0 pr2 (g := (mkF m 22 #[.val (.int p0)] [])) rfl (hb hby own_d1_22)
        obtain ⟨fs, hr, hrun, hended, hW, hsame⟩ := X302.leave (v := some (.ref x2)) (fun h => by rw [Bd.returns] at h; cases h)
        refine ⟨_, _, pre300 _ ?_, hrun, hended, _, _, rfl, ?_, ⟨_, rfl⟩, hW, hsame.mono (by decide) (by decide)⟩
        · show Steps p.tables e below (s₁.setTop (mkF m 19 #[.val (.int p0)] [(.int (2 : Int32)), (.int p0)])) _
          refine XS.icmpNo X0.here hx rfl (hb hby own_d1_19) rfl (teq hc301).2 ?_
          show Steps p.tables e below (s₁.setTop (mkF m 22 #[.val (.int p0)] [])) _
          refine st302 _ ?_
          show Steps p.tables e below (T302.setTop (mkF m 25 #[.val (.int p0)] [(.ref x2)])) _
          exact retOut X302 hx (t := (.object "com/example/thyme/thyme/lang/ExpressionResolver$Context")) (i := .areturn) Bd.returns rfl (Or.inr (Or.inr (Or.inr (Or.inr ⟨rfl, rfl, rfl⟩)))) (hb hby own_d1_25) hr
        · show own_Q1 Z p0 x0 x1 x2 x3 x4 x5 x6 x7 h0 n0 _ T302.heap _
          rw [e302]
          exact ⟨x2, rfl, N0, rfl⟩
      · have pre303 : ∀ t, Steps p.tables e below (s₁.setTop (mkF m 28 #[.val (.int p0)] [(.int (3 : Int32)), (.int p0)])) t → Steps p.tables e below (s₁.setTop (entryFrame m #[(.int p0)] 1)) t := fun t kk => pre300 t (by
          show Steps p.tables e below (s₁.setTop (mkF m 19 #[.val (.int p0)] [(.int (2 : Int32)), (.int p0)])) _
          refine XS.icmpYes X0.here hx rfl (pc0 := 19) (pc' := 26) rfl (hb hby own_d1_19) rfl (feq hc301).2 (by decide) (by decide) ?_
          show Steps p.tables e below (s₁.setTop (mkF m 26 #[.val (.int p0)] [])) _
          refine XS.iloadN X0.here hx rfl (hb hby own_d1_26) rfl ?_
          show Steps p.tables e below (s₁.setTop (mkF m 27 #[.val (.int p0)] [(.int p0)])) _
          refine XS.iconst X0.here hx rfl (hb hby own_d1_27) ?_
          show Steps p.tables e below (s₁.setTop (mkF m 28 #[.val (.int p0)] [(.int (3 : Int32)), (.int p0)])) _
          exact kk)
        by_cases hc304 : p0 = (3 : Int32)
        · obtain ⟨T305, X305, e305, st305⟩ := getS2 X0 hx hZ hown (host := "") (Or.inl (hw _ (List.mem_of_getElem? (i := 183) rfl))) Via.refl e0 pr3 (g := (mkF m 31 #[.val (.int p0)] [])) rfl (hb hby own_d1_31)
          obtain ⟨fs, hr, hrun, hended, hW, hsame⟩ := X305.leave (v := some (.ref x3)) (fun h => by rw [Bd.returns] at h; cases h)
          refine ⟨_, _, pre303 _ ?_, hrun, hended, _, _, rfl, ?_, ⟨_, rfl⟩, hW, hsame.mono (by decide) (by decide)⟩
          · show Steps p.tables e below (s₁.setTop (mkF m 28 #[.val (.int p0)] [(.int (3 : Int32)), (.int p0)])) _
            refine XS.icmpNo X0.here hx rfl (hb hby own_d1_28) rfl (teq hc304).2 ?_
            show Steps p.tables e below (s₁.setTop (mkF m 31 #[.val (.int p0)] [])) _
            refine st305 _ ?_
            show Steps p.tables e below (T305.setTop (mkF m 34 #[.val (.int p0)] [(.ref x3)])) _
            exact retOut X305 hx (t := (.object "com/example/thyme/thyme/lang/ExpressionResolver$Context")) (i := .areturn) Bd.returns rfl (Or.inr (Or.inr (Or.inr (Or.inr ⟨rfl, rfl, rfl⟩)))) (hb hby own_d1_34) hr
          · show own_Q1 Z p0 x0 x1 x2 x3 x4 x5 x6 x7 h0 n0 _ T305.heap _
            rw [e305]
            exact ⟨x3, rfl, N0, rfl⟩
        · have pre306 : ∀ t, Steps p.tables e below (s₁.setTop (mkF m 37 #[.val (.int p0)] [(.int (4 : Int32)), (.int p0)])) t → Steps p.tables e below (s₁.setTop (entryFrame m #[(.int p0)] 1)) t := fun t kk => pre303 t (by
            show Steps p.tables e below (s₁.setTop (mkF m 28 #[.val (.int p0)] [(.int (3 : Int32)), (.int p0)])) _
            refine XS.icmpYes X0.here hx rfl (pc0 := 28) (pc' := 35) rfl (hb hby own_d1_28) rfl (feq hc304).2 (by decide) (by decide) ?_
            show Steps p.tables e below (s₁.setTop (mkF m 35 #[.val (.int p0)] [])) _
            refine XS.iloadN X0.here hx rfl (hb hby own_d1_35) rfl ?_
            show Steps p.tables e below (s₁.setTop (mkF m 36 #[.val (.int p0)] [(.int p0)])) _
            refine XS.iconst X0.here hx rfl (hb hby own_d1_36) ?_
            show Steps p.tables e below (s₁.setTop (mkF m 37 #[.val (.int p0)] [(.int (4 : Int32)), (.int p0)])) _
            exact kk)
          by_cases hc307 : p0 = (4 : Int32)
          · obtain ⟨T308, X308, e308, st308⟩ := getS2 X0 hx hZ hown (host := "") (Or.inl (hw _ (List.mem_of_getElem? (i := 66) rfl))) Via.refl e0 pr4 (g := (mkF m 40 #[.val (.int p0)] [])) rfl (hb hby own_d1_40)
            obtain ⟨fs, hr, hrun, hended, hW, hsame⟩ := X308.leave (v := some (.ref x4)) (fun h => by rw [Bd.returns] at h; cases h)
            refine ⟨_, _, pre306 _ ?_, hrun, hended, _, _, rfl, ?_, ⟨_, rfl⟩, hW, hsame.mono (by decide) (by decide)⟩
            · show Steps p.tables e below (s₁.setTop (mkF m 37 #[.val (.int p0)] [(.int (4 : Int32)), (.int p0)])) _
              refine XS.icmpNo X0.here hx rfl (hb hby own_d1_37) rfl (teq hc307).2 ?_
              show Steps p.tables e below (s₁.setTop (mkF m 40 #[.val (.int p0)] [])) _
              refine st308 _ ?_
              show Steps p.tables e below (T308.setTop (mkF m 43 #[.val (.int p0)] [(.ref x4)])) _
              exact retOut X308 hx (t := (.object "com/example/thyme/thyme/lang/ExpressionResolver$Context")) (i := .areturn) Bd.returns rfl (Or.inr (Or.inr (Or.inr (Or.inr ⟨rfl, rfl, rfl⟩)))) (hb hby own_d1_43) hr
            · show own_Q1 Z p0 x0 x1 x2 x3 x4 x5 x6 x7 h0 n0 _ T308.heap _
              rw [e308]
              exact ⟨x4, rfl, N0, rfl⟩
          · have pre309 : ∀ t, Steps p.tables e below (s₁.setTop (mkF m 46 #[.val (.int p0)] [(.int (5 : Int32)), (.int p0)])) t → Steps p.tables e below (s₁.setTop (entryFrame m #[(.int p0)] 1)) t := fun t kk => pre306 t (by
              show Steps p.tables e below (s₁.setTop (mkF m 37 #[.val (.int p0)] [(.int (4 : Int32)), (.int p0)])) _
              refine XS.icmpYes X0.here hx rfl (pc0 := 37) (pc' := 44) rfl (hb hby own_d1_37) rfl (feq hc307).2 (by decide) (by decide) ?_
              show Steps p.tables e below (s₁.setTop (mkF m 44 #[.val (.int p0)] [])) _
              refine XS.iloadN X0.here hx rfl (hb hby own_d1_44) rfl ?_
              show Steps p.tables e below (s₁.setTop (mkF m 45 #[.val (.int p0)] [(.int p0)])) _
              refine XS.iconst X0.here hx rfl (hb hby own_d1_45) ?_
              show Steps p.tables e below (s₁.setTop (mkF m 46 #[.val (.int p0)] [(.int (5 : Int32)), (.int p0)])) _
              exact kk)
            by_cases hc310 : p0 = (5 : Int32)
            · obtain ⟨T311, X311, e311, st311⟩ := getS2 X0 hx hZ hown (host := "") (Or.inl (hw _ (List.mem_of_getElem? (i := 172) rfl))) Via.refl e0 pr5 (g := (mkF m 49 #[.val (.int p0)] [])) rfl (hb hby own_d1_49)
              obtain ⟨fs, hr, hrun, hended, hW, hsame⟩ := X311.leave (v := some (.ref x5)) (fun h => by rw [Bd.returns] at h; cases h)
              refine ⟨_, _, pre309 _ ?_, hrun, hended, _, _, rfl, ?_, ⟨_, rfl⟩, hW, hsame.mono (by decide) (by decide)⟩
              · show Steps p.tables e below (s₁.setTop (mkF m 46 #[.val (.int p0)] [(.int (5 : Int32)), (.int p0)])) _
                refine XS.icmpNo X0.here hx rfl (hb hby own_d1_46) rfl (teq hc310).2 ?_
                show Steps p.tables e below (s₁.setTop (mkF m 49 #[.val (.int p0)] [])) _
                refine st311 _ ?_
                show Steps p.tables e below (T311.setTop (mkF m 52 #[.val (.int p0)] [(.ref x5)])) _
                exact retOut X311 hx (t := (.object "com/example/thyme/thyme/lang/ExpressionResolver$Context")) (i := .areturn) Bd.returns rfl (Or.inr (Or.inr (Or.inr (Or.inr ⟨rfl, rfl, rfl⟩)))) (hb hby own_d1_52) hr
              · show own_Q1 Z p0 x0 x1 x2 x3 x4 x5 x6 x7 h0 n0 _ T311.heap _
                rw [e311]
                exact ⟨x5, rfl, N0, rfl⟩
            · have pre312 : ∀ t, Steps p.tables e below (s₁.setTop (mkF m 56 #[.val (.int p0)] [(.int (6 : Int32)), (.int p0)])) t → Steps p.tables e below (s₁.setTop (entryFrame m #[(.int p0)] 1)) t := fun t kk => pre309 t (by
                show Steps p.tables e below (s₁.setTop (mkF m 46 #[.val (.int p0)] [(.int (5 : Int32)), (.int p0)])) _
                refine XS.icmpYes X0.here hx rfl (pc0 := 46) (pc' := 53) rfl (hb hby own_d1_46) rfl (feq hc310).2 (by decide) (by decide) ?_
                show Steps p.tables e below (s₁.setTop (mkF m 53 #[.val (.int p0)] [])) _
                refine XS.iloadN X0.here hx rfl (hb hby own_d1_53) rfl ?_
                show Steps p.tables e below (s₁.setTop (mkF m 54 #[.val (.int p0)] [(.int p0)])) _
                refine XS.bipush X0.here hx rfl (hb hby own_d1_54) ?_
                show Steps p.tables e below (s₁.setTop (mkF m 56 #[.val (.int p0)] [(.int (6 : Int32)), (.int p0)])) _
                exact kk)
              by_cases hc313 : p0 = (6 : Int32)
              · obtain ⟨T314, X314, e314, st314⟩ := getS2 X0 hx hZ hown (host := "") (Or.inl (hw _ (List.mem_of_getElem? (i := 178) rfl))) Via.refl e0 pr6 (g := (mkF m 59 #[.val (.int p0)] [])) rfl (hb hby own_d1_59)
                obtain ⟨fs, hr, hrun, hended, hW, hsame⟩ := X314.leave (v := some (.ref x6)) (fun h => by rw [Bd.returns] at h; cases h)
                refine ⟨_, _, pre312 _ ?_, hrun, hended, _, _, rfl, ?_, ⟨_, rfl⟩, hW, hsame.mono (by decide) (by decide)⟩
                · show Steps p.tables e below (s₁.setTop (mkF m 56 #[.val (.int p0)] [(.int (6 : Int32)), (.int p0)])) _
                  refine XS.icmpNo X0.here hx rfl (hb hby own_d1_56) rfl (teq hc313).2 ?_
                  show Steps p.tables e below (s₁.setTop (mkF m 59 #[.val (.int p0)] [])) _
                  refine st314 _ ?_
                  show Steps p.tables e below (T314.setTop (mkF m 62 #[.val (.int p0)] [(.ref x6)])) _
                  exact retOut X314 hx (t := (.object "com/example/thyme/thyme/lang/ExpressionResolver$Context")) (i := .areturn) Bd.returns rfl (Or.inr (Or.inr (Or.inr (Or.inr ⟨rfl, rfl, rfl⟩)))) (hb hby own_d1_62) hr
                · show own_Q1 Z p0 x0 x1 x2 x3 x4 x5 x6 x7 h0 n0 _ T314.heap _
                  rw [e314]
                  exact ⟨x6, rfl, N0, rfl⟩
              · obtain ⟨T315, X315, e315, st315⟩ := getS2 X0 hx hZ hown (host := "") (Or.inl (hw _ (List.mem_of_getElem? (i := 174) rfl))) Via.refl e0 pr7 (g := (mkF m 63 #[.val (.int p0)] [])) rfl (hb hby own_d1_63)
                obtain ⟨fs, hr, hrun, hended, hW, hsame⟩ := X315.leave (v := some (.ref x7)) (fun h => by rw [Bd.returns] at h; cases h)
                refine ⟨_, _, pre312 _ ?_, hrun, hended, _, _, rfl, ?_, ⟨_, rfl⟩, hW, hsame.mono (by decide) (by decide)⟩
                · show Steps p.tables e below (s₁.setTop (mkF m 56 #[.val (.int p0)] [(.int (6 : Int32)), (.int p0)])) _
                  refine XS.icmpYes X0.here hx rfl (pc0 := 56) (pc' := 63) rfl (hb hby own_d1_56) rfl (feq hc313).2 (by decide) (by decide) ?_
                  show Steps p.tables e below (s₁.setTop (mkF m 63 #[.val (.int p0)] [])) _
                  refine st315 _ ?_
                  show Steps p.tables e below (T315.setTop (mkF m 66 #[.val (.int p0)] [(.ref x7)])) _
                  exact retOut X315 hx (t := (.object "com/example/thyme/thyme/lang/ExpressionResolver$Context")) (i := .areturn) Bd.returns rfl (Or.inr (Or.inr (Or.inr (Or.inr ⟨rfl, rfl, rfl⟩)))) (hb hby own_d1_66) hr
                · show own_Q1 Z p0 x0 x1 x2 x3 x4 x5 x6 x7 h0 n0 _ T315.heap _
                  rw [e315]
                  exact ⟨x7, rfl, N0, rfl⟩
theorem own_d10_0 : decode jdk_30_method_1_code 0 = .ok (.aload_n 0, 1) := by decide +kernel
theorem own_d10_1 : decode jdk_30_method_1_code 1 = .ok (.invokespecial 1, 3) := by decide +kernel
theorem own_d10_4 : decode jdk_30_method_1_code 4 = .ok (.return_, 1) := by decide +kernel
theorem own_pn231 : plainName "java/lang/Record" = true := by first | (simp [plainName, overriddenIn]; done) | decide +kernel
theorem own_ef10 (m : MethodId) (a0 : Addr) : entryFrame m #[(.ref a0)] 1 = mkF m 0 #[.val (.ref a0)] [] := by first | (simp [entryFrame, mkF, argsToLocals, Value.category]; done) | rfl
def own_Q10 (Z : State) (a0 : Addr) (h0 : Heap) (n0 : Nat) (v : Option Value) (h : Heap) (L : List Loc) : Prop := v = none ∧ Fr n0 L ∧ h = h0
set_option maxRecDepth 65536 in
set_option maxHeartbeats 40000000 in
theorem own_rm10 (l : Launch) (Z : State) (av : Array Value) (hw : ∀ d ∈ tables_1, d.before av Z = true) (ws : List Jvm.Cond) (a0 : Addr) (h0 : Heap) (n0 : Nat) (Z0 : n0 ≤ h0.size) :
    MetFree l (⟨"java/lang/Record", "<init>", "()V"⟩ : MethodName) (head1 (Jvm.Cond.code (⟨"java/lang/Record", "<init>", "()V"⟩ : MethodName) jdk_30_method_1_code 1 none :: ws) ({ frames := 1, cells := 0, slots := 0, locals := 12 } : Room)) (fun a U => a = #[(.ref a0)] ∧ Z.Warmed39 U.vm ∧ U.heap = h0) (fun _ _ _ _ _ => True) (fun _ U o U' => ∃ v L, o = .returned v ∧ own_Q10 Z a0 h0 n0 v U'.heap L ∧ FrameEnd U o U' L ({ frames := 1, cells := 0, slots := 0, locals := 12 } : Room).cells ({ frames := 1, cells := 0, slots := 0, locals := 12 } : Room).slots) := by
  refine MetFree.of_bodySF (plainFor_of_name own_pn231) hisR ?_
  intro p e s m args below meth c s₁ Bd hml0 hP hK
  obtain ⟨rfl, hZ, hh⟩ := hP
  have hx := Bd.exec
  have hby := Bd.bytes
  have hml : c.maxLocals = 1 := hml0
  have hown : s.vm.findClass "java/lang/Record" = some m.cls := findClass_of_methodNamed Bd.named
  have hnm := (name_of_methodNamed Bd.named Bd.method).1
  have X0 : Stand p l e ({ frames := 1, cells := 0, slots := 0, locals := 12 } : Room) s m #[(.ref a0)] below meth c s₁ [] 0 0 := Stand.of_body Bd
  have e0 : s₁.heap = h0 := by rw [← hh, Bd.state]; rfl
  have N0 := Fr.nil n0
  have pre0 : ∀ t, Steps p.tables e below (s₁.setTop (mkF m 0 #[.val (.ref a0)] [])) t → Steps p.tables e below (s₁.setTop (entryFrame m #[(.ref a0)] 1)) t := fun t k => castTop (own_ef10 m a0) k
  obtain ⟨T316, X316, e316, st316⟩ := initO X0 hx hZ hown (hw _ (List.mem_of_getElem? (i := 51) rfl)) (hw _ (List.mem_of_getElem? (i := 22) rfl)) (hw _ (List.mem_of_getElem? (i := 23) rfl)) e0 (g := (mkF m 1 #[.val (.ref a0)] [(.ref a0)])) rfl (by rw [hml]; rfl) rfl (hb hby own_d10_1) (by decide) (W := 0) (by show 2 * 0 + _ ≤ _; exact Nat.le_of_eq rfl) (by decide)
  obtain ⟨fs, hr, hrun, hended, hW, hsame⟩ := X316.leave (v := none) (fun _ => rfl)
  refine ⟨_, _, pre0 _ ?_, hrun, hended, _, _, rfl, ?_, ⟨_, rfl⟩, hW, hsame.mono (by decide) (by decide)⟩
  · show Steps p.tables e below (s₁.setTop (mkF m 0 #[.val (.ref a0)] [])) _
    refine XS.aloadN X0.here hx rfl (hb hby own_d10_0) rfl rfl ?_
    show Steps p.tables e below (s₁.setTop (mkF m 1 #[.val (.ref a0)] [(.ref a0)])) _
    refine st316 _ ?_
    show Steps p.tables e below (T316.setTop (mkF m 4 #[.val (.ref a0)] [])) _
    exact X316.returnOut hx Bd.returns (hb hby own_d10_4) hr
  · show own_Q10 Z a0 h0 n0 _ T316.heap _
    rw [e316]
    exact ⟨rfl, N0, rfl⟩
theorem own_d9_0 : decode prog_78_method_1_code 0 = .ok (.aload_n 0, 1) := by decide +kernel
theorem own_pd10 : parseMethodDescriptor "()V" = some ⟨[], none⟩ := by decide +kernel
theorem own_d9_1 : decode prog_78_method_1_code 1 = .ok (.invokespecial 1, 3) := by decide +kernel
theorem own_d9_4 : decode prog_78_method_1_code 4 = .ok (.aload_n 0, 1) := by decide +kernel
theorem own_d9_5 : decode prog_78_method_1_code 5 = .ok (.aload_n 1, 1) := by decide +kernel
theorem own_d9_6 : decode prog_78_method_1_code 6 = .ok (.putfield 7, 3) := by decide +kernel
theorem own_d9_9 : decode prog_78_method_1_code 9 = .ok (.aload_n 0, 1) := by decide +kernel
theorem own_d9_10 : decode prog_78_method_1_code 10 = .ok (.aload_n 2, 1) := by decide +kernel
theorem own_d9_11 : decode prog_78_method_1_code 11 = .ok (.putfield 13, 3) := by decide +kernel
theorem own_d9_14 : decode prog_78_method_1_code 14 = .ok (.aload_n 0, 1) := by decide +kernel
theorem own_d9_15 : decode prog_78_method_1_code 15 = .ok (.aload_n 3, 1) := by decide +kernel
theorem own_d9_16 : decode prog_78_method_1_code 16 = .ok (.putfield 17, 3) := by decide +kernel
theorem own_d9_19 : decode prog_78_method_1_code 19 = .ok (.return_, 1) := by decide +kernel
theorem own_pn244 : plainName "com/example/thyme/thyme/lang/ExpressionResolver$Scope" = true := by first | (simp [plainName, overriddenIn]; done) | decide +kernel
theorem own_efSc00 (m : MethodId) (a0 : Addr) (a1 : Addr) : entryFrame m #[(.ref a0), (.ref a1), .null, .null] 4 = mkF m 0 #[.val (.ref a0), .val (.ref a1), .val .null, .val .null] [] := by first | (simp [entryFrame, mkF, argsToLocals, Value.category]; done) | rfl
def own_QSc00 (Z : State) (a0 : Addr) (a1 : Addr) (h0 : Heap) (n0 : Nat) (v : Option Value) (h : Heap) (L : List Loc) : Prop := v = none ∧ Fr n0 L ∧ Keep h0 h [a0] ∧ (Exa Z h a0 "com/example/thyme/thyme/lang/ExpressionResolver$Scope") ∧ (Fld Z h a0 "com/example/thyme/thyme/lang/ExpressionResolver$Scope" "locals" "Lcom/example/thyme/thyme/lang/Symbols$Locals;" .null)
set_option maxRecDepth 65536 in
set_option maxHeartbeats 40000000 in
theorem own_rmSc00 (l : Launch) (Z : State) (av : Array Value) (hw : ∀ d ∈ tables_1, d.before av Z = true) (ws : List Jvm.Cond) (a0 : Addr) (a1 : Addr) (h0 : Heap) (n0 : Nat) (Z0 : n0 ≤ h0.size) (pr0 : Exa Z h0 a0 "com/example/thyme/thyme/lang/ExpressionResolver$Scope") (pr1 : Fld Z h0 a0 "com/example/thyme/thyme/lang/ExpressionResolver$Scope" "context" "Lcom/example/thyme/thyme/lang/ExpressionResolver$Context;" .null) (pr2 : Fld Z h0 a0 "com/example/thyme/thyme/lang/ExpressionResolver$Scope" "constant" "Ljava/lang/String;" .null) (pr3 : Fld Z h0 a0 "com/example/thyme/thyme/lang/ExpressionResolver$Scope" "locals" "Lcom/example/thyme/thyme/lang/Symbols$Locals;" .null) (g_a0 : n0 ≤ a0) :
    MetFree l (⟨"com/example/thyme/thyme/lang/ExpressionResolver$Scope", "<init>", "(Lcom/example/thyme/thyme/lang/ExpressionResolver$Context;Ljava/lang/String;Lcom/example/thyme/thyme/lang/Symbols$Locals;)V"⟩ : MethodName) (head1 (Jvm.Cond.code (⟨"com/example/thyme/thyme/lang/ExpressionResolver$Scope", "<init>", "(Lcom/example/thyme/thyme/lang/ExpressionResolver$Context;Ljava/lang/String;Lcom/example/thyme/thyme/lang/Symbols$Locals;)V"⟩ : MethodName) prog_78_method_1_code 4 none :: ws) ({ frames := 2, cells := 0, slots := 0, locals := 24 } : Room)) (fun a U => a = #[(.ref a0), (.ref a1), .null, .null] ∧ Z.Warmed39 U.vm ∧ U.heap = h0) (fun _ _ _ _ _ => True) (fun _ U o U' => ∃ v L, o = .returned v ∧ own_QSc00 Z a0 a1 h0 n0 v U'.heap L ∧ FrameEnd U o U' L ({ frames := 2, cells := 0, slots := 0, locals := 24 } : Room).cells ({ frames := 2, cells := 0, slots := 0, locals := 24 } : Room).slots) := by
  refine MetFree.of_bodySF (plainFor_of_name own_pn244) hisR ?_
  intro p e s m args below meth c s₁ Bd hml0 hP hK
  obtain ⟨rfl, hZ, hh⟩ := hP
  have hx := Bd.exec
  have hby := Bd.bytes
  have hml : c.maxLocals = 4 := hml0
  have hown : s.vm.findClass "com/example/thyme/thyme/lang/ExpressionResolver$Scope" = some m.cls := findClass_of_methodNamed Bd.named
  have hnm := (name_of_methodNamed Bd.named Bd.method).1
  have X0 : Stand p l e ({ frames := 2, cells := 0, slots := 0, locals := 24 } : Room) s m #[(.ref a0), (.ref a1), .null, .null] below meth c s₁ [] 0 0 := Stand.of_body Bd
  have e0 : s₁.heap = h0 := by rw [← hh, Bd.state]; rfl
  have N0 := Fr.nil n0
  have pre0 : ∀ t, Steps p.tables e below (s₁.setTop (mkF m 0 #[.val (.ref a0), .val (.ref a1), .val .null, .val .null] [])) t → Steps p.tables e below (s₁.setTop (entryFrame m #[(.ref a0), (.ref a1), .null, .null] 4)) t := fun t k => castTop (own_efSc00 m a0 a1) k
  obtain ⟨_, _, ⟨T317, L317, k317, n317⟩, -, X317, ⟨Lc317, hQ317, l317, y317, z317⟩, st317⟩ := X0.specialBack hx (y := (⟨"java/lang/Record", "<init>", "()V"⟩ : MethodName)) rfl hown (mvT hZ (hw _ (List.mem_of_getElem? (i := 46) rfl))) (mvT hZ (hw _ (List.mem_of_getElem? (i := 47) rfl))) (mvT hZ (hw _ (List.mem_of_getElem? (i := 50) rfl))) (by decide) (backOf (W := 0) (own_rm10 l Z av hw [] a0 h0 n0 Z0 ) hZ (hw _ (List.mem_of_getElem? (i := 50) rfl)) (hw _ (List.mem_of_getElem? (i := 49) rfl)) (by decide) (by decide)) (g := (mkF m 1 #[.val (.ref a0), .val (.ref a1), .val .null, .val .null] [(.ref a0)])) rfl (by rw [hml]; rfl) (Steps.refl _) (a := a0) (argsL := []) (rest := []) (lenOf own_pd10 rfl) rfl (by show 2 * 0 + _ ≤ _; exact Nat.le_of_eq rfl) (hb hby own_d9_1) (fun _ _ => ⟨rfl, e0, (by decide : 0 + 0 ≤ _), (by decide : 0 + 0 ≤ _)⟩)
  dsimp only [Pt.U, Pt.locs, Pt.cells, Pt.slots] at X317 l317 y317 z317 st317 hQ317
  subst l317 y317 z317
  obtain ⟨rfl, N317q, e319⟩ := hQ317
  have N318 := Fr.app N0 N317q
  obtain ⟨T320, h320, X320, e320, W320, st320⟩ := putF X317 hx hZ hown (host := "") (Or.inl (hw _ (List.mem_of_getElem? (i := 52) rfl))) Via.refl e319 pr1 pr0 (Or.inr ⟨(hw _ (List.mem_of_getElem? (i := 53) rfl)), rfl, hnm⟩) (hw _ (List.mem_of_getElem? (i := 41) rfl)) (ty := (.object "com/example/thyme/thyme/lang/ExpressionResolver$Context")) (by decide) rfl rfl (g := (mkF m 6 #[.val (.ref a0), .val (.ref a1), .val .null, .val .null] [(.ref a1), (.ref a0)])) rfl rfl (hb hby own_d9_6)
  have f321 := pr0.wr W320
  have f322 := pr2.other W320 (Or.inr (slot_ne (Or.inr (hw _ (List.mem_of_getElem? (i := 55) rfl))) (Or.inr (hw _ (List.mem_of_getElem? (i := 53) rfl))) (by decide) (t := (.object "java/lang/String")) (t' := (.object "com/example/thyme/thyme/lang/ExpressionResolver$Context")) (by decide) (by decide)))
  have f323 := pr3.other W320 (Or.inr (slot_ne (Or.inr (hw _ (List.mem_of_getElem? (i := 57) rfl))) (Or.inr (hw _ (List.mem_of_getElem? (i := 53) rfl))) (by decide) (t := (.object "com/example/thyme/thyme/lang/Symbols$Locals")) (t' := (.object "com/example/thyme/thyme/lang/ExpressionResolver$Context")) (by decide) (by decide)))
  have K324 : Keep h0 h320 [a0] := (Keep.refl h0 [a0]).wr W320 (Or.inl (List.mem_of_getElem? (i := 0) rfl))
  have z325 : n0 ≤ h320.size := Nat.le_trans Z0 (Keep.of_wr W320).1
  have N326 := Fr.snoc X320 N318 g_a0
  have f327 : Fld Z h320 a0 "com/example/thyme/thyme/lang/ExpressionResolver$Scope" "context" "Lcom/example/thyme/thyme/lang/ExpressionResolver$Context;" (.ref a1) := pr1.same W320
  obtain ⟨T328, h328, X328, e328, W328, st328⟩ := putF X320 hx hZ hown (host := "") (Or.inl (hw _ (List.mem_of_getElem? (i := 54) rfl))) Via.refl e320 f322 f321 (Or.inr ⟨(hw _ (List.mem_of_getElem? (i := 55) rfl)), rfl, hnm⟩) (hw _ (List.mem_of_getElem? (i := 41) rfl)) (ty := (.object "java/lang/String")) (by decide) rfl rfl (g := (mkF m 11 #[.val (.ref a0), .val (.ref a1), .val .null, .val .null] [.null, (.ref a0)])) rfl rfl (hb hby own_d9_11)
  have f329 := f321.wr W328
  have f330 := f327.other W328 (Or.inr (slot_ne (Or.inr (hw _ (List.mem_of_getElem? (i := 53) rfl))) (Or.inr (hw _ (List.mem_of_getElem? (i := 55) rfl))) (by decide) (t := (.object "com/example/thyme/thyme/lang/ExpressionResolver$Context")) (t' := (.object "java/lang/String")) (by decide) (by decide)))
  have f331 := f323.other W328 (Or.inr (slot_ne (Or.inr (hw _ (List.mem_of_getElem? (i := 57) rfl))) (Or.inr (hw _ (List.mem_of_getElem? (i := 55) rfl))) (by decide) (t := (.object "com/example/thyme/thyme/lang/Symbols$Locals")) (t' := (.object "java/lang/String")) (by decide) (by decide)))
  have K332 : Keep h0 h328 [a0] := K324.wr W328 (Or.inl (List.mem_of_getElem? (i := 0) rfl))
  have z333 : n0 ≤ h328.size := Nat.le_trans z325 (Keep.of_wr W328).1
  have N334 := Fr.snoc X328 N326 g_a0
  have f335 : Fld Z h328 a0 "com/example/thyme/thyme/lang/ExpressionResolver$Scope" "constant" "Ljava/lang/String;" .null := f322.same W328
  obtain ⟨T336, h336, X336, e336, W336, st336⟩ := putF X328 hx hZ hown (host := "") (Or.inl (hw _ (List.mem_of_getElem? (i := 56) rfl))) Via.refl e328 f331 f329 (Or.inr ⟨(hw _ (List.mem_of_getElem? (i := 57) rfl)), rfl, hnm⟩) (hw _ (List.mem_of_getElem? (i := 41) rfl)) (ty := (.object "com/example/thyme/thyme/lang/Symbols$Locals")) (by decide) rfl rfl (g := (mkF m 16 #[.val (.ref a0), .val (.ref a1), .val .null, .val .null] [.null, (.ref a0)])) rfl rfl (hb hby own_d9_16)
  have f337 := f329.wr W336
  have f338 := f330.other W336 (Or.inr (slot_ne (Or.inr (hw _ (List.mem_of_getElem? (i := 53) rfl))) (Or.inr (hw _ (List.mem_of_getElem? (i := 57) rfl))) (by decide) (t := (.object "com/example/thyme/thyme/lang/ExpressionResolver$Context")) (t' := (.object "com/example/thyme/thyme/lang/Symbols$Locals")) (by decide) (by decide)))
  have f339 := f335.other W336 (Or.inr (slot_ne (Or.inr (hw _ (List.mem_of_getElem? (i := 55) rfl))) (Or.inr (hw _ (List.mem_of_getElem? (i := 57) rfl))) (by decide) (t := (.object "java/lang/String")) (t' := (.object "com/example/thyme/thyme/lang/Symbols$Locals")) (by decide) (by decide)))
  have K340 : Keep h0 h336 [a0] := K332.wr W336 (Or.inl (List.mem_of_getElem? (i := 0) rfl))
  have z341 : n0 ≤ h336.size := Nat.le_trans z333 (Keep.of_wr W336).1
  have N342 := Fr.snoc X336 N334 g_a0
  have f343 : Fld Z h336 a0 "com/example/thyme/thyme/lang/ExpressionResolver$Scope" "locals" "Lcom/example/thyme/thyme/lang/Symbols$Locals;" .null := f331.same W336
  obtain ⟨fs, hr, hrun, hended, hW, hsame⟩ := X336.leave (v := none) (fun _ => rfl)
  refine ⟨_, _, pre0 _ ?_, hrun, hended, _, _, rfl, ?_, ⟨_, rfl⟩, hW, hsame.mono (by decide) (by decide)⟩
  · show Steps p.tables e below (s₁.setTop (mkF m 0 #[.val (.ref a0), .val (.ref a1), .val .null, .val .null] [])) _
    refine XS.aloadN X0.here hx rfl (hb hby own_d9_0) rfl rfl ?_
    show Steps p.tables e below (s₁.setTop (mkF m 1 #[.val (.ref a0), .val (.ref a1), .val .null, .val .null] [(.ref a0)])) _
    refine st317.trans ?_
    show Steps p.tables e below (T317.setTop (mkF m 4 #[.val (.ref a0), .val (.ref a1), .val .null, .val .null] [])) _
    refine XS.aloadN X317.here hx rfl (hb hby own_d9_4) rfl rfl ?_
    show Steps p.tables e below (T317.setTop (mkF m 5 #[.val (.ref a0), .val (.ref a1), .val .null, .val .null] [(.ref a0)])) _
    refine XS.aloadN X317.here hx rfl (hb hby own_d9_5) rfl rfl ?_
    show Steps p.tables e below (T317.setTop (mkF m 6 #[.val (.ref a0), .val (.ref a1), .val .null, .val .null] [(.ref a1), (.ref a0)])) _
    refine st320 _ ?_
    show Steps p.tables e below (T320.setTop (mkF m 9 #[.val (.ref a0), .val (.ref a1), .val .null, .val .null] [])) _
    refine XS.aloadN X320.here hx rfl (hb hby own_d9_9) rfl rfl ?_
    show Steps p.tables e below (T320.setTop (mkF m 10 #[.val (.ref a0), .val (.ref a1), .val .null, .val .null] [(.ref a0)])) _
    refine XS.aloadN X320.here hx rfl (hb hby own_d9_10) rfl rfl ?_
    show Steps p.tables e below (T320.setTop (mkF m 11 #[.val (.ref a0), .val (.ref a1), .val .null, .val .null] [.null, (.ref a0)])) _
    refine st328 _ ?_
    show Steps p.tables e below (T328.setTop (mkF m 14 #[.val (.ref a0), .val (.ref a1), .val .null, .val .null] [])) _
    refine XS.aloadN X328.here hx rfl (hb hby own_d9_14) rfl rfl ?_
    show Steps p.tables e below (T328.setTop (mkF m 15 #[.val (.ref a0), .val (.ref a1), .val .null, .val .null] [(.ref a0)])) _
    refine XS.aloadN X328.here hx rfl (hb hby own_d9_15) rfl rfl ?_
    show Steps p.tables e below (T328.setTop (mkF m 16 #[.val (.ref a0), .val (.ref a1), .val .null, .val .null] [.null, (.ref a0)])) _
    refine st336 _ ?_
    show Steps p.tables e below (T336.setTop (mkF m 19 #[.val (.ref a0), .val (.ref a1), .val .null, .val .null] [])) _
    exact X336.returnOut hx Bd.returns (hb hby own_d9_19) hr
  · show own_QSc00 Z a0 a1 h0 n0 _ T336.heap _
    rw [e336]
    exact ⟨rfl, N342, K340, f337, f343⟩
theorem own_efSc01 (m : MethodId) (a0 : Addr) (a1 : Addr) (a3 : Addr) : entryFrame m #[(.ref a0), (.ref a1), .null, (.ref a3)] 4 = mkF m 0 #[.val (.ref a0), .val (.ref a1), .val .null, .val (.ref a3)] [] := by first | (simp [entryFrame, mkF, argsToLocals, Value.category]; done) | rfl
def own_QSc01 (Z : State) (a0 : Addr) (a1 : Addr) (a3 : Addr) (h0 : Heap) (n0 : Nat) (v : Option Value) (h : Heap) (L : List Loc) : Prop := v = none ∧ Fr n0 L ∧ Keep h0 h [a0] ∧ (Exa Z h a0 "com/example/thyme/thyme/lang/ExpressionResolver$Scope") ∧ (Fld Z h a0 "com/example/thyme/thyme/lang/ExpressionResolver$Scope" "locals" "Lcom/example/thyme/thyme/lang/Symbols$Locals;" (.ref a3))
set_option maxRecDepth 65536 in
set_option maxHeartbeats 40000000 in
theorem own_rmSc01 (l : Launch) (Z : State) (av : Array Value) (hw : ∀ d ∈ tables_1, d.before av Z = true) (ws : List Jvm.Cond) (a0 : Addr) (a1 : Addr) (a3 : Addr) (h0 : Heap) (n0 : Nat) (Z0 : n0 ≤ h0.size) (pr0 : Exa Z h0 a0 "com/example/thyme/thyme/lang/ExpressionResolver$Scope") (pr1 : Fld Z h0 a0 "com/example/thyme/thyme/lang/ExpressionResolver$Scope" "context" "Lcom/example/thyme/thyme/lang/ExpressionResolver$Context;" .null) (pr2 : Fld Z h0 a0 "com/example/thyme/thyme/lang/ExpressionResolver$Scope" "constant" "Ljava/lang/String;" .null) (pr3 : Fld Z h0 a0 "com/example/thyme/thyme/lang/ExpressionResolver$Scope" "locals" "Lcom/example/thyme/thyme/lang/Symbols$Locals;" .null) (g_a0 : n0 ≤ a0) :
    MetFree l (⟨"com/example/thyme/thyme/lang/ExpressionResolver$Scope", "<init>", "(Lcom/example/thyme/thyme/lang/ExpressionResolver$Context;Ljava/lang/String;Lcom/example/thyme/thyme/lang/Symbols$Locals;)V"⟩ : MethodName) (head1 (Jvm.Cond.code (⟨"com/example/thyme/thyme/lang/ExpressionResolver$Scope", "<init>", "(Lcom/example/thyme/thyme/lang/ExpressionResolver$Context;Ljava/lang/String;Lcom/example/thyme/thyme/lang/Symbols$Locals;)V"⟩ : MethodName) prog_78_method_1_code 4 none :: ws) ({ frames := 2, cells := 0, slots := 0, locals := 24 } : Room)) (fun a U => a = #[(.ref a0), (.ref a1), .null, (.ref a3)] ∧ Z.Warmed39 U.vm ∧ U.heap = h0) (fun _ _ _ _ _ => True) (fun _ U o U' => ∃ v L, o = .returned v ∧ own_QSc01 Z a0 a1 a3 h0 n0 v U'.heap L ∧ FrameEnd U o U' L ({ frames := 2, cells := 0, slots := 0, locals := 24 } : Room).cells ({ frames := 2, cells := 0, slots := 0, locals := 24 } : Room).slots) := by
  refine MetFree.of_bodySF (plainFor_of_name own_pn244) hisR ?_
  intro p e s m args below meth c s₁ Bd hml0 hP hK
  obtain ⟨rfl, hZ, hh⟩ := hP
  have hx := Bd.exec
  have hby := Bd.bytes
  have hml : c.maxLocals = 4 := hml0
  have hown : s.vm.findClass "com/example/thyme/thyme/lang/ExpressionResolver$Scope" = some m.cls := findClass_of_methodNamed Bd.named
  have hnm := (name_of_methodNamed Bd.named Bd.method).1
  have X0 : Stand p l e ({ frames := 2, cells := 0, slots := 0, locals := 24 } : Room) s m #[(.ref a0), (.ref a1), .null, (.ref a3)] below meth c s₁ [] 0 0 := Stand.of_body Bd
  have e0 : s₁.heap = h0 := by rw [← hh, Bd.state]; rfl
  have N0 := Fr.nil n0
  have pre0 : ∀ t, Steps p.tables e below (s₁.setTop (mkF m 0 #[.val (.ref a0), .val (.ref a1), .val .null, .val (.ref a3)] [])) t → Steps p.tables e below (s₁.setTop (entryFrame m #[(.ref a0), (.ref a1), .null, (.ref a3)] 4)) t := fun t k => castTop (own_efSc01 m a0 a1 a3) k
  obtain ⟨_, _, ⟨T344, L344, k344, n344⟩, -, X344, ⟨Lc344, hQ344, l344, y344, z344⟩, st344⟩ := X0.specialBack hx (y := (⟨"java/lang/Record", "<init>", "()V"⟩ : MethodName)) rfl hown (mvT hZ (hw _ (List.mem_of_getElem? (i := 46) rfl))) (mvT hZ (hw _ (List.mem_of_getElem? (i := 47) rfl))) (mvT hZ (hw _ (List.mem_of_getElem? (i := 50) rfl))) (by decide) (backOf (W := 0) (own_rm10 l Z av hw [] a0 h0 n0 Z0 ) hZ (hw _ (List.mem_of_getElem? (i := 50) rfl)) (hw _ (List.mem_of_getElem? (i := 49) rfl)) (by decide) (by decide)) (g := (mkF m 1 #[.val (.ref a0), .val (.ref a1), .val .null, .val (.ref a3)] [(.ref a0)])) rfl (by rw [hml]; rfl) (Steps.refl _) (a := a0) (argsL := []) (rest := []) (lenOf own_pd10 rfl) rfl (by show 2 * 0 + _ ≤ _; exact Nat.le_of_eq rfl) (hb hby own_d9_1) (fun _ _ => ⟨rfl, e0, (by decide : 0 + 0 ≤ _), (by decide : 0 + 0 ≤ _)⟩)
  dsimp only [Pt.U, Pt.locs, Pt.cells, Pt.slots] at X344 l344 y344 z344 st344 hQ344
  subst l344 y344 z344
  obtain ⟨rfl, N344q, e346⟩ := hQ344
  have N345 := Fr.app N0 N344q
  obtain ⟨T347, h347, X347, e347, W347, st347⟩ := putF X344 hx hZ hown (host := "") (Or.inl (hw _ (List.mem_of_getElem? (i := 52) rfl))) Via.refl e346 pr1 pr0 (Or.inr ⟨(hw _ (List.mem_of_getElem? (i := 53) rfl)), rfl, hnm⟩) (hw _ (List.mem_of_getElem? (i := 41) rfl)) (ty := (.object "com/example/thyme/thyme/lang/ExpressionResolver$Context")) (by decide) rfl rfl (g := (mkF m 6 #[.val (.ref a0), .val (.ref a1), .val .null, .val (.ref a3)] [(.ref a1), (.ref a0)])) rfl rfl (hb hby own_d9_6)
  have f348 := pr0.wr W347
  have f349 := pr2.other W347 (Or.inr (slot_ne (Or.inr (hw _ (List.mem_of_getElem? (i := 55) rfl))) (Or.inr (hw _ (List.mem_of_getElem? (i := 53) rfl))) (by decide) (t := (.object "java/lang/String")) (t' := (.object "com/example/thyme/thyme/lang/ExpressionResolver$Context")) (by decide) (by decide)))
  have f350 := pr3.other W347 (Or.inr (slot_ne (Or.inr (hw _ (List.mem_of_getElem? (i := 57) rfl))) (Or.inr (hw _ (List.mem_of_getElem? (i := 53) rfl))) (by decide) (t := (.object "com/example/thyme/thyme/lang/Symbols$Locals")) (t' := (.object "com/example/thyme/thyme/lang/ExpressionResolver$Context")) (by decide) (by decide)))
  have K351 : Keep h0 h347 [a0] := (Keep.refl h0 [a0]).wr W347 (Or.inl (List.mem_of_getElem? (i := 0) rfl))
  have z352 : n0 ≤ h347.size := Nat.le_trans Z0 (Keep.of_wr W347).1
  have N353 := Fr.snoc X347 N345 g_a0
  have f354 : Fld Z h347 a0 "com/example/thyme/thyme/lang/ExpressionResolver$Scope" "context" "Lcom/example/thyme/thyme/lang/ExpressionResolver$Context;" (.ref a1) := pr1.same W347
  obtain ⟨T355, h355, X355, e355, W355, st355⟩ := putF X347 hx hZ hown (host := "") (Or.inl (hw _ (List.mem_of_getElem? (i := 54) rfl))) Via.refl e347 f349 f348 (Or.inr ⟨(hw _ (List.mem_of_getElem? (i := 55) rfl)), rfl, hnm⟩) (hw _ (List.mem_of_getElem? (i := 41) rfl)) (ty := (.object "java/lang/String")) (by decide) rfl rfl (g := (mkF m 11 #[.val (.ref a0), .val (.ref a1), .val .null, .val (.ref a3)] [.null, (.ref a0)])) rfl rfl (hb hby own_d9_11)
  have f356 := f348.wr W355
  have f357 := f354.other W355 (Or.inr (slot_ne (Or.inr (hw _ (List.mem_of_getElem? (i := 53) rfl))) (Or.inr (hw _ (List.mem_of_getElem? (i := 55) rfl))) (by decide) (t := (.object "com/example/thyme/thyme/lang/ExpressionResolver$Context")) (t' := (.object "java/lang/String")) (by decide) (by decide)))
  have f358 := f350.other W355 (Or.inr (slot_ne (Or.inr (hw _ (List.mem_of_getElem? (i := 57) rfl))) (Or.inr (hw _ (List.mem_of_getElem? (i := 55) rfl))) (by decide) (t := (.object "com/example/thyme/thyme/lang/Symbols$Locals")) (t' := (.object "java/lang/String")) (by decide) (by decide)))
  have K359 : Keep h0 h355 [a0] := K351.wr W355 (Or.inl (List.mem_of_getElem? (i := 0) rfl))
  have z360 : n0 ≤ h355.size := Nat.le_trans z352 (Keep.of_wr W355).1
  have N361 := Fr.snoc X355 N353 g_a0
  have f362 : Fld Z h355 a0 "com/example/thyme/thyme/lang/ExpressionResolver$Scope" "constant" "Ljava/lang/String;" .null := f349.same W355
  obtain ⟨T363, h363, X363, e363, W363, st363⟩ := putF X355 hx hZ hown (host := "") (Or.inl (hw _ (List.mem_of_getElem? (i := 56) rfl))) Via.refl e355 f358 f356 (Or.inr ⟨(hw _ (List.mem_of_getElem? (i := 57) rfl)), rfl, hnm⟩) (hw _ (List.mem_of_getElem? (i := 41) rfl)) (ty := (.object "com/example/thyme/thyme/lang/Symbols$Locals")) (by decide) rfl rfl (g := (mkF m 16 #[.val (.ref a0), .val (.ref a1), .val .null, .val (.ref a3)] [(.ref a3), (.ref a0)])) rfl rfl (hb hby own_d9_16)
  have f364 := f356.wr W363
  have f365 := f357.other W363 (Or.inr (slot_ne (Or.inr (hw _ (List.mem_of_getElem? (i := 53) rfl))) (Or.inr (hw _ (List.mem_of_getElem? (i := 57) rfl))) (by decide) (t := (.object "com/example/thyme/thyme/lang/ExpressionResolver$Context")) (t' := (.object "com/example/thyme/thyme/lang/Symbols$Locals")) (by decide) (by decide)))
  have f366 := f362.other W363 (Or.inr (slot_ne (Or.inr (hw _ (List.mem_of_getElem? (i := 55) rfl))) (Or.inr (hw _ (List.mem_of_getElem? (i := 57) rfl))) (by decide) (t := (.object "java/lang/String")) (t' := (.object "com/example/thyme/thyme/lang/Symbols$Locals")) (by decide) (by decide)))
  have K367 : Keep h0 h363 [a0] := K359.wr W363 (Or.inl (List.mem_of_getElem? (i := 0) rfl))
  have z368 : n0 ≤ h363.size := Nat.le_trans z360 (Keep.of_wr W363).1
  have N369 := Fr.snoc X363 N361 g_a0
  have f370 : Fld Z h363 a0 "com/example/thyme/thyme/lang/ExpressionResolver$Scope" "locals" "Lcom/example/thyme/thyme/lang/Symbols$Locals;" (.ref a3) := f358.same W363
  obtain ⟨fs, hr, hrun, hended, hW, hsame⟩ := X363.leave (v := none) (fun _ => rfl)
  refine ⟨_, _, pre0 _ ?_, hrun, hended, _, _, rfl, ?_, ⟨_, rfl⟩, hW, hsame.mono (by decide) (by decide)⟩
  · show Steps p.tables e below (s₁.setTop (mkF m 0 #[.val (.ref a0), .val (.ref a1), .val .null, .val (.ref a3)] [])) _
    refine XS.aloadN X0.here hx rfl (hb hby own_d9_0) rfl rfl ?_
    show Steps p.tables e below (s₁.setTop (mkF m 1 #[.val (.ref a0), .val (.ref a1), .val .null, .val (.ref a3)] [(.ref a0)])) _
    refine st344.trans ?_
    show Steps p.tables e below (T344.setTop (mkF m 4 #[.val (.ref a0), .val (.ref a1), .val .null, .val (.ref a3)] [])) _
    refine XS.aloadN X344.here hx rfl (hb hby own_d9_4) rfl rfl ?_
    show Steps p.tables e below (T344.setTop (mkF m 5 #[.val (.ref a0), .val (.ref a1), .val .null, .val (.ref a3)] [(.ref a0)])) _
    refine XS.aloadN X344.here hx rfl (hb hby own_d9_5) rfl rfl ?_
    show Steps p.tables e below (T344.setTop (mkF m 6 #[.val (.ref a0), .val (.ref a1), .val .null, .val (.ref a3)] [(.ref a1), (.ref a0)])) _
    refine st347 _ ?_
    show Steps p.tables e below (T347.setTop (mkF m 9 #[.val (.ref a0), .val (.ref a1), .val .null, .val (.ref a3)] [])) _
    refine XS.aloadN X347.here hx rfl (hb hby own_d9_9) rfl rfl ?_
    show Steps p.tables e below (T347.setTop (mkF m 10 #[.val (.ref a0), .val (.ref a1), .val .null, .val (.ref a3)] [(.ref a0)])) _
    refine XS.aloadN X347.here hx rfl (hb hby own_d9_10) rfl rfl ?_
    show Steps p.tables e below (T347.setTop (mkF m 11 #[.val (.ref a0), .val (.ref a1), .val .null, .val (.ref a3)] [.null, (.ref a0)])) _
    refine st355 _ ?_
    show Steps p.tables e below (T355.setTop (mkF m 14 #[.val (.ref a0), .val (.ref a1), .val .null, .val (.ref a3)] [])) _
    refine XS.aloadN X355.here hx rfl (hb hby own_d9_14) rfl rfl ?_
    show Steps p.tables e below (T355.setTop (mkF m 15 #[.val (.ref a0), .val (.ref a1), .val .null, .val (.ref a3)] [(.ref a0)])) _
    refine XS.aloadN X355.here hx rfl (hb hby own_d9_15) rfl rfl ?_
    show Steps p.tables e below (T355.setTop (mkF m 16 #[.val (.ref a0), .val (.ref a1), .val .null, .val (.ref a3)] [(.ref a3), (.ref a0)])) _
    refine st363 _ ?_
    show Steps p.tables e below (T363.setTop (mkF m 19 #[.val (.ref a0), .val (.ref a1), .val .null, .val (.ref a3)] [])) _
    exact X363.returnOut hx Bd.returns (hb hby own_d9_19) hr
  · show own_QSc01 Z a0 a1 a3 h0 n0 _ T363.heap _
    rw [e363]
    exact ⟨rfl, N369, K367, f364, f370⟩
theorem own_efSc10 (m : MethodId) (a0 : Addr) (a1 : Addr) (a2 : Addr) : entryFrame m #[(.ref a0), (.ref a1), (.ref a2), .null] 4 = mkF m 0 #[.val (.ref a0), .val (.ref a1), .val (.ref a2), .val .null] [] := by first | (simp [entryFrame, mkF, argsToLocals, Value.category]; done) | rfl
def own_QSc10 (Z : State) (a0 : Addr) (a1 : Addr) (a2 : Addr) (h0 : Heap) (n0 : Nat) (v : Option Value) (h : Heap) (L : List Loc) : Prop := v = none ∧ Fr n0 L ∧ Keep h0 h [a0] ∧ (Exa Z h a0 "com/example/thyme/thyme/lang/ExpressionResolver$Scope") ∧ (Fld Z h a0 "com/example/thyme/thyme/lang/ExpressionResolver$Scope" "locals" "Lcom/example/thyme/thyme/lang/Symbols$Locals;" .null)
set_option maxRecDepth 65536 in
set_option maxHeartbeats 40000000 in
theorem own_rmSc10 (l : Launch) (Z : State) (av : Array Value) (hw : ∀ d ∈ tables_1, d.before av Z = true) (ws : List Jvm.Cond) (a0 : Addr) (a1 : Addr) (a2 : Addr) (h0 : Heap) (n0 : Nat) (Z0 : n0 ≤ h0.size) (pr0 : Exa Z h0 a0 "com/example/thyme/thyme/lang/ExpressionResolver$Scope") (pr1 : Fld Z h0 a0 "com/example/thyme/thyme/lang/ExpressionResolver$Scope" "context" "Lcom/example/thyme/thyme/lang/ExpressionResolver$Context;" .null) (pr2 : Fld Z h0 a0 "com/example/thyme/thyme/lang/ExpressionResolver$Scope" "constant" "Ljava/lang/String;" .null) (pr3 : Fld Z h0 a0 "com/example/thyme/thyme/lang/ExpressionResolver$Scope" "locals" "Lcom/example/thyme/thyme/lang/Symbols$Locals;" .null) (g_a0 : n0 ≤ a0) :
    MetFree l (⟨"com/example/thyme/thyme/lang/ExpressionResolver$Scope", "<init>", "(Lcom/example/thyme/thyme/lang/ExpressionResolver$Context;Ljava/lang/String;Lcom/example/thyme/thyme/lang/Symbols$Locals;)V"⟩ : MethodName) (head1 (Jvm.Cond.code (⟨"com/example/thyme/thyme/lang/ExpressionResolver$Scope", "<init>", "(Lcom/example/thyme/thyme/lang/ExpressionResolver$Context;Ljava/lang/String;Lcom/example/thyme/thyme/lang/Symbols$Locals;)V"⟩ : MethodName) prog_78_method_1_code 4 none :: ws) ({ frames := 2, cells := 0, slots := 0, locals := 24 } : Room)) (fun a U => a = #[(.ref a0), (.ref a1), (.ref a2), .null] ∧ Z.Warmed39 U.vm ∧ U.heap = h0) (fun _ _ _ _ _ => True) (fun _ U o U' => ∃ v L, o = .returned v ∧ own_QSc10 Z a0 a1 a2 h0 n0 v U'.heap L ∧ FrameEnd U o U' L ({ frames := 2, cells := 0, slots := 0, locals := 24 } : Room).cells ({ frames := 2, cells := 0, slots := 0, locals := 24 } : Room).slots) := by
  refine MetFree.of_bodySF (plainFor_of_name own_pn244) hisR ?_
  intro p e s m args below meth c s₁ Bd hml0 hP hK
  obtain ⟨rfl, hZ, hh⟩ := hP
  have hx := Bd.exec
  have hby := Bd.bytes
  have hml : c.maxLocals = 4 := hml0
  have hown : s.vm.findClass "com/example/thyme/thyme/lang/ExpressionResolver$Scope" = some m.cls := findClass_of_methodNamed Bd.named
  have hnm := (name_of_methodNamed Bd.named Bd.method).1
  have X0 : Stand p l e ({ frames := 2, cells := 0, slots := 0, locals := 24 } : Room) s m #[(.ref a0), (.ref a1), (.ref a2), .null] below meth c s₁ [] 0 0 := Stand.of_body Bd
  have e0 : s₁.heap = h0 := by rw [← hh, Bd.state]; rfl
  have N0 := Fr.nil n0
  have pre0 : ∀ t, Steps p.tables e below (s₁.setTop (mkF m 0 #[.val (.ref a0), .val (.ref a1), .val (.ref a2), .val .null] [])) t → Steps p.tables e below (s₁.setTop (entryFrame m #[(.ref a0), (.ref a1), (.ref a2), .null] 4)) t := fun t k => castTop (own_efSc10 m a0 a1 a2) k
  obtain ⟨_, _, ⟨T371, L371, k371, n371⟩, -, X371, ⟨Lc371, hQ371, l371, y371, z371⟩, st371⟩ := X0.specialBack hx (y := (⟨"java/lang/Record", "<init>", "()V"⟩ : MethodName)) rfl hown (mvT hZ (hw _ (List.mem_of_getElem? (i := 46) rfl))) (mvT hZ (hw _ (List.mem_of_getElem? (i := 47) rfl))) (mvT hZ (hw _ (List.mem_of_getElem? (i := 50) rfl))) (by decide) (backOf (W := 0) (own_rm10 l Z av hw [] a0 h0 n0 Z0 ) hZ (hw _ (List.mem_of_getElem? (i := 50) rfl)) (hw _ (List.mem_of_getElem? (i := 49) rfl)) (by decide) (by decide)) (g := (mkF m 1 #[.val (.ref a0), .val (.ref a1), .val (.ref a2), .val .null] [(.ref a0)])) rfl (by rw [hml]; rfl) (Steps.refl _) (a := a0) (argsL := []) (rest := []) (lenOf own_pd10 rfl) rfl (by show 2 * 0 + _ ≤ _; exact Nat.le_of_eq rfl) (hb hby own_d9_1) (fun _ _ => ⟨rfl, e0, (by decide : 0 + 0 ≤ _), (by decide : 0 + 0 ≤ _)⟩)
  dsimp only [Pt.U, Pt.locs, Pt.cells, Pt.slots] at X371 l371 y371 z371 st371 hQ371
  subst l371 y371 z371
  obtain ⟨rfl, N371q, e373⟩ := hQ371
  have N372 := Fr.app N0 N371q
  obtain ⟨T374, h374, X374, e374, W374, st374⟩ := putF X371 hx hZ hown (host := "") (Or.inl (hw _ (List.mem_of_getElem? (i := 52) rfl))) Via.refl e373 pr1 pr0 (Or.inr ⟨(hw _ (List.mem_of_getElem? (i := 53) rfl)), rfl, hnm⟩) (hw _ (List.mem_of_getElem? (i := 41) rfl)) (ty := (.object "com/example/thyme/thyme/lang/ExpressionResolver$Context")) (by decide) rfl rfl (g := (mkF m 6 #[.val (.ref a0), .val (.ref a1), .val (.ref a2), .val .null] [(.ref a1), (.ref a0)])) rfl rfl (hb hby own_d9_6)
  have f375 := pr0.wr W374
  have f376 := pr2.other W374 (Or.inr (slot_ne (Or.inr (hw _ (List.mem_of_getElem? (i := 55) rfl))) (Or.inr (hw _ (List.mem_of_getElem? (i := 53) rfl))) (by decide) (t := (.object "java/lang/String")) (t' := (.object "com/example/thyme/thyme/lang/ExpressionResolver$Context")) (by decide) (by decide)))
  have f377 := pr3.other W374 (Or.inr (slot_ne (Or.inr (hw _ (List.mem_of_getElem? (i := 57) rfl))) (Or.inr (hw _ (List.mem_of_getElem? (i := 53) rfl))) (by decide) (t := (.object "com/example/thyme/thyme/lang/Symbols$Locals")) (t' := (.object "com/example/thyme/thyme/lang/ExpressionResolver$Context")) (by decide) (by decide)))
  have K378 : Keep h0 h374 [a0] := (Keep.refl h0 [a0]).wr W374 (Or.inl (List.mem_of_getElem? (i := 0) rfl))
  have z379 : n0 ≤ h374.size := Nat.le_trans Z0 (Keep.of_wr W374).1
  have N380 := Fr.snoc X374 N372 g_a0
  have f381 : Fld Z h374 a0 "com/example/thyme/thyme/lang/ExpressionResolver$Scope" "context" "Lcom/example/thyme/thyme/lang/ExpressionResolver$Context;" (.ref a1) := pr1.same W374
  obtain ⟨T382, h382, X382, e382, W382, st382⟩ := putF X374 hx hZ hown (host := "") (Or.inl (hw _ (List.mem_of_getElem? (i := 54) rfl))) Via.refl e374 f376 f375 (Or.inr ⟨(hw _ (List.mem_of_getElem? (i := 55) rfl)), rfl, hnm⟩) (hw _ (List.mem_of_getElem? (i := 41) rfl)) (ty := (.object "java/lang/String")) (by decide) rfl rfl (g := (mkF m 11 #[.val (.ref a0), .val (.ref a1), .val (.ref a2), .val .null] [(.ref a2), (.ref a0)])) rfl rfl (hb hby own_d9_11)
  have f383 := f375.wr W382
  have f384 := f381.other W382 (Or.inr (slot_ne (Or.inr (hw _ (List.mem_of_getElem? (i := 53) rfl))) (Or.inr (hw _ (List.mem_of_getElem? (i := 55) rfl))) (by decide) (t := (.object "com/example/thyme/thyme/lang/ExpressionResolver$Context")) (t' := (.object "java/lang/String")) (by decide) (by decide)))
  have f385 := f377.other W382 (Or.inr (slot_ne (Or.inr (hw _ (List.mem_of_getElem? (i := 57) rfl))) (Or.inr (hw _ (List.mem_of_getElem? (i := 55) rfl))) (by decide) (t := (.object "com/example/thyme/thyme/lang/Symbols$Locals")) (t' := (.object "java/lang/String")) (by decide) (by decide)))
  have K386 : Keep h0 h382 [a0] := K378.wr W382 (Or.inl (List.mem_of_getElem? (i := 0) rfl))
  have z387 : n0 ≤ h382.size := Nat.le_trans z379 (Keep.of_wr W382).1
  have N388 := Fr.snoc X382 N380 g_a0
  have f389 : Fld Z h382 a0 "com/example/thyme/thyme/lang/ExpressionResolver$Scope" "constant" "Ljava/lang/String;" (.ref a2) := f376.same W382
  obtain ⟨T390, h390, X390, e390, W390, st390⟩ := putF X382 hx hZ hown (host := "") (Or.inl (hw _ (List.mem_of_getElem? (i := 56) rfl))) Via.refl e382 f385 f383 (Or.inr ⟨(hw _ (List.mem_of_getElem? (i := 57) rfl)), rfl, hnm⟩) (hw _ (List.mem_of_getElem? (i := 41) rfl)) (ty := (.object "com/example/thyme/thyme/lang/Symbols$Locals")) (by decide) rfl rfl (g := (mkF m 16 #[.val (.ref a0), .val (.ref a1), .val (.ref a2), .val .null] [.null, (.ref a0)])) rfl rfl (hb hby own_d9_16)
  have f391 := f383.wr W390
  have f392 := f384.other W390 (Or.inr (slot_ne (Or.inr (hw _ (List.mem_of_getElem? (i := 53) rfl))) (Or.inr (hw _ (List.mem_of_getElem? (i := 57) rfl))) (by decide) (t := (.object "com/example/thyme/thyme/lang/ExpressionResolver$Context")) (t' := (.object "com/example/thyme/thyme/lang/Symbols$Locals")) (by decide) (by decide)))
  have f393 := f389.other W390 (Or.inr (slot_ne (Or.inr (hw _ (List.mem_of_getElem? (i := 55) rfl))) (Or.inr (hw _ (List.mem_of_getElem? (i := 57) rfl))) (by decide) (t := (.object "java/lang/String")) (t' := (.object "com/example/thyme/thyme/lang/Symbols$Locals")) (by decide) (by decide)))
  have K394 : Keep h0 h390 [a0] := K386.wr W390 (Or.inl (List.mem_of_getElem? (i := 0) rfl))
  have z395 : n0 ≤ h390.size := Nat.le_trans z387 (Keep.of_wr W390).1
  have N396 := Fr.snoc X390 N388 g_a0
  have f397 : Fld Z h390 a0 "com/example/thyme/thyme/lang/ExpressionResolver$Scope" "locals" "Lcom/example/thyme/thyme/lang/Symbols$Locals;" .null := f385.same W390
  obtain ⟨fs, hr, hrun, hended, hW, hsame⟩ := X390.leave (v := none) (fun _ => rfl)
  refine ⟨_, _, pre0 _ ?_, hrun, hended, _, _, rfl, ?_, ⟨_, rfl⟩, hW, hsame.mono (by decide) (by decide)⟩
  · show Steps p.tables e below (s₁.setTop (mkF m 0 #[.val (.ref a0), .val (.ref a1), .val (.ref a2), .val .null] [])) _
    refine XS.aloadN X0.here hx rfl (hb hby own_d9_0) rfl rfl ?_
    show Steps p.tables e below (s₁.setTop (mkF m 1 #[.val (.ref a0), .val (.ref a1), .val (.ref a2), .val .null] [(.ref a0)])) _
    refine st371.trans ?_
    show Steps p.tables e below (T371.setTop (mkF m 4 #[.val (.ref a0), .val (.ref a1), .val (.ref a2), .val .null] [])) _
    refine XS.aloadN X371.here hx rfl (hb hby own_d9_4) rfl rfl ?_
    show Steps p.tables e below (T371.setTop (mkF m 5 #[.val (.ref a0), .val (.ref a1), .val (.ref a2), .val .null] [(.ref a0)])) _
    refine XS.aloadN X371.here hx rfl (hb hby own_d9_5) rfl rfl ?_
    show Steps p.tables e below (T371.setTop (mkF m 6 #[.val (.ref a0), .val (.ref a1), .val (.ref a2), .val .null] [(.ref a1), (.ref a0)])) _
    refine st374 _ ?_
    show Steps p.tables e below (T374.setTop (mkF m 9 #[.val (.ref a0), .val (.ref a1), .val (.ref a2), .val .null] [])) _
    refine XS.aloadN X374.here hx rfl (hb hby own_d9_9) rfl rfl ?_
    show Steps p.tables e below (T374.setTop (mkF m 10 #[.val (.ref a0), .val (.ref a1), .val (.ref a2), .val .null] [(.ref a0)])) _
    refine XS.aloadN X374.here hx rfl (hb hby own_d9_10) rfl rfl ?_
    show Steps p.tables e below (T374.setTop (mkF m 11 #[.val (.ref a0), .val (.ref a1), .val (.ref a2), .val .null] [(.ref a2), (.ref a0)])) _
    refine st382 _ ?_
    show Steps p.tables e below (T382.setTop (mkF m 14 #[.val (.ref a0), .val (.ref a1), .val (.ref a2), .val .null] [])) _
    refine XS.aloadN X382.here hx rfl (hb hby own_d9_14) rfl rfl ?_
    show Steps p.tables e below (T382.setTop (mkF m 15 #[.val (.ref a0), .val (.ref a1), .val (.ref a2), .val .null] [(.ref a0)])) _
    refine XS.aloadN X382.here hx rfl (hb hby own_d9_15) rfl rfl ?_
    show Steps p.tables e below (T382.setTop (mkF m 16 #[.val (.ref a0), .val (.ref a1), .val (.ref a2), .val .null] [.null, (.ref a0)])) _
    refine st390 _ ?_
    show Steps p.tables e below (T390.setTop (mkF m 19 #[.val (.ref a0), .val (.ref a1), .val (.ref a2), .val .null] [])) _
    exact X390.returnOut hx Bd.returns (hb hby own_d9_19) hr
  · show own_QSc10 Z a0 a1 a2 h0 n0 _ T390.heap _
    rw [e390]
    exact ⟨rfl, N396, K394, f391, f397⟩
theorem own_efSc11 (m : MethodId) (a0 : Addr) (a1 : Addr) (a2 : Addr) (a3 : Addr) : entryFrame m #[(.ref a0), (.ref a1), (.ref a2), (.ref a3)] 4 = mkF m 0 #[.val (.ref a0), .val (.ref a1), .val (.ref a2), .val (.ref a3)] [] := by first | (simp [entryFrame, mkF, argsToLocals, Value.category]; done) | rfl
def own_QSc11 (Z : State) (a0 : Addr) (a1 : Addr) (a2 : Addr) (a3 : Addr) (h0 : Heap) (n0 : Nat) (v : Option Value) (h : Heap) (L : List Loc) : Prop := v = none ∧ Fr n0 L ∧ Keep h0 h [a0] ∧ (Exa Z h a0 "com/example/thyme/thyme/lang/ExpressionResolver$Scope") ∧ (Fld Z h a0 "com/example/thyme/thyme/lang/ExpressionResolver$Scope" "locals" "Lcom/example/thyme/thyme/lang/Symbols$Locals;" (.ref a3))
set_option maxRecDepth 65536 in
set_option maxHeartbeats 40000000 in
theorem own_rmSc11 (l : Launch) (Z : State) (av : Array Value) (hw : ∀ d ∈ tables_1, d.before av Z = true) (ws : List Jvm.Cond) (a0 : Addr) (a1 : Addr) (a2 : Addr) (a3 : Addr) (h0 : Heap) (n0 : Nat) (Z0 : n0 ≤ h0.size) (pr0 : Exa Z h0 a0 "com/example/thyme/thyme/lang/ExpressionResolver$Scope") (pr1 : Fld Z h0 a0 "com/example/thyme/thyme/lang/ExpressionResolver$Scope" "context" "Lcom/example/thyme/thyme/lang/ExpressionResolver$Context;" .null) (pr2 : Fld Z h0 a0 "com/example/thyme/thyme/lang/ExpressionResolver$Scope" "constant" "Ljava/lang/String;" .null) (pr3 : Fld Z h0 a0 "com/example/thyme/thyme/lang/ExpressionResolver$Scope" "locals" "Lcom/example/thyme/thyme/lang/Symbols$Locals;" .null) (g_a0 : n0 ≤ a0) :
    MetFree l (⟨"com/example/thyme/thyme/lang/ExpressionResolver$Scope", "<init>", "(Lcom/example/thyme/thyme/lang/ExpressionResolver$Context;Ljava/lang/String;Lcom/example/thyme/thyme/lang/Symbols$Locals;)V"⟩ : MethodName) (head1 (Jvm.Cond.code (⟨"com/example/thyme/thyme/lang/ExpressionResolver$Scope", "<init>", "(Lcom/example/thyme/thyme/lang/ExpressionResolver$Context;Ljava/lang/String;Lcom/example/thyme/thyme/lang/Symbols$Locals;)V"⟩ : MethodName) prog_78_method_1_code 4 none :: ws) ({ frames := 2, cells := 0, slots := 0, locals := 24 } : Room)) (fun a U => a = #[(.ref a0), (.ref a1), (.ref a2), (.ref a3)] ∧ Z.Warmed39 U.vm ∧ U.heap = h0) (fun _ _ _ _ _ => True) (fun _ U o U' => ∃ v L, o = .returned v ∧ own_QSc11 Z a0 a1 a2 a3 h0 n0 v U'.heap L ∧ FrameEnd U o U' L ({ frames := 2, cells := 0, slots := 0, locals := 24 } : Room).cells ({ frames := 2, cells := 0, slots := 0, locals := 24 } : Room).slots) := by
  refine MetFree.of_bodySF (plainFor_of_name own_pn244) hisR ?_
  intro p e s m args below meth c s₁ Bd hml0 hP hK
  obtain ⟨rfl, hZ, hh⟩ := hP
  have hx := Bd.exec
  have hby := Bd.bytes
  have hml : c.maxLocals = 4 := hml0
  have hown : s.vm.findClass "com/example/thyme/thyme/lang/ExpressionResolver$Scope" = some m.cls := findClass_of_methodNamed Bd.named
  have hnm := (name_of_methodNamed Bd.named Bd.method).1
  have X0 : Stand p l e ({ frames := 2, cells := 0, slots := 0, locals := 24 } : Room) s m #[(.ref a0), (.ref a1), (.ref a2), (.ref a3)] below meth c s₁ [] 0 0 := Stand.of_body Bd
  have e0 : s₁.heap = h0 := by rw [← hh, Bd.state]; rfl
  have N0 := Fr.nil n0
  have pre0 : ∀ t, Steps p.tables e below (s₁.setTop (mkF m 0 #[.val (.ref a0), .val (.ref a1), .val (.ref a2), .val (.ref a3)] [])) t → Steps p.tables e below (s₁.setTop (entryFrame m #[(.ref a0), (.ref a1), (.ref a2), (.ref a3)] 4)) t := fun t k => castTop (own_efSc11 m a0 a1 a2 a3) k
  obtain ⟨_, _, ⟨T398, L398, k398, n398⟩, -, X398, ⟨Lc398, hQ398, l398, y398, z398⟩, st398⟩ := X0.specialBack hx (y := (⟨"java/lang/Record", "<init>", "()V"⟩ : MethodName)) rfl hown (mvT hZ (hw _ (List.mem_of_getElem? (i := 46) rfl))) (mvT hZ (hw _ (List.mem_of_getElem? (i := 47) rfl))) (mvT hZ (hw _ (List.mem_of_getElem? (i := 50) rfl))) (by decide) (backOf (W := 0) (own_rm10 l Z av hw [] a0 h0 n0 Z0 ) hZ (hw _ (List.mem_of_getElem? (i := 50) rfl)) (hw _ (List.mem_of_getElem? (i := 49) rfl)) (by decide) (by decide)) (g := (mkF m 1 #[.val (.ref a0), .val (.ref a1), .val (.ref a2), .val (.ref a3)] [(.ref a0)])) rfl (by rw [hml]; rfl) (Steps.refl _) (a := a0) (argsL := []) (rest := []) (lenOf own_pd10 rfl) rfl (by show 2 * 0 + _ ≤ _; exact Nat.le_of_eq rfl) (hb hby own_d9_1) (fun _ _ => ⟨rfl, e0, (by decide : 0 + 0 ≤ _), (by decide : 0 + 0 ≤ _)⟩)
  dsimp only [Pt.U, Pt.locs, Pt.cells, Pt.slots] at X398 l398 y398 z398 st398 hQ398
  subst l398 y398 z398
  obtain ⟨rfl, N398q, e400⟩ := hQ398
  have N399 := Fr.app N0 N398q
  obtain ⟨T401, h401, X401, e401, W401, st401⟩ := putF X398 hx hZ hown (host := "") (Or.inl (hw _ (List.mem_of_getElem? (i := 52) rfl))) Via.refl e400 pr1 pr0 (Or.inr ⟨(hw _ (List.mem_of_getElem? (i := 53) rfl)), rfl, hnm⟩) (hw _ (List.mem_of_getElem? (i := 41) rfl)) (ty := (.object "com/example/thyme/thyme/lang/ExpressionResolver$Context")) (by decide) rfl rfl (g := (mkF m 6 #[.val (.ref a0), .val (.ref a1), .val (.ref a2), .val (.ref a3)] [(.ref a1), (.ref a0)])) rfl rfl (hb hby own_d9_6)
  have f402 := pr0.wr W401
  have f403 := pr2.other W401 (Or.inr (slot_ne (Or.inr (hw _ (List.mem_of_getElem? (i := 55) rfl))) (Or.inr (hw _ (List.mem_of_getElem? (i := 53) rfl))) (by decide) (t := (.object "java/lang/String")) (t' := (.object "com/example/thyme/thyme/lang/ExpressionResolver$Context")) (by decide) (by decide)))
  have f404 := pr3.other W401 (Or.inr (slot_ne (Or.inr (hw _ (List.mem_of_getElem? (i := 57) rfl))) (Or.inr (hw _ (List.mem_of_getElem? (i := 53) rfl))) (by decide) (t := (.object "com/example/thyme/thyme/lang/Symbols$Locals")) (t' := (.object "com/example/thyme/thyme/lang/ExpressionResolver$Context")) (by decide) (by decide)))
  have K405 : Keep h0 h401 [a0] := (Keep.refl h0 [a0]).wr W401 (Or.inl (List.mem_of_getElem? (i := 0) rfl))
  have z406 : n0 ≤ h401.size := Nat.le_trans Z0 (Keep.of_wr W401).1
  have N407 := Fr.snoc X401 N399 g_a0
  have f408 : Fld Z h401 a0 "com/example/thyme/thyme/lang/ExpressionResolver$Scope" "context" "Lcom/example/thyme/thyme/lang/ExpressionResolver$Context;" (.ref a1) := pr1.same W401
  obtain ⟨T409, h409, X409, e409, W409, st409⟩ := putF X401 hx hZ hown (host := "") (Or.inl (hw _ (List.mem_of_getElem? (i := 54) rfl))) Via.refl e401 f403 f402 (Or.inr ⟨(hw _ (List.mem_of_getElem? (i := 55) rfl)), rfl, hnm⟩) (hw _ (List.mem_of_getElem? (i := 41) rfl)) (ty := (.object "java/lang/String")) (by decide) rfl rfl (g := (mkF m 11 #[.val (.ref a0), .val (.ref a1), .val (.ref a2), .val (.ref a3)] [(.ref a2), (.ref a0)])) rfl rfl (hb hby own_d9_11)
  have f410 := f402.wr W409
  have f411 := f408.other W409 (Or.inr (slot_ne (Or.inr (hw _ (List.mem_of_getElem? (i := 53) rfl))) (Or.inr (hw _ (List.mem_of_getElem? (i := 55) rfl))) (by decide) (t := (.object "com/example/thyme/thyme/lang/ExpressionResolver$Context")) (t' := (.object "java/lang/String")) (by decide) (by decide)))
  have f412 := f404.other W409 (Or.inr (slot_ne (Or.inr (hw _ (List.mem_of_getElem? (i := 57) rfl))) (Or.inr (hw _ (List.mem_of_getElem? (i := 55) rfl))) (by decide) (t := (.object "com/example/thyme/thyme/lang/Symbols$Locals")) (t' := (.object "java/lang/String")) (by decide) (by decide)))
  have K413 : Keep h0 h409 [a0] := K405.wr W409 (Or.inl (List.mem_of_getElem? (i := 0) rfl))
  have z414 : n0 ≤ h409.size := Nat.le_trans z406 (Keep.of_wr W409).1
  have N415 := Fr.snoc X409 N407 g_a0
  have f416 : Fld Z h409 a0 "com/example/thyme/thyme/lang/ExpressionResolver$Scope" "constant" "Ljava/lang/String;" (.ref a2) := f403.same W409
  obtain ⟨T417, h417, X417, e417, W417, st417⟩ := putF X409 hx hZ hown (host := "") (Or.inl (hw _ (List.mem_of_getElem? (i := 56) rfl))) Via.refl e409 f412 f410 (Or.inr ⟨(hw _ (List.mem_of_getElem? (i := 57) rfl)), rfl, hnm⟩) (hw _ (List.mem_of_getElem? (i := 41) rfl)) (ty := (.object "com/example/thyme/thyme/lang/Symbols$Locals")) (by decide) rfl rfl (g := (mkF m 16 #[.val (.ref a0), .val (.ref a1), .val (.ref a2), .val (.ref a3)] [(.ref a3), (.ref a0)])) rfl rfl (hb hby own_d9_16)
  have f418 := f410.wr W417
  have f419 := f411.other W417 (Or.inr (slot_ne (Or.inr (hw _ (List.mem_of_getElem? (i := 53) rfl))) (Or.inr (hw _ (List.mem_of_getElem? (i := 57) rfl))) (by decide) (t := (.object "com/example/thyme/thyme/lang/ExpressionResolver$Context")) (t' := (.object "com/example/thyme/thyme/lang/Symbols$Locals")) (by decide) (by decide)))
  have f420 := f416.other W417 (Or.inr (slot_ne (Or.inr (hw _ (List.mem_of_getElem? (i := 55) rfl))) (Or.inr (hw _ (List.mem_of_getElem? (i := 57) rfl))) (by decide) (t := (.object "java/lang/String")) (t' := (.object "com/example/thyme/thyme/lang/Symbols$Locals")) (by decide) (by decide)))
  have K421 : Keep h0 h417 [a0] := K413.wr W417 (Or.inl (List.mem_of_getElem? (i := 0) rfl))
  have z422 : n0 ≤ h417.size := Nat.le_trans z414 (Keep.of_wr W417).1
  have N423 := Fr.snoc X417 N415 g_a0
  have f424 : Fld Z h417 a0 "com/example/thyme/thyme/lang/ExpressionResolver$Scope" "locals" "Lcom/example/thyme/thyme/lang/Symbols$Locals;" (.ref a3) := f412.same W417
  obtain ⟨fs, hr, hrun, hended, hW, hsame⟩ := X417.leave (v := none) (fun _ => rfl)
  refine ⟨_, _, pre0 _ ?_, hrun, hended, _, _, rfl, ?_, ⟨_, rfl⟩, hW, hsame.mono (by decide) (by decide)⟩
  · show Steps p.tables e below (s₁.setTop (mkF m 0 #[.val (.ref a0), .val (.ref a1), .val (.ref a2), .val (.ref a3)] [])) _
    refine XS.aloadN X0.here hx rfl (hb hby own_d9_0) rfl rfl ?_
    show Steps p.tables e below (s₁.setTop (mkF m 1 #[.val (.ref a0), .val (.ref a1), .val (.ref a2), .val (.ref a3)] [(.ref a0)])) _
    refine st398.trans ?_
    show Steps p.tables e below (T398.setTop (mkF m 4 #[.val (.ref a0), .val (.ref a1), .val (.ref a2), .val (.ref a3)] [])) _
    refine XS.aloadN X398.here hx rfl (hb hby own_d9_4) rfl rfl ?_
    show Steps p.tables e below (T398.setTop (mkF m 5 #[.val (.ref a0), .val (.ref a1), .val (.ref a2), .val (.ref a3)] [(.ref a0)])) _
    refine XS.aloadN X398.here hx rfl (hb hby own_d9_5) rfl rfl ?_
    show Steps p.tables e below (T398.setTop (mkF m 6 #[.val (.ref a0), .val (.ref a1), .val (.ref a2), .val (.ref a3)] [(.ref a1), (.ref a0)])) _
    refine st401 _ ?_
    show Steps p.tables e below (T401.setTop (mkF m 9 #[.val (.ref a0), .val (.ref a1), .val (.ref a2), .val (.ref a3)] [])) _
    refine XS.aloadN X401.here hx rfl (hb hby own_d9_9) rfl rfl ?_
    show Steps p.tables e below (T401.setTop (mkF m 10 #[.val (.ref a0), .val (.ref a1), .val (.ref a2), .val (.ref a3)] [(.ref a0)])) _
    refine XS.aloadN X401.here hx rfl (hb hby own_d9_10) rfl rfl ?_
    show Steps p.tables e below (T401.setTop (mkF m 11 #[.val (.ref a0), .val (.ref a1), .val (.ref a2), .val (.ref a3)] [(.ref a2), (.ref a0)])) _
    refine st409 _ ?_
    show Steps p.tables e below (T409.setTop (mkF m 14 #[.val (.ref a0), .val (.ref a1), .val (.ref a2), .val (.ref a3)] [])) _
    refine XS.aloadN X409.here hx rfl (hb hby own_d9_14) rfl rfl ?_
    show Steps p.tables e below (T409.setTop (mkF m 15 #[.val (.ref a0), .val (.ref a1), .val (.ref a2), .val (.ref a3)] [(.ref a0)])) _
    refine XS.aloadN X409.here hx rfl (hb hby own_d9_15) rfl rfl ?_
    show Steps p.tables e below (T409.setTop (mkF m 16 #[.val (.ref a0), .val (.ref a1), .val (.ref a2), .val (.ref a3)] [(.ref a3), (.ref a0)])) _
    refine st417 _ ?_
    show Steps p.tables e below (T417.setTop (mkF m 19 #[.val (.ref a0), .val (.ref a1), .val (.ref a2), .val (.ref a3)] [])) _
    exact X417.returnOut hx Bd.returns (hb hby own_d9_19) hr
  · show own_QSc11 Z a0 a1 a2 a3 h0 n0 _ T417.heap _
    rw [e417]
    exact ⟨rfl, N423, K421, f418, f424⟩
theorem own_d11_0 : decode prog_78_method_3_code 0 = .ok (.aload_n 0, 1) := by decide +kernel
theorem own_d11_1 : decode prog_78_method_3_code 1 = .ok (.getfield 17, 3) := by decide +kernel
theorem own_d11_4 : decode prog_78_method_3_code 4 = .ok (.ifnonnull 7, 3) := by decide +kernel
theorem own_d11_7 : decode prog_78_method_3_code 7 = .ok (.aconst_null, 1) := by decide +kernel
theorem own_d11_8 : decode prog_78_method_3_code 8 = .ok (.goto 10, 3) := by decide +kernel
theorem own_d11_18 : decode prog_78_method_3_code 18 = .ok (.areturn, 1) := by decide +kernel
theorem own_efSi0 (m : MethodId) (a0 : Addr) : entryFrame m #[(.ref a0)] 1 = mkF m 0 #[.val (.ref a0)] [] := by first | (simp [entryFrame, mkF, argsToLocals, Value.category]; done) | rfl
def own_QSi0 (Z : State) (a0 : Addr) (h0 : Heap) (n0 : Nat) (v : Option Value) (h : Heap) (L : List Loc) : Prop := v = some .null ∧ Fr n0 L ∧ h = h0
set_option maxRecDepth 65536 in
set_option maxHeartbeats 40000000 in
theorem own_rmSi0 (l : Launch) (Z : State) (av : Array Value) (hw : ∀ d ∈ tables_1, d.before av Z = true) (ws : List Jvm.Cond) (a0 : Addr) (h0 : Heap) (n0 : Nat) (Z0 : n0 ≤ h0.size) (pr0 : Fld Z h0 a0 "com/example/thyme/thyme/lang/ExpressionResolver$Scope" "locals" "Lcom/example/thyme/thyme/lang/Symbols$Locals;" .null) :
    MetFree l (⟨"com/example/thyme/thyme/lang/ExpressionResolver$Scope", "instance", "()Ljava/lang/String;"⟩ : MethodName) (head1 (Jvm.Cond.code (⟨"com/example/thyme/thyme/lang/ExpressionResolver$Scope", "instance", "()Ljava/lang/String;"⟩ : MethodName) prog_78_method_3_code 1 (some (.object "java/lang/String")) :: ws) ({ frames := 0, cells := 0, slots := 0, locals := 0 } : Room)) (fun a U => a = #[(.ref a0)] ∧ Z.Warmed39 U.vm ∧ U.heap = h0) (fun _ _ _ _ _ => True) (fun _ U o U' => ∃ v L, o = .returned v ∧ own_QSi0 Z a0 h0 n0 v U'.heap L ∧ FrameEnd U o U' L ({ frames := 0, cells := 0, slots := 0, locals := 0 } : Room).cells ({ frames := 0, cells := 0, slots := 0, locals := 0 } : Room).slots) := by
  refine MetFree.of_bodySF (plainFor_of_name own_pn244) hisR ?_
  intro p e s m args below meth c s₁ Bd hml0 hP hK
  obtain ⟨rfl, hZ, hh⟩ := hP
  have hx := Bd.exec
  have hby := Bd.bytes
  have hml : c.maxLocals = 1 := hml0
  have hown : s.vm.findClass "com/example/thyme/thyme/lang/ExpressionResolver$Scope" = some m.cls := findClass_of_methodNamed Bd.named
  have hnm := (name_of_methodNamed Bd.named Bd.method).1
  have X0 : Stand p l e ({ frames := 0, cells := 0, slots := 0, locals := 0 } : Room) s m #[(.ref a0)] below meth c s₁ [] 0 0 := Stand.of_body Bd
  have e0 : s₁.heap = h0 := by rw [← hh, Bd.state]; rfl
  have N0 := Fr.nil n0
  have pre0 : ∀ t, Steps p.tables e below (s₁.setTop (mkF m 0 #[.val (.ref a0)] [])) t → Steps p.tables e below (s₁.setTop (entryFrame m #[(.ref a0)] 1)) t := fun t k => castTop (own_efSi0 m a0) k
  obtain ⟨T425, X425, e425, st425⟩ := getF X0 hx hZ hown (host := "") (Or.inl (hw _ (List.mem_of_getElem? (i := 56) rfl))) Via.refl e0 pr0 (g := (mkF m 1 #[.val (.ref a0)] [(.ref a0)])) rfl rfl (hb hby own_d11_1)
  obtain ⟨fs, hr, hrun, hended, hW, hsame⟩ := X425.leave (v := some .null) (fun h => by rw [Bd.returns] at h; cases h)
  refine ⟨_, _, pre0 _ ?_, hrun, hended, _, _, rfl, ?_, ⟨_, rfl⟩, hW, hsame.mono (by decide) (by decide)⟩
  · show Steps p.tables e below (s₁.setTop (mkF m 0 #[.val (.ref a0)] [])) _
    refine XS.aloadN X0.here hx rfl (hb hby own_d11_0) rfl rfl ?_
    show Steps p.tables e below (s₁.setTop (mkF m 1 #[.val (.ref a0)] [(.ref a0)])) _
    refine st425 _ ?_
    show Steps p.tables e below (T425.setTop (mkF m 4 #[.val (.ref a0)] [.null])) _
    refine XS.ifnonnullNo X425.here hx rfl (hb hby own_d11_4) rfl ?_
    show Steps p.tables e below (T425.setTop (mkF m 7 #[.val (.ref a0)] [])) _
    refine XS.aconstNull X425.here hx rfl (hb hby own_d11_7) ?_
    show Steps p.tables e below (T425.setTop (mkF m 8 #[.val (.ref a0)] [.null])) _
    refine XS.goto X425.here hx rfl (pc0 := 8) (pc' := 18) rfl (hb hby own_d11_8) (by decide) (by decide) ?_
    show Steps p.tables e below (T425.setTop (mkF m 18 #[.val (.ref a0)] [.null])) _
    exact retOut X425 hx (t := (.object "java/lang/String")) (i := .areturn) Bd.returns rfl (Or.inr (Or.inr (Or.inr (Or.inr ⟨rfl, rfl, rfl⟩)))) (hb hby own_d11_18) hr
  · show own_QSi0 Z a0 h0 n0 _ T425.heap _
    rw [e425]
    exact ⟨rfl, N0, rfl⟩
theorem own_d11_11 : decode prog_78_method_3_code 11 = .ok (.aload_n 0, 1) := by decide +kernel
theorem own_d11_12 : decode prog_78_method_3_code 12 = .ok (.getfield 17, 3) := by decide +kernel
theorem own_d11_15 : decode prog_78_method_3_code 15 = .ok (.getfield 24, 3) := by decide +kernel
theorem own_efSi1 (m : MethodId) (a0 : Addr) : entryFrame m #[(.ref a0)] 1 = mkF m 0 #[.val (.ref a0)] [] := by first | (simp [entryFrame, mkF, argsToLocals, Value.category]; done) | rfl
def own_QSi1 (Z : State) (a0 : Addr) (lc : Addr) (h0 : Heap) (n0 : Nat) (v : Option Value) (h : Heap) (L : List Loc) : Prop := v = some .null ∧ Fr n0 L ∧ h = h0
set_option maxRecDepth 65536 in
set_option maxHeartbeats 40000000 in
theorem own_rmSi1 (l : Launch) (Z : State) (av : Array Value) (hw : ∀ d ∈ tables_1, d.before av Z = true) (ws : List Jvm.Cond) (a0 : Addr) (lc : Addr) (h0 : Heap) (n0 : Nat) (Z0 : n0 ≤ h0.size) (pr0 : Fld Z h0 a0 "com/example/thyme/thyme/lang/ExpressionResolver$Scope" "locals" "Lcom/example/thyme/thyme/lang/Symbols$Locals;" (.ref lc)) (pr1 : Fld Z h0 lc "com/example/thyme/thyme/lang/Symbols$Locals" "instance" "Ljava/lang/String;" .null) :
    MetFree l (⟨"com/example/thyme/thyme/lang/ExpressionResolver$Scope", "instance", "()Ljava/lang/String;"⟩ : MethodName) (head1 (Jvm.Cond.code (⟨"com/example/thyme/thyme/lang/ExpressionResolver$Scope", "instance", "()Ljava/lang/String;"⟩ : MethodName) prog_78_method_3_code 1 (some (.object "java/lang/String")) :: ws) ({ frames := 0, cells := 0, slots := 0, locals := 0 } : Room)) (fun a U => a = #[(.ref a0)] ∧ Z.Warmed39 U.vm ∧ U.heap = h0) (fun _ _ _ _ _ => True) (fun _ U o U' => ∃ v L, o = .returned v ∧ own_QSi1 Z a0 lc h0 n0 v U'.heap L ∧ FrameEnd U o U' L ({ frames := 0, cells := 0, slots := 0, locals := 0 } : Room).cells ({ frames := 0, cells := 0, slots := 0, locals := 0 } : Room).slots) := by
  refine MetFree.of_bodySF (plainFor_of_name own_pn244) hisR ?_
  intro p e s m args below meth c s₁ Bd hml0 hP hK
  obtain ⟨rfl, hZ, hh⟩ := hP
  have hx := Bd.exec
  have hby := Bd.bytes
  have hml : c.maxLocals = 1 := hml0
  have hown : s.vm.findClass "com/example/thyme/thyme/lang/ExpressionResolver$Scope" = some m.cls := findClass_of_methodNamed Bd.named
  have hnm := (name_of_methodNamed Bd.named Bd.method).1
  have X0 : Stand p l e ({ frames := 0, cells := 0, slots := 0, locals := 0 } : Room) s m #[(.ref a0)] below meth c s₁ [] 0 0 := Stand.of_body Bd
  have e0 : s₁.heap = h0 := by rw [← hh, Bd.state]; rfl
  have N0 := Fr.nil n0
  have pre0 : ∀ t, Steps p.tables e below (s₁.setTop (mkF m 0 #[.val (.ref a0)] [])) t → Steps p.tables e below (s₁.setTop (entryFrame m #[(.ref a0)] 1)) t := fun t k => castTop (own_efSi1 m a0) k
  obtain ⟨T426, X426, e426, st426⟩ := getF X0 hx hZ hown (host := "") (Or.inl (hw _ (List.mem_of_getElem? (i := 56) rfl))) Via.refl e0 pr0 (g := (mkF m 1 #[.val (.ref a0)] [(.ref a0)])) rfl rfl (hb hby own_d11_1)
  obtain ⟨T427, X427, e427, st427⟩ := getF X426 hx hZ hown (host := "") (Or.inl (hw _ (List.mem_of_getElem? (i := 56) rfl))) Via.refl e426 pr0 (g := (mkF m 12 #[.val (.ref a0)] [(.ref a0)])) rfl rfl (hb hby own_d11_12)
  obtain ⟨T428, X428, e428, st428⟩ := getF X427 hx hZ hown (host := "") (Or.inl (hw _ (List.mem_of_getElem? (i := 166) rfl))) Via.refl e427 pr1 (g := (mkF m 15 #[.val (.ref a0)] [(.ref lc)])) rfl rfl (hb hby own_d11_15)
  obtain ⟨fs, hr, hrun, hended, hW, hsame⟩ := X428.leave (v := some .null) (fun h => by rw [Bd.returns] at h; cases h)
  refine ⟨_, _, pre0 _ ?_, hrun, hended, _, _, rfl, ?_, ⟨_, rfl⟩, hW, hsame.mono (by decide) (by decide)⟩
  · show Steps p.tables e below (s₁.setTop (mkF m 0 #[.val (.ref a0)] [])) _
    refine XS.aloadN X0.here hx rfl (hb hby own_d11_0) rfl rfl ?_
    show Steps p.tables e below (s₁.setTop (mkF m 1 #[.val (.ref a0)] [(.ref a0)])) _
    refine st426 _ ?_
    show Steps p.tables e below (T426.setTop (mkF m 4 #[.val (.ref a0)] [(.ref lc)])) _
    refine XS.ifnonnullYes X426.here hx rfl (pc0 := 4) (pc' := 11) rfl (hb hby own_d11_4) rfl (by decide) (by decide) ?_
    show Steps p.tables e below (T426.setTop (mkF m 11 #[.val (.ref a0)] [])) _
    refine XS.aloadN X426.here hx rfl (hb hby own_d11_11) rfl rfl ?_
    show Steps p.tables e below (T426.setTop (mkF m 12 #[.val (.ref a0)] [(.ref a0)])) _
    refine st427 _ ?_
    show Steps p.tables e below (T427.setTop (mkF m 15 #[.val (.ref a0)] [(.ref lc)])) _
    refine st428 _ ?_
    show Steps p.tables e below (T428.setTop (mkF m 18 #[.val (.ref a0)] [.null])) _
    exact retOut X428 hx (t := (.object "java/lang/String")) (i := .areturn) Bd.returns rfl (Or.inr (Or.inr (Or.inr (Or.inr ⟨rfl, rfl, rfl⟩)))) (hb hby own_d11_18) hr
  · show own_QSi1 Z a0 lc h0 n0 _ T428.heap _
    rw [e428]
    exact ⟨rfl, N0, rfl⟩
theorem own_efSi2 (m : MethodId) (a0 : Addr) : entryFrame m #[(.ref a0)] 1 = mkF m 0 #[.val (.ref a0)] [] := by first | (simp [entryFrame, mkF, argsToLocals, Value.category]; done) | rfl
def own_QSi2 (Z : State) (a0 : Addr) (lc : Addr) (b : Addr) (h0 : Heap) (n0 : Nat) (v : Option Value) (h : Heap) (L : List Loc) : Prop := v = some (.ref b) ∧ Fr n0 L ∧ h = h0
set_option maxRecDepth 65536 in
set_option maxHeartbeats 40000000 in
theorem own_rmSi2 (l : Launch) (Z : State) (av : Array Value) (hw : ∀ d ∈ tables_1, d.before av Z = true) (ws : List Jvm.Cond) (a0 : Addr) (lc : Addr) (b : Addr) (h0 : Heap) (n0 : Nat) (Z0 : n0 ≤ h0.size) (pr0 : Fld Z h0 a0 "com/example/thyme/thyme/lang/ExpressionResolver$Scope" "locals" "Lcom/example/thyme/thyme/lang/Symbols$Locals;" (.ref lc)) (pr1 : Fld Z h0 lc "com/example/thyme/thyme/lang/Symbols$Locals" "instance" "Ljava/lang/String;" (.ref b)) :
    MetFree l (⟨"com/example/thyme/thyme/lang/ExpressionResolver$Scope", "instance", "()Ljava/lang/String;"⟩ : MethodName) (head1 (Jvm.Cond.code (⟨"com/example/thyme/thyme/lang/ExpressionResolver$Scope", "instance", "()Ljava/lang/String;"⟩ : MethodName) prog_78_method_3_code 1 (some (.object "java/lang/String")) :: ws) ({ frames := 0, cells := 0, slots := 0, locals := 0 } : Room)) (fun a U => a = #[(.ref a0)] ∧ Z.Warmed39 U.vm ∧ U.heap = h0) (fun _ _ _ _ _ => True) (fun _ U o U' => ∃ v L, o = .returned v ∧ own_QSi2 Z a0 lc b h0 n0 v U'.heap L ∧ FrameEnd U o U' L ({ frames := 0, cells := 0, slots := 0, locals := 0 } : Room).cells ({ frames := 0, cells := 0, slots := 0, locals := 0 } : Room).slots) := by
  refine MetFree.of_bodySF (plainFor_of_name own_pn244) hisR ?_
  intro p e s m args below meth c s₁ Bd hml0 hP hK
  obtain ⟨rfl, hZ, hh⟩ := hP
  have hx := Bd.exec
  have hby := Bd.bytes
  have hml : c.maxLocals = 1 := hml0
  have hown : s.vm.findClass "com/example/thyme/thyme/lang/ExpressionResolver$Scope" = some m.cls := findClass_of_methodNamed Bd.named
  have hnm := (name_of_methodNamed Bd.named Bd.method).1
  have X0 : Stand p l e ({ frames := 0, cells := 0, slots := 0, locals := 0 } : Room) s m #[(.ref a0)] below meth c s₁ [] 0 0 := Stand.of_body Bd
  have e0 : s₁.heap = h0 := by rw [← hh, Bd.state]; rfl
  have N0 := Fr.nil n0
  have pre0 : ∀ t, Steps p.tables e below (s₁.setTop (mkF m 0 #[.val (.ref a0)] [])) t → Steps p.tables e below (s₁.setTop (entryFrame m #[(.ref a0)] 1)) t := fun t k => castTop (own_efSi2 m a0) k
  obtain ⟨T429, X429, e429, st429⟩ := getF X0 hx hZ hown (host := "") (Or.inl (hw _ (List.mem_of_getElem? (i := 56) rfl))) Via.refl e0 pr0 (g := (mkF m 1 #[.val (.ref a0)] [(.ref a0)])) rfl rfl (hb hby own_d11_1)
  obtain ⟨T430, X430, e430, st430⟩ := getF X429 hx hZ hown (host := "") (Or.inl (hw _ (List.mem_of_getElem? (i := 56) rfl))) Via.refl e429 pr0 (g := (mkF m 12 #[.val (.ref a0)] [(.ref a0)])) rfl rfl (hb hby own_d11_12)
  obtain ⟨T431, X431, e431, st431⟩ := getF X430 hx hZ hown (host := "") (Or.inl (hw _ (List.mem_of_getElem? (i := 166) rfl))) Via.refl e430 pr1 (g := (mkF m 15 #[.val (.ref a0)] [(.ref lc)])) rfl rfl (hb hby own_d11_15)
  obtain ⟨fs, hr, hrun, hended, hW, hsame⟩ := X431.leave (v := some (.ref b)) (fun h => by rw [Bd.returns] at h; cases h)
  refine ⟨_, _, pre0 _ ?_, hrun, hended, _, _, rfl, ?_, ⟨_, rfl⟩, hW, hsame.mono (by decide) (by decide)⟩
  · show Steps p.tables e below (s₁.setTop (mkF m 0 #[.val (.ref a0)] [])) _
    refine XS.aloadN X0.here hx rfl (hb hby own_d11_0) rfl rfl ?_
    show Steps p.tables e below (s₁.setTop (mkF m 1 #[.val (.ref a0)] [(.ref a0)])) _
    refine st429 _ ?_
    show Steps p.tables e below (T429.setTop (mkF m 4 #[.val (.ref a0)] [(.ref lc)])) _
    refine XS.ifnonnullYes X429.here hx rfl (pc0 := 4) (pc' := 11) rfl (hb hby own_d11_4) rfl (by decide) (by decide) ?_
    show Steps p.tables e below (T429.setTop (mkF m 11 #[.val (.ref a0)] [])) _
    refine XS.aloadN X429.here hx rfl (hb hby own_d11_11) rfl rfl ?_
    show Steps p.tables e below (T429.setTop (mkF m 12 #[.val (.ref a0)] [(.ref a0)])) _
    refine st430 _ ?_
    show Steps p.tables e below (T430.setTop (mkF m 15 #[.val (.ref a0)] [(.ref lc)])) _
    refine st431 _ ?_
    show Steps p.tables e below (T431.setTop (mkF m 18 #[.val (.ref a0)] [(.ref b)])) _
    exact retOut X431 hx (t := (.object "java/lang/String")) (i := .areturn) Bd.returns rfl (Or.inr (Or.inr (Or.inr (Or.inr ⟨rfl, rfl, rfl⟩)))) (hb hby own_d11_18) hr
  · show own_QSi2 Z a0 lc b h0 n0 _ T431.heap _
    rw [e431]
    exact ⟨rfl, N0, rfl⟩
theorem own_d19_0 : decode jdk_71_method_1_code 0 = .ok (.aload_n 0, 1) := by decide +kernel
theorem own_d19_1 : decode jdk_71_method_1_code 1 = .ok (.invokespecial 1, 3) := by decide +kernel
theorem own_d19_4 : decode jdk_71_method_1_code 4 = .ok (.return_, 1) := by decide +kernel
theorem own_pn257 : plainName "java/util/AbstractMap" = true := by first | (simp [plainName, overriddenIn]; done) | decide +kernel
theorem own_ef19 (m : MethodId) (a0 : Addr) : entryFrame m #[(.ref a0)] 1 = mkF m 0 #[.val (.ref a0)] [] := by first | (simp [entryFrame, mkF, argsToLocals, Value.category]; done) | rfl
def own_Q19 (Z : State) (a0 : Addr) (h0 : Heap) (n0 : Nat) (v : Option Value) (h : Heap) (L : List Loc) : Prop := v = none ∧ Fr n0 L ∧ h = h0
set_option maxRecDepth 65536 in
set_option maxHeartbeats 40000000 in
theorem own_rm19 (l : Launch) (Z : State) (av : Array Value) (hw : ∀ d ∈ tables_1, d.before av Z = true) (ws : List Jvm.Cond) (a0 : Addr) (h0 : Heap) (n0 : Nat) (Z0 : n0 ≤ h0.size) :
    MetFree l (⟨"java/util/AbstractMap", "<init>", "()V"⟩ : MethodName) (head1 (Jvm.Cond.code (⟨"java/util/AbstractMap", "<init>", "()V"⟩ : MethodName) jdk_71_method_1_code 1 none :: ws) ({ frames := 1, cells := 0, slots := 0, locals := 12 } : Room)) (fun a U => a = #[(.ref a0)] ∧ Z.Warmed39 U.vm ∧ U.heap = h0) (fun _ _ _ _ _ => True) (fun _ U o U' => ∃ v L, o = .returned v ∧ own_Q19 Z a0 h0 n0 v U'.heap L ∧ FrameEnd U o U' L ({ frames := 1, cells := 0, slots := 0, locals := 12 } : Room).cells ({ frames := 1, cells := 0, slots := 0, locals := 12 } : Room).slots) := by
  refine MetFree.of_bodySF (plainFor_of_name own_pn257) hisR ?_
  intro p e s m args below meth c s₁ Bd hml0 hP hK
  obtain ⟨rfl, hZ, hh⟩ := hP
  have hx := Bd.exec
  have hby := Bd.bytes
  have hml : c.maxLocals = 1 := hml0
  have hown : s.vm.findClass "java/util/AbstractMap" = some m.cls := findClass_of_methodNamed Bd.named
  have hnm := (name_of_methodNamed Bd.named Bd.method).1
  have X0 : Stand p l e ({ frames := 1, cells := 0, slots := 0, locals := 12 } : Room) s m #[(.ref a0)] below meth c s₁ [] 0 0 := Stand.of_body Bd
  have e0 : s₁.heap = h0 := by rw [← hh, Bd.state]; rfl
  have N0 := Fr.nil n0
  have pre0 : ∀ t, Steps p.tables e below (s₁.setTop (mkF m 0 #[.val (.ref a0)] [])) t → Steps p.tables e below (s₁.setTop (entryFrame m #[(.ref a0)] 1)) t := fun t k => castTop (own_ef19 m a0) k
  obtain ⟨T432, X432, e432, st432⟩ := initO X0 hx hZ hown (hw _ (List.mem_of_getElem? (i := 101) rfl)) (hw _ (List.mem_of_getElem? (i := 22) rfl)) (hw _ (List.mem_of_getElem? (i := 23) rfl)) e0 (g := (mkF m 1 #[.val (.ref a0)] [(.ref a0)])) rfl (by rw [hml]; rfl) rfl (hb hby own_d19_1) (by decide) (W := 0) (by show 2 * 0 + _ ≤ _; exact Nat.le_of_eq rfl) (by decide)
  obtain ⟨fs, hr, hrun, hended, hW, hsame⟩ := X432.leave (v := none) (fun _ => rfl)
  refine ⟨_, _, pre0 _ ?_, hrun, hended, _, _, rfl, ?_, ⟨_, rfl⟩, hW, hsame.mono (by decide) (by decide)⟩
  · show Steps p.tables e below (s₁.setTop (mkF m 0 #[.val (.ref a0)] [])) _
    refine XS.aloadN X0.here hx rfl (hb hby own_d19_0) rfl rfl ?_
    show Steps p.tables e below (s₁.setTop (mkF m 1 #[.val (.ref a0)] [(.ref a0)])) _
    refine st432 _ ?_
    show Steps p.tables e below (T432.setTop (mkF m 4 #[.val (.ref a0)] [])) _
    exact X432.returnOut hx Bd.returns (hb hby own_d19_4) hr
  · show own_Q19 Z a0 h0 n0 _ T432.heap _
    rw [e432]
    exact ⟨rfl, N0, rfl⟩
theorem own_d22_0 : decode jdk_22_method_1_code 0 = .ok (.aload_n 0, 1) := by decide +kernel
theorem own_d22_1 : decode jdk_22_method_1_code 1 = .ok (.invokespecial 1, 3) := by decide +kernel
theorem own_d22_4 : decode jdk_22_method_1_code 4 = .ok (.return_, 1) := by decide +kernel
theorem own_pn261 : plainName "java/util/AbstractCollection" = true := by first | (simp [plainName, overriddenIn]; done) | decide +kernel
theorem own_ef22 (m : MethodId) (a0 : Addr) : entryFrame m #[(.ref a0)] 1 = mkF m 0 #[.val (.ref a0)] [] := by first | (simp [entryFrame, mkF, argsToLocals, Value.category]; done) | rfl
def own_Q22 (Z : State) (a0 : Addr) (h0 : Heap) (n0 : Nat) (v : Option Value) (h : Heap) (L : List Loc) : Prop := v = none ∧ Fr n0 L ∧ h = h0
set_option maxRecDepth 65536 in
set_option maxHeartbeats 40000000 in
theorem own_rm22 (l : Launch) (Z : State) (av : Array Value) (hw : ∀ d ∈ tables_1, d.before av Z = true) (ws : List Jvm.Cond) (a0 : Addr) (h0 : Heap) (n0 : Nat) (Z0 : n0 ≤ h0.size) :
    MetFree l (⟨"java/util/AbstractCollection", "<init>", "()V"⟩ : MethodName) (head1 (Jvm.Cond.code (⟨"java/util/AbstractCollection", "<init>", "()V"⟩ : MethodName) jdk_22_method_1_code 1 none :: ws) ({ frames := 1, cells := 0, slots := 0, locals := 12 } : Room)) (fun a U => a = #[(.ref a0)] ∧ Z.Warmed39 U.vm ∧ U.heap = h0) (fun _ _ _ _ _ => True) (fun _ U o U' => ∃ v L, o = .returned v ∧ own_Q22 Z a0 h0 n0 v U'.heap L ∧ FrameEnd U o U' L ({ frames := 1, cells := 0, slots := 0, locals := 12 } : Room).cells ({ frames := 1, cells := 0, slots := 0, locals := 12 } : Room).slots) := by
  refine MetFree.of_bodySF (plainFor_of_name own_pn261) hisR ?_
  intro p e s m args below meth c s₁ Bd hml0 hP hK
  obtain ⟨rfl, hZ, hh⟩ := hP
  have hx := Bd.exec
  have hby := Bd.bytes
  have hml : c.maxLocals = 1 := hml0
  have hown : s.vm.findClass "java/util/AbstractCollection" = some m.cls := findClass_of_methodNamed Bd.named
  have hnm := (name_of_methodNamed Bd.named Bd.method).1
  have X0 : Stand p l e ({ frames := 1, cells := 0, slots := 0, locals := 12 } : Room) s m #[(.ref a0)] below meth c s₁ [] 0 0 := Stand.of_body Bd
  have e0 : s₁.heap = h0 := by rw [← hh, Bd.state]; rfl
  have N0 := Fr.nil n0
  have pre0 : ∀ t, Steps p.tables e below (s₁.setTop (mkF m 0 #[.val (.ref a0)] [])) t → Steps p.tables e below (s₁.setTop (entryFrame m #[(.ref a0)] 1)) t := fun t k => castTop (own_ef22 m a0) k
  obtain ⟨T433, X433, e433, st433⟩ := initO X0 hx hZ hown (hw _ (List.mem_of_getElem? (i := 127) rfl)) (hw _ (List.mem_of_getElem? (i := 22) rfl)) (hw _ (List.mem_of_getElem? (i := 23) rfl)) e0 (g := (mkF m 1 #[.val (.ref a0)] [(.ref a0)])) rfl (by rw [hml]; rfl) rfl (hb hby own_d22_1) (by decide) (W := 0) (by show 2 * 0 + _ ≤ _; exact Nat.le_of_eq rfl) (by decide)
  obtain ⟨fs, hr, hrun, hended, hW, hsame⟩ := X433.leave (v := none) (fun _ => rfl)
  refine ⟨_, _, pre0 _ ?_, hrun, hended, _, _, rfl, ?_, ⟨_, rfl⟩, hW, hsame.mono (by decide) (by decide)⟩
  · show Steps p.tables e below (s₁.setTop (mkF m 0 #[.val (.ref a0)] [])) _
    refine XS.aloadN X0.here hx rfl (hb hby own_d22_0) rfl rfl ?_
    show Steps p.tables e below (s₁.setTop (mkF m 1 #[.val (.ref a0)] [(.ref a0)])) _
    refine st433 _ ?_
    show Steps p.tables e below (T433.setTop (mkF m 4 #[.val (.ref a0)] [])) _
    exact X433.returnOut hx Bd.returns (hb hby own_d22_4) hr
  · show own_Q22 Z a0 h0 n0 _ T433.heap _
    rw [e433]
    exact ⟨rfl, N0, rfl⟩
theorem own_d21_0 : decode jdk_91_method_1_code 0 = .ok (.aload_n 0, 1) := by decide +kernel
theorem own_d21_1 : decode jdk_91_method_1_code 1 = .ok (.invokespecial 1, 3) := by decide +kernel
theorem own_d21_4 : decode jdk_91_method_1_code 4 = .ok (.return_, 1) := by decide +kernel
theorem own_pn265 : plainName "java/util/AbstractSet" = true := by first | (simp [plainName, overriddenIn]; done) | decide +kernel
theorem own_ef21 (m : MethodId) (a0 : Addr) : entryFrame m #[(.ref a0)] 1 = mkF m 0 #[.val (.ref a0)] [] := by first | (simp [entryFrame, mkF, argsToLocals, Value.category]; done) | rfl
def own_Q21 (Z : State) (a0 : Addr) (h0 : Heap) (n0 : Nat) (v : Option Value) (h : Heap) (L : List Loc) : Prop := v = none ∧ Fr n0 L ∧ h = h0
set_option maxRecDepth 65536 in
set_option maxHeartbeats 40000000 in
theorem own_rm21 (l : Launch) (Z : State) (av : Array Value) (hw : ∀ d ∈ tables_1, d.before av Z = true) (ws : List Jvm.Cond) (a0 : Addr) (h0 : Heap) (n0 : Nat) (Z0 : n0 ≤ h0.size) :
    MetFree l (⟨"java/util/AbstractSet", "<init>", "()V"⟩ : MethodName) (head1 (Jvm.Cond.code (⟨"java/util/AbstractSet", "<init>", "()V"⟩ : MethodName) jdk_91_method_1_code 1 none :: ws) ({ frames := 2, cells := 0, slots := 0, locals := 24 } : Room)) (fun a U => a = #[(.ref a0)] ∧ Z.Warmed39 U.vm ∧ U.heap = h0) (fun _ _ _ _ _ => True) (fun _ U o U' => ∃ v L, o = .returned v ∧ own_Q21 Z a0 h0 n0 v U'.heap L ∧ FrameEnd U o U' L ({ frames := 2, cells := 0, slots := 0, locals := 24 } : Room).cells ({ frames := 2, cells := 0, slots := 0, locals := 24 } : Room).slots) := by
  refine MetFree.of_bodySF (plainFor_of_name own_pn265) hisR ?_
  intro p e s m args below meth c s₁ Bd hml0 hP hK
  obtain ⟨rfl, hZ, hh⟩ := hP
  have hx := Bd.exec
  have hby := Bd.bytes
  have hml : c.maxLocals = 1 := hml0
  have hown : s.vm.findClass "java/util/AbstractSet" = some m.cls := findClass_of_methodNamed Bd.named
  have hnm := (name_of_methodNamed Bd.named Bd.method).1
  have X0 : Stand p l e ({ frames := 2, cells := 0, slots := 0, locals := 24 } : Room) s m #[(.ref a0)] below meth c s₁ [] 0 0 := Stand.of_body Bd
  have e0 : s₁.heap = h0 := by rw [← hh, Bd.state]; rfl
  have N0 := Fr.nil n0
  have pre0 : ∀ t, Steps p.tables e below (s₁.setTop (mkF m 0 #[.val (.ref a0)] [])) t → Steps p.tables e below (s₁.setTop (entryFrame m #[(.ref a0)] 1)) t := fun t k => castTop (own_ef21 m a0) k
  obtain ⟨_, _, ⟨T434, L434, k434, n434⟩, -, X434, ⟨Lc434, hQ434, l434, y434, z434⟩, st434⟩ := X0.specialBack hx (y := (⟨"java/util/AbstractCollection", "<init>", "()V"⟩ : MethodName)) rfl hown (mvT hZ (hw _ (List.mem_of_getElem? (i := 121) rfl))) (mvT hZ (hw _ (List.mem_of_getElem? (i := 122) rfl))) (mvT hZ (hw _ (List.mem_of_getElem? (i := 126) rfl))) (by decide) (backOf (W := 0) (own_rm22 l Z av hw [] a0 h0 n0 Z0 ) hZ (hw _ (List.mem_of_getElem? (i := 126) rfl)) (hw _ (List.mem_of_getElem? (i := 125) rfl)) (by decide) (by decide)) (g := (mkF m 1 #[.val (.ref a0)] [(.ref a0)])) rfl (by rw [hml]; rfl) (Steps.refl _) (a := a0) (argsL := []) (rest := []) (lenOf own_pd10 rfl) rfl (by show 2 * 0 + _ ≤ _; exact Nat.le_of_eq rfl) (hb hby own_d21_1) (fun _ _ => ⟨rfl, e0, (by decide : 0 + 0 ≤ _), (by decide : 0 + 0 ≤ _)⟩)
  dsimp only [Pt.U, Pt.locs, Pt.cells, Pt.slots] at X434 l434 y434 z434 st434 hQ434
  subst l434 y434 z434
  obtain ⟨rfl, N434q, e436⟩ := hQ434
  have N435 := Fr.app N0 N434q
  obtain ⟨fs, hr, hrun, hended, hW, hsame⟩ := X434.leave (v := none) (fun _ => rfl)
  refine ⟨_, _, pre0 _ ?_, hrun, hended, _, _, rfl, ?_, ⟨_, rfl⟩, hW, hsame.mono (by decide) (by decide)⟩
  · show Steps p.tables e below (s₁.setTop (mkF m 0 #[.val (.ref a0)] [])) _
    refine XS.aloadN X0.here hx rfl (hb hby own_d21_0) rfl rfl ?_
    show Steps p.tables e below (s₁.setTop (mkF m 1 #[.val (.ref a0)] [(.ref a0)])) _
    refine st434.trans ?_
    show Steps p.tables e below (T434.setTop (mkF m 4 #[.val (.ref a0)] [])) _
    exact X434.returnOut hx Bd.returns (hb hby own_d21_4) hr
  · show own_Q21 Z a0 h0 n0 _ T434.heap _
    rw [e436]
    exact ⟨rfl, N435, rfl⟩
theorem own_d18_0 : decode jdk_69_method_7_code 0 = .ok (.aload_n 0, 1) := by decide +kernel
theorem own_d18_1 : decode jdk_69_method_7_code 1 = .ok (.invokespecial 43, 3) := by decide +kernel
theorem own_d18_4 : decode jdk_69_method_7_code 4 = .ok (.aload_n 0, 1) := by decide +kernel
theorem own_d18_5 : decode jdk_69_method_7_code 5 = .ok (.ldc 92, 2) := by decide +kernel
theorem own_d18_7 : decode jdk_69_method_7_code 7 = .ok (.putfield 81, 3) := by decide +kernel
theorem own_d18_10 : decode jdk_69_method_7_code 10 = .ok (.return_, 1) := by decide +kernel
theorem own_pn272 : plainName "java/util/HashMap" = true := by first | (simp [plainName, overriddenIn]; done) | decide +kernel
theorem own_ef18 (m : MethodId) (a0 : Addr) : entryFrame m #[(.ref a0)] 1 = mkF m 0 #[.val (.ref a0)] [] := by first | (simp [entryFrame, mkF, argsToLocals, Value.category]; done) | rfl
def own_Q18 (Z : State) (a0 : Addr) (h0 : Heap) (n0 : Nat) (v : Option Value) (h : Heap) (L : List Loc) : Prop := v = none ∧ Fr n0 L ∧ Keep h0 h [a0] ∧ (Exa Z h a0 "java/util/HashMap")
set_option maxRecDepth 65536 in
set_option maxHeartbeats 40000000 in
theorem own_rm18 (l : Launch) (Z : State) (av : Array Value) (hw : ∀ d ∈ tables_1, d.before av Z = true) (ws : List Jvm.Cond) (a0 : Addr) (h0 : Heap) (n0 : Nat) (Z0 : n0 ≤ h0.size) (pr0 : Exa Z h0 a0 "java/util/HashMap") (pr1 : Fld Z h0 a0 "java/util/HashMap" "loadFactor" "F" (.float (0 : UInt32))) (g_a0 : n0 ≤ a0) :
    MetFree l (⟨"java/util/HashMap", "<init>", "()V"⟩ : MethodName) (head1 (Jvm.Cond.code (⟨"java/util/HashMap", "<init>", "()V"⟩ : MethodName) jdk_69_method_7_code 1 none :: ws) ({ frames := 2, cells := 0, slots := 0, locals := 24 } : Room)) (fun a U => a = #[(.ref a0)] ∧ Z.Warmed39 U.vm ∧ U.heap = h0) (fun _ _ _ _ _ => True) (fun _ U o U' => ∃ v L, o = .returned v ∧ own_Q18 Z a0 h0 n0 v U'.heap L ∧ FrameEnd U o U' L ({ frames := 2, cells := 0, slots := 0, locals := 24 } : Room).cells ({ frames := 2, cells := 0, slots := 0, locals := 24 } : Room).slots) := by
  refine MetFree.of_bodySF (plainFor_of_name own_pn272) hisR ?_
  intro p e s m args below meth c s₁ Bd hml0 hP hK
  obtain ⟨rfl, hZ, hh⟩ := hP
  have hx := Bd.exec
  have hby := Bd.bytes
  have hml : c.maxLocals = 1 := hml0
  have hown : s.vm.findClass "java/util/HashMap" = some m.cls := findClass_of_methodNamed Bd.named
  have hnm := (name_of_methodNamed Bd.named Bd.method).1
  have X0 : Stand p l e ({ frames := 2, cells := 0, slots := 0, locals := 24 } : Room) s m #[(.ref a0)] below meth c s₁ [] 0 0 := Stand.of_body Bd
  have e0 : s₁.heap = h0 := by rw [← hh, Bd.state]; rfl
  have N0 := Fr.nil n0
  have pre0 : ∀ t, Steps p.tables e below (s₁.setTop (mkF m 0 #[.val (.ref a0)] [])) t → Steps p.tables e below (s₁.setTop (entryFrame m #[(.ref a0)] 1)) t := fun t k => castTop (own_ef18 m a0) k
  obtain ⟨_, _, ⟨T437, L437, k437, n437⟩, -, X437, ⟨Lc437, hQ437, l437, y437, z437⟩, st437⟩ := X0.specialBack hx (y := (⟨"java/util/AbstractMap", "<init>", "()V"⟩ : MethodName)) rfl hown (mvT hZ (hw _ (List.mem_of_getElem? (i := 95) rfl))) (mvT hZ (hw _ (List.mem_of_getElem? (i := 96) rfl))) (mvT hZ (hw _ (List.mem_of_getElem? (i := 100) rfl))) (by decide) (backOf (W := 0) (own_rm19 l Z av hw [] a0 h0 n0 Z0 ) hZ (hw _ (List.mem_of_getElem? (i := 100) rfl)) (hw _ (List.mem_of_getElem? (i := 99) rfl)) (by decide) (by decide)) (g := (mkF m 1 #[.val (.ref a0)] [(.ref a0)])) rfl (by rw [hml]; rfl) (Steps.refl _) (a := a0) (argsL := []) (rest := []) (lenOf own_pd10 rfl) rfl (by show 2 * 0 + _ ≤ _; exact Nat.le_of_eq rfl) (hb hby own_d18_1) (fun _ _ => ⟨rfl, e0, (by decide : 0 + 0 ≤ _), (by decide : 0 + 0 ≤ _)⟩)
  dsimp only [Pt.U, Pt.locs, Pt.cells, Pt.slots] at X437 l437 y437 z437 st437 hQ437
  subst l437 y437 z437
  obtain ⟨rfl, N437q, e439⟩ := hQ437
  have N438 := Fr.app N0 N437q
  obtain ⟨kf440, cff440, hkf440, hcf440, hpf440⟩ := Cond.constantFloat_spec hown (mvT hZ (hw _ (List.mem_of_getElem? (i := 102) rfl)) (args := #[]))
  obtain ⟨T441, h441, X441, e441, W441, st441⟩ := putF X437 hx hZ hown (host := "") (Or.inl (hw _ (List.mem_of_getElem? (i := 103) rfl))) Via.refl e439 pr1 pr0 (Or.inr ⟨(hw _ (List.mem_of_getElem? (i := 104) rfl)), rfl, hnm⟩) (hw _ (List.mem_of_getElem? (i := 90) rfl)) (ty := .float) (by decide) rfl rfl (g := (mkF m 7 #[.val (.ref a0)] [(.float (1061158912 : UInt32)), (.ref a0)])) rfl rfl (hb hby own_d18_7)
  have f442 := pr0.wr W441
  have K443 : Keep h0 h441 [a0] := (Keep.refl h0 [a0]).wr W441 (Or.inl (List.mem_of_getElem? (i := 0) rfl))
  have z444 : n0 ≤ h441.size := Nat.le_trans Z0 (Keep.of_wr W441).1
  have N445 := Fr.snoc X441 N438 g_a0
  have f446 : Fld Z h441 a0 "java/util/HashMap" "loadFactor" "F" (.float (1061158912 : UInt32)) := pr1.same W441
  obtain ⟨fs, hr, hrun, hended, hW, hsame⟩ := X441.leave (v := none) (fun _ => rfl)
  refine ⟨_, _, pre0 _ ?_, hrun, hended, _, _, rfl, ?_, ⟨_, rfl⟩, hW, hsame.mono (by decide) (by decide)⟩
  · show Steps p.tables e below (s₁.setTop (mkF m 0 #[.val (.ref a0)] [])) _
    refine XS.aloadN X0.here hx rfl (hb hby own_d18_0) rfl rfl ?_
    show Steps p.tables e below (s₁.setTop (mkF m 1 #[.val (.ref a0)] [(.ref a0)])) _
    refine st437.trans ?_
    show Steps p.tables e below (T437.setTop (mkF m 4 #[.val (.ref a0)] [])) _
    refine XS.aloadN X437.here hx rfl (hb hby own_d18_4) rfl rfl ?_
    show Steps p.tables e below (T437.setTop (mkF m 5 #[.val (.ref a0)] [(.ref a0)])) _
    refine X437.ldcFloat hx hkf440 hcf440 hpf440 (g := (mkF m 5 #[.val (.ref a0)] [(.ref a0)])) rfl (hb hby own_d18_5) _ ?_
    show Steps p.tables e below (T437.setTop (mkF m 7 #[.val (.ref a0)] [(.float (1061158912 : UInt32)), (.ref a0)])) _
    refine st441 _ ?_
    show Steps p.tables e below (T441.setTop (mkF m 10 #[.val (.ref a0)] [])) _
    exact X441.returnOut hx Bd.returns (hb hby own_d18_10) hr
  · show own_Q18 Z a0 h0 n0 _ T441.heap _
    rw [e441]
    exact ⟨rfl, N445, K443, f442⟩
theorem own_d20_0 : decode jdk_93_method_1_code 0 = .ok (.aload_n 0, 1) := by decide +kernel
theorem own_d20_1 : decode jdk_93_method_1_code 1 = .ok (.invokespecial 1, 3) := by decide +kernel
theorem own_d20_4 : decode jdk_93_method_1_code 4 = .ok (.aload_n 0, 1) := by decide +kernel
theorem own_d20_5 : decode jdk_93_method_1_code 5 = .ok (.new 7, 3) := by decide +kernel
theorem own_d20_8 : decode jdk_93_method_1_code 8 = .ok (.dup, 1) := by decide +kernel
theorem own_d20_9 : decode jdk_93_method_1_code 9 = .ok (.invokespecial 9, 3) := by decide +kernel
theorem own_d20_12 : decode jdk_93_method_1_code 12 = .ok (.putfield 10, 3) := by decide +kernel
theorem own_d20_15 : decode jdk_93_method_1_code 15 = .ok (.return_, 1) := by decide +kernel
theorem own_pn281 : plainName "java/util/HashSet" = true := by first | (simp [plainName, overriddenIn]; done) | decide +kernel
theorem own_ef20 (m : MethodId) (a0 : Addr) : entryFrame m #[(.ref a0)] 1 = mkF m 0 #[.val (.ref a0)] [] := by first | (simp [entryFrame, mkF, argsToLocals, Value.category]; done) | rfl
def own_Q20 (Z : State) (a0 : Addr) (h0 : Heap) (n0 : Nat) (v : Option Value) (h : Heap) (L : List Loc) : Prop := v = none ∧ Fr n0 L ∧ Keep h0 h [a0] ∧ (Exa Z h a0 "java/util/HashSet")
set_option maxRecDepth 65536 in
set_option maxHeartbeats 40000000 in
theorem own_rm20 (l : Launch) (Z : State) (av : Array Value) (hw : ∀ d ∈ tables_1, d.before av Z = true) (ws : List Jvm.Cond) (a0 : Addr) (h0 : Heap) (n0 : Nat) (Z0 : n0 ≤ h0.size) (pr0 : Exa Z h0 a0 "java/util/HashSet") (pr1 : Fld Z h0 a0 "java/util/HashSet" "map" "Ljava/util/HashMap;" .null) (g_a0 : n0 ≤ a0) :
    MetFree l (⟨"java/util/HashSet", "<init>", "()V"⟩ : MethodName) (head1 (Jvm.Cond.code (⟨"java/util/HashSet", "<init>", "()V"⟩ : MethodName) jdk_93_method_1_code 1 none :: ws) ({ frames := 3, cells := 1, slots := 8, locals := 38 } : Room)) (fun a U => a = #[(.ref a0)] ∧ Z.Warmed39 U.vm ∧ U.heap = h0) (fun _ _ _ _ _ => True) (fun _ U o U' => ∃ v L, o = .returned v ∧ own_Q20 Z a0 h0 n0 v U'.heap L ∧ FrameEnd U o U' L ({ frames := 3, cells := 1, slots := 8, locals := 38 } : Room).cells ({ frames := 3, cells := 1, slots := 8, locals := 38 } : Room).slots) := by
  refine MetFree.of_bodySF (plainFor_of_name own_pn281) hisR ?_
  intro p e s m args below meth c s₁ Bd hml0 hP hK
  obtain ⟨rfl, hZ, hh⟩ := hP
  have hx := Bd.exec
  have hby := Bd.bytes
  have hml : c.maxLocals = 1 := hml0
  have hown : s.vm.findClass "java/util/HashSet" = some m.cls := findClass_of_methodNamed Bd.named
  have hnm := (name_of_methodNamed Bd.named Bd.method).1
  have X0 : Stand p l e ({ frames := 3, cells := 1, slots := 8, locals := 38 } : Room) s m #[(.ref a0)] below meth c s₁ [] 0 0 := Stand.of_body Bd
  have e0 : s₁.heap = h0 := by rw [← hh, Bd.state]; rfl
  have N0 := Fr.nil n0
  have pre0 : ∀ t, Steps p.tables e below (s₁.setTop (mkF m 0 #[.val (.ref a0)] [])) t → Steps p.tables e below (s₁.setTop (entryFrame m #[(.ref a0)] 1)) t := fun t k => castTop (own_ef20 m a0) k
  obtain ⟨_, _, ⟨T447, L447, k447, n447⟩, -, X447, ⟨Lc447, hQ447, l447, y447, z447⟩, st447⟩ := X0.specialBack hx (y := (⟨"java/util/AbstractSet", "<init>", "()V"⟩ : MethodName)) rfl hown (mvT hZ (hw _ (List.mem_of_getElem? (i := 115) rfl))) (mvT hZ (hw _ (List.mem_of_getElem? (i := 116) rfl))) (mvT hZ (hw _ (List.mem_of_getElem? (i := 120) rfl))) (by decide) (backOf (W := 0) (own_rm21 l Z av hw [] a0 h0 n0 Z0 ) hZ (hw _ (List.mem_of_getElem? (i := 120) rfl)) (hw _ (List.mem_of_getElem? (i := 119) rfl)) (by decide) (by decide)) (g := (mkF m 1 #[.val (.ref a0)] [(.ref a0)])) rfl (by rw [hml]; rfl) (Steps.refl _) (a := a0) (argsL := []) (rest := []) (lenOf own_pd10 rfl) rfl (by show 2 * 0 + _ ≤ _; exact Nat.le_of_eq rfl) (hb hby own_d20_1) (fun _ _ => ⟨rfl, e0, (by decide : 0 + 0 ≤ _), (by decide : 0 + 0 ≤ _)⟩)
  dsimp only [Pt.U, Pt.locs, Pt.cells, Pt.slots] at X447 l447 y447 z447 st447 hQ447
  subst l447 y447 z447
  obtain ⟨rfl, N447q, e449⟩ := hQ447
  have N448 := Fr.app N0 N447q
  obtain ⟨T450, h450, X450, e450, E450, A450, D450, -, st450⟩ := newO X447 hx hZ hown (hw _ (List.mem_of_getElem? (i := 128) rfl)) (hw _ (List.mem_of_getElem? (i := 90) rfl)) (hw _ (List.mem_of_getElem? (i := 91) rfl)) e449 (g := (mkF m 5 #[.val (.ref a0)] [(.ref a0)])) rfl (hb hby own_d20_5) (by decide) (by decide)
  obtain ⟨b450, g450⟩ : ∃ z, z = h0.size := ⟨_, rfl⟩
  have ne_a0_b450 : a0 ≠ b450 := Nat.ne_of_lt (Nat.lt_of_lt_of_le pr0.lt (Nat.le_of_eq g450.symm))
  have g_b450 : n0 ≤ b450 := Nat.le_trans Z0 (Nat.le_of_eq g450.symm)
  have sz_b450 : h0.size ≤ b450 := Nat.le_trans (Keep.refl h0 [a0]).1 (Nat.le_of_eq g450.symm)
  rw [← g450] at A450 D450 st450
  have f451 := pr0.ext E450
  have f452 := pr1.ext E450
  have z453 : n0 ≤ h450.size := Nat.le_trans Z0 E450.1
  have K454 : Keep h0 h450 [a0] := (Keep.refl h0 [a0]).ext E450
  have f455 : Fld Z h450 b450 "java/util/HashMap" "loadFactor" "F" (.float (0 : UInt32)) := D450 (Or.inr (hw _ (List.mem_of_getElem? (i := 104) rfl))) (ty := .float) (by decide)
  obtain ⟨_, _, ⟨T456, L456, k456, n456⟩, -, X456, ⟨Lc456, hQ456, l456, y456, z456⟩, st456⟩ := X450.specialBack hx (y := (⟨"java/util/HashMap", "<init>", "()V"⟩ : MethodName)) rfl hown (mvT hZ (hw _ (List.mem_of_getElem? (i := 129) rfl))) (mvT hZ (hw _ (List.mem_of_getElem? (i := 93) rfl))) (mvT hZ (hw _ (List.mem_of_getElem? (i := 94) rfl))) (by decide) (backOf (W := 2) (own_rm18 l Z av hw [] b450 h450 n0 z453 A450 f455 g_b450) hZ (hw _ (List.mem_of_getElem? (i := 94) rfl)) (hw _ (List.mem_of_getElem? (i := 91) rfl)) (by decide) (by decide)) (g := (mkF m 9 #[.val (.ref a0)] [(.ref b450), (.ref b450), (.ref a0)])) rfl (by rw [hml]; rfl) (Steps.refl _) (a := b450) (argsL := []) (rest := [(.ref b450), (.ref a0)]) (lenOf own_pd10 rfl) rfl (by show 2 * 0 + _ ≤ _; exact Nat.le_of_eq rfl) (hb hby own_d20_9) (fun _ _ => ⟨rfl, e450, (by decide : 1 + 0 ≤ _), (by decide : 8 + 0 ≤ _)⟩)
  dsimp only [Pt.U, Pt.locs, Pt.cells, Pt.slots] at X456 l456 y456 z456 st456 hQ456
  subst l456 y456 z456
  obtain ⟨rfl, N456q, K456, f458⟩ := hQ456
  have f459 := f451.keep K456
  have f460 := f452.keep K456 (ninS ne_a0_b450 nin0)
  have K461 : Keep h0 T456.heap [a0] := K454.trans K456 (allS (Or.inr sz_b450) all0)
  have z462 : n0 ≤ T456.heap.size := Nat.le_trans z453 K456.1
  have N457 := Fr.app N448 N456q
  obtain ⟨T463, h463, X463, e463, W463, st463⟩ := putF X456 hx hZ hown (host := "") (Or.inl (hw _ (List.mem_of_getElem? (i := 131) rfl))) Via.refl rfl f460 f459 (Or.inl (hw _ (List.mem_of_getElem? (i := 132) rfl))) (hw _ (List.mem_of_getElem? (i := 110) rfl)) (ty := (.object "java/util/HashMap")) (by decide) rfl rfl (g := (mkF m 12 #[.val (.ref a0)] [(.ref b450), (.ref a0)])) rfl rfl (hb hby own_d20_12)
  have f464 := f459.wr W463
  have f465 := f458.wr W463
  have K466 : Keep h0 h463 [a0] := K461.wr W463 (Or.inl (List.mem_of_getElem? (i := 0) rfl))
  have z467 : n0 ≤ h463.size := Nat.le_trans z462 (Keep.of_wr W463).1
  have N468 := Fr.snoc X463 N457 g_a0
  have f469 : Fld Z h463 a0 "java/util/HashSet" "map" "Ljava/util/HashMap;" (.ref b450) := f460.same W463
  obtain ⟨fs, hr, hrun, hended, hW, hsame⟩ := X463.leave (v := none) (fun _ => rfl)
  refine ⟨_, _, pre0 _ ?_, hrun, hended, _, _, rfl, ?_, ⟨_, rfl⟩, hW, hsame.mono (by decide) (by decide)⟩
  · show Steps p.tables e below (s₁.setTop (mkF m 0 #[.val (.ref a0)] [])) _
    refine XS.aloadN X0.here hx rfl (hb hby own_d20_0) rfl rfl ?_
    show Steps p.tables e below (s₁.setTop (mkF m 1 #[.val (.ref a0)] [(.ref a0)])) _
    refine st447.trans ?_
    show Steps p.tables e below (T447.setTop (mkF m 4 #[.val (.ref a0)] [])) _
    refine XS.aloadN X447.here hx rfl (hb hby own_d20_4) rfl rfl ?_
    show Steps p.tables e below (T447.setTop (mkF m 5 #[.val (.ref a0)] [(.ref a0)])) _
    refine st450 _ ?_
    show Steps p.tables e below (T450.setTop (mkF m 8 #[.val (.ref a0)] [(.ref b450), (.ref a0)])) _
    refine XS.dup X450.here hx rfl (hb hby own_d20_8) rfl rfl ?_
    show Steps p.tables e below (T450.setTop (mkF m 9 #[.val (.ref a0)] [(.ref b450), (.ref b450), (.ref a0)])) _
    refine st456.trans ?_
    show Steps p.tables e below (T456.setTop (mkF m 12 #[.val (.ref a0)] [(.ref b450), (.ref a0)])) _
    refine st463 _ ?_
    show Steps p.tables e below (T463.setTop (mkF m 15 #[.val (.ref a0)] [])) _
    exact X463.returnOut hx Bd.returns (hb hby own_d20_15) hr
  · show own_Q20 Z a0 h0 n0 _ T463.heap _
    rw [e463]
    exact ⟨rfl, N468, K466, f464⟩
theorem own_d24_0 : decode jdk_39_method_1_code 0 = .ok (.aload_n 0, 1) := by decide +kernel
theorem own_d24_1 : decode jdk_39_method_1_code 1 = .ok (.invokespecial 1, 3) := by decide +kernel
theorem own_d24_4 : decode jdk_39_method_1_code 4 = .ok (.aload_n 0, 1) := by decide +kernel
theorem own_d24_5 : decode jdk_39_method_1_code 5 = .ok (.iconst 0, 1) := by decide +kernel
theorem own_d24_6 : decode jdk_39_method_1_code 6 = .ok (.putfield 7, 3) := by decide +kernel
theorem own_d24_9 : decode jdk_39_method_1_code 9 = .ok (.return_, 1) := by decide +kernel
theorem own_pn288 : plainName "java/util/AbstractList" = true := by first | (simp [plainName, overriddenIn]; done) | decide +kernel
theorem own_ef24 (m : MethodId) (a0 : Addr) : entryFrame m #[(.ref a0)] 1 = mkF m 0 #[.val (.ref a0)] [] := by first | (simp [entryFrame, mkF, argsToLocals, Value.category]; done) | rfl
def own_Q24 (Z : State) (a0 : Addr) (h0 : Heap) (n0 : Nat) (v : Option Value) (h : Heap) (L : List Loc) : Prop := v = none ∧ Fr n0 L ∧ Keep h0 h [a0] ∧ (Exa Z h a0 "java/util/ArrayList") ∧ (Fld Z h a0 "java/util/AbstractList" "modCount" "I" (.int (0 : Int32))) ∧ (Fld Z h a0 "java/util/ArrayList" "elementData" "[Ljava/lang/Object;" .null)
set_option maxRecDepth 65536 in
set_option maxHeartbeats 40000000 in
theorem own_rm24 (l : Launch) (Z : State) (av : Array Value) (hw : ∀ d ∈ tables_1, d.before av Z = true) (ws : List Jvm.Cond) (a0 : Addr) (h0 : Heap) (n0 : Nat) (Z0 : n0 ≤ h0.size) (pr0 : Exa Z h0 a0 "java/util/ArrayList") (pr1 : Fld Z h0 a0 "java/util/AbstractList" "modCount" "I" (.int (0 : Int32))) (pr2 : Fld Z h0 a0 "java/util/ArrayList" "elementData" "[Ljava/lang/Object;" .null) (g_a0 : n0 ≤ a0) :
    MetFree l (⟨"java/util/AbstractList", "<init>", "()V"⟩ : MethodName) (head1 (Jvm.Cond.code (⟨"java/util/AbstractList", "<init>", "()V"⟩ : MethodName) jdk_39_method_1_code 1 none :: ws) ({ frames := 2, cells := 0, slots := 0, locals := 24 } : Room)) (fun a U => a = #[(.ref a0)] ∧ Z.Warmed39 U.vm ∧ U.heap = h0) (fun _ _ _ _ _ => True) (fun _ U o U' => ∃ v L, o = .returned v ∧ own_Q24 Z a0 h0 n0 v U'.heap L ∧ FrameEnd U o U' L ({ frames := 2, cells := 0, slots := 0, locals := 24 } : Room).cells ({ frames := 2, cells := 0, slots := 0, locals := 24 } : Room).slots) := by
  refine MetFree.of_bodySF (plainFor_of_name own_pn288) hisR ?_
  intro p e s m args below meth c s₁ Bd hml0 hP hK
  obtain ⟨rfl, hZ, hh⟩ := hP
  have hx := Bd.exec
  have hby := Bd.bytes
  have hml : c.maxLocals = 1 := hml0
  have hown : s.vm.findClass "java/util/AbstractList" = some m.cls := findClass_of_methodNamed Bd.named
  have hnm := (name_of_methodNamed Bd.named Bd.method).1
  have X0 : Stand p l e ({ frames := 2, cells := 0, slots := 0, locals := 24 } : Room) s m #[(.ref a0)] below meth c s₁ [] 0 0 := Stand.of_body Bd
  have e0 : s₁.heap = h0 := by rw [← hh, Bd.state]; rfl
  have N0 := Fr.nil n0
  have pre0 : ∀ t, Steps p.tables e below (s₁.setTop (mkF m 0 #[.val (.ref a0)] [])) t → Steps p.tables e below (s₁.setTop (entryFrame m #[(.ref a0)] 1)) t := fun t k => castTop (own_ef24 m a0) k
  obtain ⟨_, _, ⟨T470, L470, k470, n470⟩, -, X470, ⟨Lc470, hQ470, l470, y470, z470⟩, st470⟩ := X0.specialBack hx (y := (⟨"java/util/AbstractCollection", "<init>", "()V"⟩ : MethodName)) rfl hown (mvT hZ (hw _ (List.mem_of_getElem? (i := 149) rfl))) (mvT hZ (hw _ (List.mem_of_getElem? (i := 122) rfl))) (mvT hZ (hw _ (List.mem_of_getElem? (i := 126) rfl))) (by decide) (backOf (W := 0) (own_rm22 l Z av hw [] a0 h0 n0 Z0 ) hZ (hw _ (List.mem_of_getElem? (i := 126) rfl)) (hw _ (List.mem_of_getElem? (i := 125) rfl)) (by decide) (by decide)) (g := (mkF m 1 #[.val (.ref a0)] [(.ref a0)])) rfl (by rw [hml]; rfl) (Steps.refl _) (a := a0) (argsL := []) (rest := []) (lenOf own_pd10 rfl) rfl (by show 2 * 0 + _ ≤ _; exact Nat.le_of_eq rfl) (hb hby own_d24_1) (fun _ _ => ⟨rfl, e0, (by decide : 0 + 0 ≤ _), (by decide : 0 + 0 ≤ _)⟩)
  dsimp only [Pt.U, Pt.locs, Pt.cells, Pt.slots] at X470 l470 y470 z470 st470 hQ470
  subst l470 y470 z470
  obtain ⟨rfl, N470q, e472⟩ := hQ470
  have N471 := Fr.app N0 N470q
  obtain ⟨T473, h473, X473, e473, W473, st473⟩ := putF X470 hx hZ hown (host := "") (Or.inl (hw _ (List.mem_of_getElem? (i := 151) rfl))) Via.refl e472 pr1 pr0 (Or.inl (hw _ (List.mem_of_getElem? (i := 152) rfl))) (hw _ (List.mem_of_getElem? (i := 138) rfl)) (ty := .int) (by decide) rfl rfl (g := (mkF m 6 #[.val (.ref a0)] [(.int (0 : Int32)), (.ref a0)])) rfl rfl (hb hby own_d24_6)
  have f474 := pr0.wr W473
  have f475 := pr2.other W473 (Or.inr (slot_ne (Or.inl (hw _ (List.mem_of_getElem? (i := 155) rfl))) (Or.inl (hw _ (List.mem_of_getElem? (i := 152) rfl))) (by decide) (t := (.array (.object "java/lang/Object"))) (t' := .int) (by decide) (by decide)))
  have K476 : Keep h0 h473 [a0] := (Keep.refl h0 [a0]).wr W473 (Or.inl (List.mem_of_getElem? (i := 0) rfl))
  have z477 : n0 ≤ h473.size := Nat.le_trans Z0 (Keep.of_wr W473).1
  have N478 := Fr.snoc X473 N471 g_a0
  have f479 : Fld Z h473 a0 "java/util/AbstractList" "modCount" "I" (.int (0 : Int32)) := pr1.same W473
  obtain ⟨fs, hr, hrun, hended, hW, hsame⟩ := X473.leave (v := none) (fun _ => rfl)
  refine ⟨_, _, pre0 _ ?_, hrun, hended, _, _, rfl, ?_, ⟨_, rfl⟩, hW, hsame.mono (by decide) (by decide)⟩
  · show Steps p.tables e below (s₁.setTop (mkF m 0 #[.val (.ref a0)] [])) _
    refine XS.aloadN X0.here hx rfl (hb hby own_d24_0) rfl rfl ?_
    show Steps p.tables e below (s₁.setTop (mkF m 1 #[.val (.ref a0)] [(.ref a0)])) _
    refine st470.trans ?_
    show Steps p.tables e below (T470.setTop (mkF m 4 #[.val (.ref a0)] [])) _
    refine XS.aloadN X470.here hx rfl (hb hby own_d24_4) rfl rfl ?_
    show Steps p.tables e below (T470.setTop (mkF m 5 #[.val (.ref a0)] [(.ref a0)])) _
    refine XS.iconst X470.here hx rfl (hb hby own_d24_5) ?_
    show Steps p.tables e below (T470.setTop (mkF m 6 #[.val (.ref a0)] [(.int (0 : Int32)), (.ref a0)])) _
    refine st473 _ ?_
    show Steps p.tables e below (T473.setTop (mkF m 9 #[.val (.ref a0)] [])) _
    exact X473.returnOut hx Bd.returns (hb hby own_d24_9) hr
  · show own_Q24 Z a0 h0 n0 _ T473.heap _
    rw [e473]
    exact ⟨rfl, N478, K476, f474, f479, f475⟩
theorem own_d23_0 : decode jdk_38_method_2_code 0 = .ok (.aload_n 0, 1) := by decide +kernel
theorem own_d23_1 : decode jdk_38_method_2_code 1 = .ok (.invokespecial 1, 3) := by decide +kernel
theorem own_d23_4 : decode jdk_38_method_2_code 4 = .ok (.aload_n 0, 1) := by decide +kernel
theorem own_d23_5 : decode jdk_38_method_2_code 5 = .ok (.getstatic 39, 3) := by decide +kernel
theorem own_d23_8 : decode jdk_38_method_2_code 8 = .ok (.putfield 9, 3) := by decide +kernel
theorem own_d23_11 : decode jdk_38_method_2_code 11 = .ok (.return_, 1) := by decide +kernel
theorem own_pn295 : plainName "java/util/ArrayList" = true := by first | (simp [plainName, overriddenIn]; done) | decide +kernel
theorem own_ef23 (m : MethodId) (a0 : Addr) : entryFrame m #[(.ref a0)] 1 = mkF m 0 #[.val (.ref a0)] [] := by first | (simp [entryFrame, mkF, argsToLocals, Value.category]; done) | rfl
def own_Q23 (Z : State) (a0 : Addr) (ed : Addr) (h0 : Heap) (n0 : Nat) (v : Option Value) (h : Heap) (L : List Loc) : Prop := v = none ∧ Fr n0 L ∧ Keep h0 h [a0] ∧ (Exa Z h a0 "java/util/ArrayList")
set_option maxRecDepth 65536 in
set_option maxHeartbeats 40000000 in
theorem own_rm23 (l : Launch) (Z : State) (av : Array Value) (hw : ∀ d ∈ tables_1, d.before av Z = true) (ws : List Jvm.Cond) (a0 : Addr) (ed : Addr) (h0 : Heap) (n0 : Nat) (Z0 : n0 ≤ h0.size) (pr0 : Exa Z h0 a0 "java/util/ArrayList") (pr1 : Fld Z h0 a0 "java/util/AbstractList" "modCount" "I" (.int (0 : Int32))) (pr2 : Fld Z h0 a0 "java/util/ArrayList" "elementData" "[Ljava/lang/Object;" .null) (pr3 : Sta Z h0 "java/util/ArrayList" "DEFAULTCAPACITY_EMPTY_ELEMENTDATA" "[Ljava/lang/Object;" (.ref ed)) (g_a0 : n0 ≤ a0) :
    MetFree l (⟨"java/util/ArrayList", "<init>", "()V"⟩ : MethodName) (head1 (Jvm.Cond.code (⟨"java/util/ArrayList", "<init>", "()V"⟩ : MethodName) jdk_38_method_2_code 1 none :: ws) ({ frames := 3, cells := 0, slots := 0, locals := 36 } : Room)) (fun a U => a = #[(.ref a0)] ∧ Z.Warmed39 U.vm ∧ U.heap = h0) (fun _ _ _ _ _ => True) (fun _ U o U' => ∃ v L, o = .returned v ∧ own_Q23 Z a0 ed h0 n0 v U'.heap L ∧ FrameEnd U o U' L ({ frames := 3, cells := 0, slots := 0, locals := 36 } : Room).cells ({ frames := 3, cells := 0, slots := 0, locals := 36 } : Room).slots) := by
  refine MetFree.of_bodySF (plainFor_of_name own_pn295) hisR ?_
  intro p e s m args below meth c s₁ Bd hml0 hP hK
  obtain ⟨rfl, hZ, hh⟩ := hP
  have hx := Bd.exec
  have hby := Bd.bytes
  have hml : c.maxLocals = 1 := hml0
  have hown : s.vm.findClass "java/util/ArrayList" = some m.cls := findClass_of_methodNamed Bd.named
  have hnm := (name_of_methodNamed Bd.named Bd.method).1
  have X0 : Stand p l e ({ frames := 3, cells := 0, slots := 0, locals := 36 } : Room) s m #[(.ref a0)] below meth c s₁ [] 0 0 := Stand.of_body Bd
  have e0 : s₁.heap = h0 := by rw [← hh, Bd.state]; rfl
  have N0 := Fr.nil n0
  have pre0 : ∀ t, Steps p.tables e below (s₁.setTop (mkF m 0 #[.val (.ref a0)] [])) t → Steps p.tables e below (s₁.setTop (entryFrame m #[(.ref a0)] 1)) t := fun t k => castTop (own_ef23 m a0) k
  obtain ⟨_, _, ⟨T480, L480, k480, n480⟩, -, X480, ⟨Lc480, hQ480, l480, y480, z480⟩, st480⟩ := X0.specialBack hx (y := (⟨"java/util/AbstractList", "<init>", "()V"⟩ : MethodName)) rfl hown (mvT hZ (hw _ (List.mem_of_getElem? (i := 143) rfl))) (mvT hZ (hw _ (List.mem_of_getElem? (i := 144) rfl))) (mvT hZ (hw _ (List.mem_of_getElem? (i := 148) rfl))) (by decide) (backOf (W := 0) (own_rm24 l Z av hw [] a0 h0 n0 Z0 pr0 pr1 pr2 g_a0) hZ (hw _ (List.mem_of_getElem? (i := 148) rfl)) (hw _ (List.mem_of_getElem? (i := 147) rfl)) (by decide) (by decide)) (g := (mkF m 1 #[.val (.ref a0)] [(.ref a0)])) rfl (by rw [hml]; rfl) (Steps.refl _) (a := a0) (argsL := []) (rest := []) (lenOf own_pd10 rfl) rfl (by show 2 * 0 + _ ≤ _; exact Nat.le_of_eq rfl) (hb hby own_d23_1) (fun _ _ => ⟨rfl, e0, (by decide : 0 + 0 ≤ _), (by decide : 0 + 0 ≤ _)⟩)
  dsimp only [Pt.U, Pt.locs, Pt.cells, Pt.slots] at X480 l480 y480 z480 st480 hQ480
  subst l480 y480 z480
  obtain ⟨rfl, N480q, K480, f482, f483, f484⟩ := hQ480
  have f485 := own_staKeep pr3 K480 (allS (own_nsE pr0) all0)
  have K486 : Keep h0 T480.heap [a0] := (Keep.refl h0 [a0]).trans K480 (allS (Or.inl (List.mem_of_getElem? (i := 0) rfl)) all0)
  have z487 : n0 ≤ T480.heap.size := Nat.le_trans Z0 K480.1
  have N481 := Fr.app N0 N480q
  obtain ⟨T488, X488, e488, st488⟩ := getS2 X480 hx hZ hown (host := "") (Or.inl (hw _ (List.mem_of_getElem? (i := 153) rfl))) Via.refl rfl f485 (g := (mkF m 5 #[.val (.ref a0)] [(.ref a0)])) rfl (hb hby own_d23_5)
  obtain ⟨T489, h489, X489, e489, W489, st489⟩ := putF X488 hx hZ hown (host := "") (Or.inl (hw _ (List.mem_of_getElem? (i := 154) rfl))) Via.refl e488 f484 f482 (Or.inl (hw _ (List.mem_of_getElem? (i := 155) rfl))) (hw _ (List.mem_of_getElem? (i := 138) rfl)) (ty := (.array (.object "java/lang/Object"))) (by decide) rfl rfl (g := (mkF m 8 #[.val (.ref a0)] [(.ref ed), (.ref a0)])) rfl rfl (hb hby own_d23_8)
  have f490 := f485.wr W489
  have f491 := f482.wr W489
  have f492 := f483.other W489 (Or.inr (slot_ne (Or.inl (hw _ (List.mem_of_getElem? (i := 152) rfl))) (Or.inl (hw _ (List.mem_of_getElem? (i := 155) rfl))) (by decide) (t := .int) (t' := (.array (.object "java/lang/Object"))) (by decide) (by decide)))
  have K493 : Keep h0 h489 [a0] := K486.wr W489 (Or.inl (List.mem_of_getElem? (i := 0) rfl))
  have z494 : n0 ≤ h489.size := Nat.le_trans z487 (Keep.of_wr W489).1
  have N495 := Fr.snoc X489 N481 g_a0
  have f496 : Fld Z h489 a0 "java/util/ArrayList" "elementData" "[Ljava/lang/Object;" (.ref ed) := f484.same W489
  obtain ⟨fs, hr, hrun, hended, hW, hsame⟩ := X489.leave (v := none) (fun _ => rfl)
  refine ⟨_, _, pre0 _ ?_, hrun, hended, _, _, rfl, ?_, ⟨_, rfl⟩, hW, hsame.mono (by decide) (by decide)⟩
  · show Steps p.tables e below (s₁.setTop (mkF m 0 #[.val (.ref a0)] [])) _
    refine XS.aloadN X0.here hx rfl (hb hby own_d23_0) rfl rfl ?_
    show Steps p.tables e below (s₁.setTop (mkF m 1 #[.val (.ref a0)] [(.ref a0)])) _
    refine st480.trans ?_
    show Steps p.tables e below (T480.setTop (mkF m 4 #[.val (.ref a0)] [])) _
    refine XS.aloadN X480.here hx rfl (hb hby own_d23_4) rfl rfl ?_
    show Steps p.tables e below (T480.setTop (mkF m 5 #[.val (.ref a0)] [(.ref a0)])) _
    refine st488 _ ?_
    show Steps p.tables e below (T488.setTop (mkF m 8 #[.val (.ref a0)] [(.ref ed), (.ref a0)])) _
    refine st489 _ ?_
    show Steps p.tables e below (T489.setTop (mkF m 11 #[.val (.ref a0)] [])) _
    exact X489.returnOut hx Bd.returns (hb hby own_d23_11) hr
  · show own_Q23 Z a0 ed h0 n0 _ T489.heap _
    rw [e489]
    exact ⟨rfl, N495, K493, f491⟩
theorem own_d17_0 : decode prog_98_method_1_code 0 = .ok (.aload_n 0, 1) := by decide +kernel
theorem own_d17_1 : decode prog_98_method_1_code 1 = .ok (.invokespecial 1, 3) := by decide +kernel
theorem own_d17_4 : decode prog_98_method_1_code 4 = .ok (.aload_n 0, 1) := by decide +kernel
theorem own_d17_5 : decode prog_98_method_1_code 5 = .ok (.new 7, 3) := by decide +kernel
theorem own_d17_8 : decode prog_98_method_1_code 8 = .ok (.dup, 1) := by decide +kernel
theorem own_d17_9 : decode prog_98_method_1_code 9 = .ok (.invokespecial 9, 3) := by decide +kernel
theorem own_d17_12 : decode prog_98_method_1_code 12 = .ok (.putfield 10, 3) := by decide +kernel
theorem own_d17_15 : decode prog_98_method_1_code 15 = .ok (.aload_n 0, 1) := by decide +kernel
theorem own_d17_16 : decode prog_98_method_1_code 16 = .ok (.new 7, 3) := by decide +kernel
theorem own_d17_19 : decode prog_98_method_1_code 19 = .ok (.dup, 1) := by decide +kernel
theorem own_d17_20 : decode prog_98_method_1_code 20 = .ok (.invokespecial 9, 3) := by decide +kernel
theorem own_d17_23 : decode prog_98_method_1_code 23 = .ok (.putfield 16, 3) := by decide +kernel
theorem own_d17_26 : decode prog_98_method_1_code 26 = .ok (.aload_n 0, 1) := by decide +kernel
theorem own_d17_27 : decode prog_98_method_1_code 27 = .ok (.new 19, 3) := by decide +kernel
theorem own_d17_30 : decode prog_98_method_1_code 30 = .ok (.dup, 1) := by decide +kernel
theorem own_d17_31 : decode prog_98_method_1_code 31 = .ok (.invokespecial 21, 3) := by decide +kernel
theorem own_d17_34 : decode prog_98_method_1_code 34 = .ok (.putfield 22, 3) := by decide +kernel
theorem own_d17_37 : decode prog_98_method_1_code 37 = .ok (.aload_n 0, 1) := by decide +kernel
theorem own_d17_38 : decode prog_98_method_1_code 38 = .ok (.new 7, 3) := by decide +kernel
theorem own_d17_41 : decode prog_98_method_1_code 41 = .ok (.dup, 1) := by decide +kernel
theorem own_d17_42 : decode prog_98_method_1_code 42 = .ok (.invokespecial 9, 3) := by decide +kernel
theorem own_d17_45 : decode prog_98_method_1_code 45 = .ok (.putfield 26, 3) := by decide +kernel
theorem own_d17_48 : decode prog_98_method_1_code 48 = .ok (.aload_n 0, 1) := by decide +kernel
theorem own_d17_49 : decode prog_98_method_1_code 49 = .ok (.new 29, 3) := by decide +kernel
theorem own_d17_52 : decode prog_98_method_1_code 52 = .ok (.dup, 1) := by decide +kernel
theorem own_d17_53 : decode prog_98_method_1_code 53 = .ok (.invokespecial 31, 3) := by decide +kernel
theorem own_d17_56 : decode prog_98_method_1_code 56 = .ok (.putfield 32, 3) := by decide +kernel
theorem own_d17_59 : decode prog_98_method_1_code 59 = .ok (.aload_n 0, 1) := by decide +kernel
theorem own_d17_60 : decode prog_98_method_1_code 60 = .ok (.new 7, 3) := by decide +kernel
theorem own_d17_63 : decode prog_98_method_1_code 63 = .ok (.dup, 1) := by decide +kernel
theorem own_d17_64 : decode prog_98_method_1_code 64 = .ok (.invokespecial 9, 3) := by decide +kernel
theorem own_d17_67 : decode prog_98_method_1_code 67 = .ok (.putfield 36, 3) := by decide +kernel
theorem own_d17_70 : decode prog_98_method_1_code 70 = .ok (.aload_n 0, 1) := by decide +kernel
theorem own_d17_71 : decode prog_98_method_1_code 71 = .ok (.new 29, 3) := by decide +kernel
theorem own_d17_74 : decode prog_98_method_1_code 74 = .ok (.dup, 1) := by decide +kernel
theorem own_d17_75 : decode prog_98_method_1_code 75 = .ok (.invokespecial 31, 3) := by decide +kernel
theorem own_d17_78 : decode prog_98_method_1_code 78 = .ok (.putfield 39, 3) := by decide +kernel
theorem own_d17_81 : decode prog_98_method_1_code 81 = .ok (.aload_n 0, 1) := by decide +kernel
theorem own_d17_82 : decode prog_98_method_1_code 82 = .ok (.new 7, 3) := by decide +kernel
theorem own_d17_85 : decode prog_98_method_1_code 85 = .ok (.dup, 1) := by decide +kernel
theorem own_d17_86 : decode prog_98_method_1_code 86 = .ok (.invokespecial 9, 3) := by decide +kernel
theorem own_d17_89 : decode prog_98_method_1_code 89 = .ok (.putfield 42, 3) := by decide +kernel
theorem own_d17_92 : decode prog_98_method_1_code 92 = .ok (.return_, 1) := by decide +kernel
theorem own_pn339 : plainName "com/example/thyme/thyme/lang/Symbols$Locals" = true := by first | (simp [plainName, overriddenIn]; done) | decide +kernel
theorem own_ef17 (m : MethodId) (a0 : Addr) : entryFrame m #[(.ref a0)] 1 = mkF m 0 #[.val (.ref a0)] [] := by first | (simp [entryFrame, mkF, argsToLocals, Value.category]; done) | rfl
def own_Q17 (Z : State) (a0 : Addr) (ed : Addr) (h0 : Heap) (n0 : Nat) (v : Option Value) (h : Heap) (L : List Loc) : Prop := v = none ∧ Fr n0 L ∧ Keep h0 h [a0] ∧ (Exa Z h a0 "com/example/thyme/thyme/lang/Symbols$Locals") ∧ (Fld Z h a0 "com/example/thyme/thyme/lang/Symbols$Locals" "instance" "Ljava/lang/String;" .null)
set_option maxRecDepth 65536 in
set_option maxHeartbeats 40000000 in
theorem own_rm17 (l : Launch) (Z : State) (av : Array Value) (hw : ∀ d ∈ tables_1, d.before av Z = true) (ws : List Jvm.Cond) (a0 : Addr) (ed : Addr) (h0 : Heap) (n0 : Nat) (Z0 : n0 ≤ h0.size) (pr0 : Exa Z h0 a0 "com/example/thyme/thyme/lang/Symbols$Locals") (pr1 : Fld Z h0 a0 "com/example/thyme/thyme/lang/Symbols$Locals" "parameters" "Ljava/util/Map;" .null) (pr2 : Fld Z h0 a0 "com/example/thyme/thyme/lang/Symbols$Locals" "names" "Ljava/util/Map;" .null) (pr3 : Fld Z h0 a0 "com/example/thyme/thyme/lang/Symbols$Locals" "variableNames" "Ljava/util/Set;" .null) (pr4 : Fld Z h0 a0 "com/example/thyme/thyme/lang/Symbols$Locals" "clocks" "Ljava/util/Map;" .null) (pr5 : Fld Z h0 a0 "com/example/thyme/thyme/lang/Symbols$Locals" "declaredClocks" "Ljava/util/List;" .null) (pr6 : Fld Z h0 a0 "com/example/thyme/thyme/lang/Symbols$Locals" "variables" "Ljava/util/Map;" .null) (pr7 : Fld Z h0 a0 "com/example/thyme/thyme/lang/Symbols$Locals" "declared" "Ljava/util/List;" .null) (pr8 : Fld Z h0 a0 "com/example/thyme/thyme/lang/Symbols$Locals" "locations" "Ljava/util/Map;" .null) (pr9 : Fld Z h0 a0 "com/example/thyme/thyme/lang/Symbols$Locals" "instance" "Ljava/lang/String;" .null) (pr10 : Sta Z h0 "java/util/ArrayList" "DEFAULTCAPACITY_EMPTY_ELEMENTDATA" "[Ljava/lang/Object;" (.ref ed)) (g_a0 : n0 ≤ a0) :
    MetFree l (⟨"com/example/thyme/thyme/lang/Symbols$Locals", "<init>", "()V"⟩ : MethodName) (head1 (Jvm.Cond.code (⟨"com/example/thyme/thyme/lang/Symbols$Locals", "<init>", "()V"⟩ : MethodName) prog_98_method_1_code 1 none :: ws) ({ frames := 4, cells := 9, slots := 55, locals := 52 } : Room)) (fun a U => a = #[(.ref a0)] ∧ Z.Warmed39 U.vm ∧ U.heap = h0) (fun _ _ _ _ _ => True) (fun _ U o U' => ∃ v L, o = .returned v ∧ own_Q17 Z a0 ed h0 n0 v U'.heap L ∧ FrameEnd U o U' L ({ frames := 4, cells := 9, slots := 55, locals := 52 } : Room).cells ({ frames := 4, cells := 9, slots := 55, locals := 52 } : Room).slots) := by
  refine MetFree.of_bodySF (plainFor_of_name own_pn339) hisR ?_
  intro p e s m args below meth c s₁ Bd hml0 hP hK
  obtain ⟨rfl, hZ, hh⟩ := hP
  have hx := Bd.exec
  have hby := Bd.bytes
  have hml : c.maxLocals = 1 := hml0
  have hown : s.vm.findClass "com/example/thyme/thyme/lang/Symbols$Locals" = some m.cls := findClass_of_methodNamed Bd.named
  have hnm := (name_of_methodNamed Bd.named Bd.method).1
  have X0 : Stand p l e ({ frames := 4, cells := 9, slots := 55, locals := 52 } : Room) s m #[(.ref a0)] below meth c s₁ [] 0 0 := Stand.of_body Bd
  have e0 : s₁.heap = h0 := by rw [← hh, Bd.state]; rfl
  have N0 := Fr.nil n0
  have pre0 : ∀ t, Steps p.tables e below (s₁.setTop (mkF m 0 #[.val (.ref a0)] [])) t → Steps p.tables e below (s₁.setTop (entryFrame m #[(.ref a0)] 1)) t := fun t k => castTop (own_ef17 m a0) k
  obtain ⟨T497, X497, e497, st497⟩ := initO X0 hx hZ hown (hw _ (List.mem_of_getElem? (i := 88) rfl)) (hw _ (List.mem_of_getElem? (i := 22) rfl)) (hw _ (List.mem_of_getElem? (i := 23) rfl)) e0 (g := (mkF m 1 #[.val (.ref a0)] [(.ref a0)])) rfl (by rw [hml]; rfl) rfl (hb hby own_d17_1) (by decide) (W := 0) (by show 2 * 0 + _ ≤ _; exact Nat.le_of_eq rfl) (by decide)
  obtain ⟨T498, h498, X498, e498, E498, A498, D498, -, st498⟩ := newO X497 hx hZ hown (hw _ (List.mem_of_getElem? (i := 89) rfl)) (hw _ (List.mem_of_getElem? (i := 90) rfl)) (hw _ (List.mem_of_getElem? (i := 91) rfl)) e497 (g := (mkF m 5 #[.val (.ref a0)] [(.ref a0)])) rfl (hb hby own_d17_5) (by decide) (by decide)
  obtain ⟨b498, g498⟩ : ∃ z, z = h0.size := ⟨_, rfl⟩
  have ne_a0_b498 : a0 ≠ b498 := Nat.ne_of_lt (Nat.lt_of_lt_of_le pr0.lt (Nat.le_of_eq g498.symm))
  have g_b498 : n0 ≤ b498 := Nat.le_trans Z0 (Nat.le_of_eq g498.symm)
  have sz_b498 : h0.size ≤ b498 := Nat.le_trans (Keep.refl h0 [a0]).1 (Nat.le_of_eq g498.symm)
  rw [← g498] at A498 D498 st498
  have f499 := pr0.ext E498
  have f500 := pr1.ext E498
  have f501 := pr2.ext E498
  have f502 := pr3.ext E498
  have f503 := pr4.ext E498
  have f504 := pr5.ext E498
  have f505 := pr6.ext E498
  have f506 := pr7.ext E498
  have f507 := pr8.ext E498
  have f508 := pr9.ext E498
  have f509 := pr10.ext E498
  have z510 : n0 ≤ h498.size := Nat.le_trans Z0 E498.1
  have K511 : Keep h0 h498 [a0] := (Keep.refl h0 [a0]).ext E498
  have f512 : Fld Z h498 b498 "java/util/HashMap" "loadFactor" "F" (.float (0 : UInt32)) := D498 (Or.inr (hw _ (List.mem_of_getElem? (i := 104) rfl))) (ty := .float) (by decide)
  obtain ⟨_, _, ⟨T513, L513, k513, n513⟩, -, X513, ⟨Lc513, hQ513, l513, y513, z513⟩, st513⟩ := X498.specialBack hx (y := (⟨"java/util/HashMap", "<init>", "()V"⟩ : MethodName)) rfl hown (mvT hZ (hw _ (List.mem_of_getElem? (i := 92) rfl))) (mvT hZ (hw _ (List.mem_of_getElem? (i := 93) rfl))) (mvT hZ (hw _ (List.mem_of_getElem? (i := 94) rfl))) (by decide) (backOf (W := 2) (own_rm18 l Z av hw [] b498 h498 n0 z510 A498 f512 g_b498) hZ (hw _ (List.mem_of_getElem? (i := 94) rfl)) (hw _ (List.mem_of_getElem? (i := 91) rfl)) (by decide) (by decide)) (g := (mkF m 9 #[.val (.ref a0)] [(.ref b498), (.ref b498), (.ref a0)])) rfl (by rw [hml]; rfl) (Steps.refl _) (a := b498) (argsL := []) (rest := [(.ref b498), (.ref a0)]) (lenOf own_pd10 rfl) rfl (by show 2 * 0 + _ ≤ _; exact Nat.le_of_eq rfl) (hb hby own_d17_9) (fun _ _ => ⟨rfl, e498, (by decide : 1 + 0 ≤ _), (by decide : 8 + 0 ≤ _)⟩)
  dsimp only [Pt.U, Pt.locs, Pt.cells, Pt.slots] at X513 l513 y513 z513 st513 hQ513
  subst l513 y513 z513
  obtain ⟨rfl, N513q, K513, f515⟩ := hQ513
  have f516 := f499.keep K513
  have f517 := f500.keep K513 (ninS ne_a0_b498 nin0)
  have f518 := f501.keep K513 (ninS ne_a0_b498 nin0)
  have f519 := f502.keep K513 (ninS ne_a0_b498 nin0)
  have f520 := f503.keep K513 (ninS ne_a0_b498 nin0)
  have f521 := f504.keep K513 (ninS ne_a0_b498 nin0)
  have f522 := f505.keep K513 (ninS ne_a0_b498 nin0)
  have f523 := f506.keep K513 (ninS ne_a0_b498 nin0)
  have f524 := f507.keep K513 (ninS ne_a0_b498 nin0)
  have f525 := f508.keep K513 (ninS ne_a0_b498 nin0)
  have f526 := own_staKeep f509 K513 (allS (own_nsE A498) all0)
  have K527 : Keep h0 T513.heap [a0] := K511.trans K513 (allS (Or.inr sz_b498) all0)
  have z528 : n0 ≤ T513.heap.size := Nat.le_trans z510 K513.1
  have N514 := Fr.app N0 N513q
  obtain ⟨T529, h529, X529, e529, W529, st529⟩ := putF X513 hx hZ hown (host := "") (Or.inl (hw _ (List.mem_of_getElem? (i := 105) rfl))) Via.refl rfl f517 f516 (Or.inr ⟨(hw _ (List.mem_of_getElem? (i := 106) rfl)), rfl, hnm⟩) (hw _ (List.mem_of_getElem? (i := 83) rfl)) (ty := (.object "java/util/Map")) (by decide) rfl rfl (g := (mkF m 12 #[.val (.ref a0)] [(.ref b498), (.ref a0)])) rfl rfl (hb hby own_d17_12)
  have f530 := f516.wr W529
  have f531 := f518.other W529 (Or.inr (slot_ne (Or.inr (hw _ (List.mem_of_getElem? (i := 108) rfl))) (Or.inr (hw _ (List.mem_of_getElem? (i := 106) rfl))) (by decide) (t := (.object "java/util/Map")) (t' := (.object "java/util/Map")) (by decide) (by decide)))
  have f532 := f519.other W529 (Or.inr (slot_ne (Or.inr (hw _ (List.mem_of_getElem? (i := 134) rfl))) (Or.inr (hw _ (List.mem_of_getElem? (i := 106) rfl))) (by decide) (t := (.object "java/util/Set")) (t' := (.object "java/util/Map")) (by decide) (by decide)))
  have f533 := f520.other W529 (Or.inr (slot_ne (Or.inr (hw _ (List.mem_of_getElem? (i := 136) rfl))) (Or.inr (hw _ (List.mem_of_getElem? (i := 106) rfl))) (by decide) (t := (.object "java/util/Map")) (t' := (.object "java/util/Map")) (by decide) (by decide)))
  have f534 := f521.other W529 (Or.inr (slot_ne (Or.inr (hw _ (List.mem_of_getElem? (i := 157) rfl))) (Or.inr (hw _ (List.mem_of_getElem? (i := 106) rfl))) (by decide) (t := (.object "java/util/List")) (t' := (.object "java/util/Map")) (by decide) (by decide)))
  have f535 := f522.other W529 (Or.inr (slot_ne (Or.inr (hw _ (List.mem_of_getElem? (i := 159) rfl))) (Or.inr (hw _ (List.mem_of_getElem? (i := 106) rfl))) (by decide) (t := (.object "java/util/Map")) (t' := (.object "java/util/Map")) (by decide) (by decide)))
  have f536 := f523.other W529 (Or.inr (slot_ne (Or.inr (hw _ (List.mem_of_getElem? (i := 161) rfl))) (Or.inr (hw _ (List.mem_of_getElem? (i := 106) rfl))) (by decide) (t := (.object "java/util/List")) (t' := (.object "java/util/Map")) (by decide) (by decide)))
  have f537 := f524.other W529 (Or.inr (slot_ne (Or.inr (hw _ (List.mem_of_getElem? (i := 163) rfl))) (Or.inr (hw _ (List.mem_of_getElem? (i := 106) rfl))) (by decide) (t := (.object "java/util/Map")) (t' := (.object "java/util/Map")) (by decide) (by decide)))
  have f538 := f525.other W529 (Or.inr (slot_ne (Or.inl (hw _ (List.mem_of_getElem? (i := 165) rfl))) (Or.inr (hw _ (List.mem_of_getElem? (i := 106) rfl))) (by decide) (t := (.object "java/lang/String")) (t' := (.object "java/util/Map")) (by decide) (by decide)))
  have f539 := f526.wr W529
  have f540 := f515.wr W529
  have K541 : Keep h0 h529 [a0] := K527.wr W529 (Or.inl (List.mem_of_getElem? (i := 0) rfl))
  have z542 : n0 ≤ h529.size := Nat.le_trans z528 (Keep.of_wr W529).1
  have N543 := Fr.snoc X529 N514 g_a0
  have f544 : Fld Z h529 a0 "com/example/thyme/thyme/lang/Symbols$Locals" "parameters" "Ljava/util/Map;" (.ref b498) := f517.same W529
  obtain ⟨T545, h545, X545, e545, E545, A545, D545, -, st545⟩ := newO X529 hx hZ hown (hw _ (List.mem_of_getElem? (i := 89) rfl)) (hw _ (List.mem_of_getElem? (i := 90) rfl)) (hw _ (List.mem_of_getElem? (i := 91) rfl)) e529 (g := (mkF m 16 #[.val (.ref a0)] [(.ref a0)])) rfl (hb hby own_d17_16) (by decide) (by decide)
  obtain ⟨b545, g545⟩ : ∃ z, z = h529.size := ⟨_, rfl⟩
  have ne_a0_b545 : a0 ≠ b545 := Nat.ne_of_lt (Nat.lt_of_lt_of_le f530.lt (Nat.le_of_eq g545.symm))
  have ne_b498_b545 : b498 ≠ b545 := Nat.ne_of_lt (Nat.lt_of_lt_of_le f540.lt (Nat.le_of_eq g545.symm))
  have g_b545 : n0 ≤ b545 := Nat.le_trans z542 (Nat.le_of_eq g545.symm)
  have sz_b545 : h0.size ≤ b545 := Nat.le_trans K541.1 (Nat.le_of_eq g545.symm)
  rw [← g545] at A545 D545 st545
  have f546 := f530.ext E545
  have f547 := f544.ext E545
  have f548 := f531.ext E545
  have f549 := f532.ext E545
  have f550 := f533.ext E545
  have f551 := f534.ext E545
  have f552 := f535.ext E545
  have f553 := f536.ext E545
  have f554 := f537.ext E545
  have f555 := f538.ext E545
  have f556 := f539.ext E545
  have f557 := f540.ext E545
  have z558 : n0 ≤ h545.size := Nat.le_trans z542 E545.1
  have K559 : Keep h0 h545 [a0] := K541.ext E545
  have f560 : Fld Z h545 b545 "java/util/HashMap" "loadFactor" "F" (.float (0 : UInt32)) := D545 (Or.inr (hw _ (List.mem_of_getElem? (i := 104) rfl))) (ty := .float) (by decide)
  obtain ⟨_, _, ⟨T561, L561, k561, n561⟩, -, X561, ⟨Lc561, hQ561, l561, y561, z561⟩, st561⟩ := X545.specialBack hx (y := (⟨"java/util/HashMap", "<init>", "()V"⟩ : MethodName)) rfl hown (mvT hZ (hw _ (List.mem_of_getElem? (i := 92) rfl))) (mvT hZ (hw _ (List.mem_of_getElem? (i := 93) rfl))) (mvT hZ (hw _ (List.mem_of_getElem? (i := 94) rfl))) (by decide) (backOf (W := 2) (own_rm18 l Z av hw [] b545 h545 n0 z558 A545 f560 g_b545) hZ (hw _ (List.mem_of_getElem? (i := 94) rfl)) (hw _ (List.mem_of_getElem? (i := 91) rfl)) (by decide) (by decide)) (g := (mkF m 20 #[.val (.ref a0)] [(.ref b545), (.ref b545), (.ref a0)])) rfl (by rw [hml]; rfl) (Steps.refl _) (a := b545) (argsL := []) (rest := [(.ref b545), (.ref a0)]) (lenOf own_pd10 rfl) rfl (by show 2 * 0 + _ ≤ _; exact Nat.le_of_eq rfl) (hb hby own_d17_20) (fun _ _ => ⟨rfl, e545, (by decide : 2 + 0 ≤ _), (by decide : 16 + 0 ≤ _)⟩)
  dsimp only [Pt.U, Pt.locs, Pt.cells, Pt.slots] at X561 l561 y561 z561 st561 hQ561
  subst l561 y561 z561
  obtain ⟨rfl, N561q, K561, f563⟩ := hQ561
  have f564 := f546.keep K561
  have f565 := f547.keep K561 (ninS ne_a0_b545 nin0)
  have f566 := f548.keep K561 (ninS ne_a0_b545 nin0)
  have f567 := f549.keep K561 (ninS ne_a0_b545 nin0)
  have f568 := f550.keep K561 (ninS ne_a0_b545 nin0)
  have f569 := f551.keep K561 (ninS ne_a0_b545 nin0)
  have f570 := f552.keep K561 (ninS ne_a0_b545 nin0)
  have f571 := f553.keep K561 (ninS ne_a0_b545 nin0)
  have f572 := f554.keep K561 (ninS ne_a0_b545 nin0)
  have f573 := f555.keep K561 (ninS ne_a0_b545 nin0)
  have f574 := own_staKeep f556 K561 (allS (own_nsE A545) all0)
  have f575 := f557.keep K561
  have K576 : Keep h0 T561.heap [a0] := K559.trans K561 (allS (Or.inr sz_b545) all0)
  have z577 : n0 ≤ T561.heap.size := Nat.le_trans z558 K561.1
  have N562 := Fr.app N543 N561q
  obtain ⟨T578, h578, X578, e578, W578, st578⟩ := putF X561 hx hZ hown (host := "") (Or.inl (hw _ (List.mem_of_getElem? (i := 107) rfl))) Via.refl rfl f566 f564 (Or.inr ⟨(hw _ (List.mem_of_getElem? (i := 108) rfl)), rfl, hnm⟩) (hw _ (List.mem_of_getElem? (i := 83) rfl)) (ty := (.object "java/util/Map")) (by decide) rfl rfl (g := (mkF m 23 #[.val (.ref a0)] [(.ref b545), (.ref a0)])) rfl rfl (hb hby own_d17_23)
  have f579 := f564.wr W578
  have f580 := f565.other W578 (Or.inr (slot_ne (Or.inr (hw _ (List.mem_of_getElem? (i := 106) rfl))) (Or.inr (hw _ (List.mem_of_getElem? (i := 108) rfl))) (by decide) (t := (.object "java/util/Map")) (t' := (.object "java/util/Map")) (by decide) (by decide)))
  have f581 := f567.other W578 (Or.inr (slot_ne (Or.inr (hw _ (List.mem_of_getElem? (i := 134) rfl))) (Or.inr (hw _ (List.mem_of_getElem? (i := 108) rfl))) (by decide) (t := (.object "java/util/Set")) (t' := (.object "java/util/Map")) (by decide) (by decide)))
  have f582 := f568.other W578 (Or.inr (slot_ne (Or.inr (hw _ (List.mem_of_getElem? (i := 136) rfl))) (Or.inr (hw _ (List.mem_of_getElem? (i := 108) rfl))) (by decide) (t := (.object "java/util/Map")) (t' := (.object "java/util/Map")) (by decide) (by decide)))
  have f583 := f569.other W578 (Or.inr (slot_ne (Or.inr (hw _ (List.mem_of_getElem? (i := 157) rfl))) (Or.inr (hw _ (List.mem_of_getElem? (i := 108) rfl))) (by decide) (t := (.object "java/util/List")) (t' := (.object "java/util/Map")) (by decide) (by decide)))
  have f584 := f570.other W578 (Or.inr (slot_ne (Or.inr (hw _ (List.mem_of_getElem? (i := 159) rfl))) (Or.inr (hw _ (List.mem_of_getElem? (i := 108) rfl))) (by decide) (t := (.object "java/util/Map")) (t' := (.object "java/util/Map")) (by decide) (by decide)))
  have f585 := f571.other W578 (Or.inr (slot_ne (Or.inr (hw _ (List.mem_of_getElem? (i := 161) rfl))) (Or.inr (hw _ (List.mem_of_getElem? (i := 108) rfl))) (by decide) (t := (.object "java/util/List")) (t' := (.object "java/util/Map")) (by decide) (by decide)))
  have f586 := f572.other W578 (Or.inr (slot_ne (Or.inr (hw _ (List.mem_of_getElem? (i := 163) rfl))) (Or.inr (hw _ (List.mem_of_getElem? (i := 108) rfl))) (by decide) (t := (.object "java/util/Map")) (t' := (.object "java/util/Map")) (by decide) (by decide)))
  have f587 := f573.other W578 (Or.inr (slot_ne (Or.inl (hw _ (List.mem_of_getElem? (i := 165) rfl))) (Or.inr (hw _ (List.mem_of_getElem? (i := 108) rfl))) (by decide) (t := (.object "java/lang/String")) (t' := (.object "java/util/Map")) (by decide) (by decide)))
  have f588 := f574.wr W578
  have f589 := f575.wr W578
  have f590 := f563.wr W578
  have K591 : Keep h0 h578 [a0] := K576.wr W578 (Or.inl (List.mem_of_getElem? (i := 0) rfl))
  have z592 : n0 ≤ h578.size := Nat.le_trans z577 (Keep.of_wr W578).1
  have N593 := Fr.snoc X578 N562 g_a0
  have f594 : Fld Z h578 a0 "com/example/thyme/thyme/lang/Symbols$Locals" "names" "Ljava/util/Map;" (.ref b545) := f566.same W578
  obtain ⟨T595, h595, X595, e595, E595, A595, D595, -, st595⟩ := newO X578 hx hZ hown (hw _ (List.mem_of_getElem? (i := 109) rfl)) (hw _ (List.mem_of_getElem? (i := 110) rfl)) (hw _ (List.mem_of_getElem? (i := 111) rfl)) e578 (g := (mkF m 27 #[.val (.ref a0)] [(.ref a0)])) rfl (hb hby own_d17_27) (by decide) (by decide)
  obtain ⟨b595, g595⟩ : ∃ z, z = h578.size := ⟨_, rfl⟩
  have ne_a0_b595 : a0 ≠ b595 := Nat.ne_of_lt (Nat.lt_of_lt_of_le f579.lt (Nat.le_of_eq g595.symm))
  have ne_b498_b595 : b498 ≠ b595 := Nat.ne_of_lt (Nat.lt_of_lt_of_le f589.lt (Nat.le_of_eq g595.symm))
  have ne_b545_b595 : b545 ≠ b595 := Nat.ne_of_lt (Nat.lt_of_lt_of_le f590.lt (Nat.le_of_eq g595.symm))
  have g_b595 : n0 ≤ b595 := Nat.le_trans z592 (Nat.le_of_eq g595.symm)
  have sz_b595 : h0.size ≤ b595 := Nat.le_trans K591.1 (Nat.le_of_eq g595.symm)
  rw [← g595] at A595 D595 st595
  have f596 := f579.ext E595
  have f597 := f580.ext E595
  have f598 := f594.ext E595
  have f599 := f581.ext E595
  have f600 := f582.ext E595
  have f601 := f583.ext E595
  have f602 := f584.ext E595
  have f603 := f585.ext E595
  have f604 := f586.ext E595
  have f605 := f587.ext E595
  have f606 := f588.ext E595
  have f607 := f589.ext E595
  have f608 := f590.ext E595
  have z609 : n0 ≤ h595.size := Nat.le_trans z592 E595.1
  have K610 : Keep h0 h595 [a0] := K591.ext E595
  have f611 : Fld Z h595 b595 "java/util/HashSet" "map" "Ljava/util/HashMap;" .null := D595 (Or.inl (hw _ (List.mem_of_getElem? (i := 132) rfl))) (ty := (.object "java/util/HashMap")) (by decide)
  obtain ⟨_, _, ⟨T612, L612, k612, n612⟩, -, X612, ⟨Lc612, hQ612, l612, y612, z612⟩, st612⟩ := X595.specialBack hx (y := (⟨"java/util/HashSet", "<init>", "()V"⟩ : MethodName)) rfl hown (mvT hZ (hw _ (List.mem_of_getElem? (i := 112) rfl))) (mvT hZ (hw _ (List.mem_of_getElem? (i := 113) rfl))) (mvT hZ (hw _ (List.mem_of_getElem? (i := 114) rfl))) (by decide) (backOf (W := 2) (own_rm20 l Z av hw [] b595 h595 n0 z609 A595 f611 g_b595) hZ (hw _ (List.mem_of_getElem? (i := 114) rfl)) (hw _ (List.mem_of_getElem? (i := 111) rfl)) (by decide) (by decide)) (g := (mkF m 31 #[.val (.ref a0)] [(.ref b595), (.ref b595), (.ref a0)])) rfl (by rw [hml]; rfl) (Steps.refl _) (a := b595) (argsL := []) (rest := [(.ref b595), (.ref a0)]) (lenOf own_pd10 rfl) rfl (by show 2 * 0 + _ ≤ _; exact Nat.le_of_eq rfl) (hb hby own_d17_31) (fun _ _ => ⟨rfl, e595, (by decide : 3 + 1 ≤ _), (by decide : 17 + 8 ≤ _)⟩)
  dsimp only [Pt.U, Pt.locs, Pt.cells, Pt.slots] at X612 l612 y612 z612 st612 hQ612
  subst l612 y612 z612
  obtain ⟨rfl, N612q, K612, f614⟩ := hQ612
  have f615 := f596.keep K612
  have f616 := f597.keep K612 (ninS ne_a0_b595 nin0)
  have f617 := f598.keep K612 (ninS ne_a0_b595 nin0)
  have f618 := f599.keep K612 (ninS ne_a0_b595 nin0)
  have f619 := f600.keep K612 (ninS ne_a0_b595 nin0)
  have f620 := f601.keep K612 (ninS ne_a0_b595 nin0)
  have f621 := f602.keep K612 (ninS ne_a0_b595 nin0)
  have f622 := f603.keep K612 (ninS ne_a0_b595 nin0)
  have f623 := f604.keep K612 (ninS ne_a0_b595 nin0)
  have f624 := f605.keep K612 (ninS ne_a0_b595 nin0)
  have f625 := own_staKeep f606 K612 (allS (own_nsE A595) all0)
  have f626 := f607.keep K612
  have f627 := f608.keep K612
  have K628 : Keep h0 T612.heap [a0] := K610.trans K612 (allS (Or.inr sz_b595) all0)
  have z629 : n0 ≤ T612.heap.size := Nat.le_trans z609 K612.1
  have N613 := Fr.app N593 N612q
  obtain ⟨T630, h630, X630, e630, W630, st630⟩ := putF X612 hx hZ hown (host := "") (Or.inl (hw _ (List.mem_of_getElem? (i := 133) rfl))) Via.refl rfl f618 f615 (Or.inr ⟨(hw _ (List.mem_of_getElem? (i := 134) rfl)), rfl, hnm⟩) (hw _ (List.mem_of_getElem? (i := 83) rfl)) (ty := (.object "java/util/Set")) (by decide) rfl rfl (g := (mkF m 34 #[.val (.ref a0)] [(.ref b595), (.ref a0)])) rfl rfl (hb hby own_d17_34)
  have f631 := f615.wr W630
  have f632 := f616.other W630 (Or.inr (slot_ne (Or.inr (hw _ (List.mem_of_getElem? (i := 106) rfl))) (Or.inr (hw _ (List.mem_of_getElem? (i := 134) rfl))) (by decide) (t := (.object "java/util/Map")) (t' := (.object "java/util/Set")) (by decide) (by decide)))
  have f633 := f617.other W630 (Or.inr (slot_ne (Or.inr (hw _ (List.mem_of_getElem? (i := 108) rfl))) (Or.inr (hw _ (List.mem_of_getElem? (i := 134) rfl))) (by decide) (t := (.object "java/util/Map")) (t' := (.object "java/util/Set")) (by decide) (by decide)))
  have f634 := f619.other W630 (Or.inr (slot_ne (Or.inr (hw _ (List.mem_of_getElem? (i := 136) rfl))) (Or.inr (hw _ (List.mem_of_getElem? (i := 134) rfl))) (by decide) (t := (.object "java/util/Map")) (t' := (.object "java/util/Set")) (by decide) (by decide)))
  have f635 := f620.other W630 (Or.inr (slot_ne (Or.inr (hw _ (List.mem_of_getElem? (i := 157) rfl))) (Or.inr (hw _ (List.mem_of_getElem? (i := 134) rfl))) (by decide) (t := (.object "java/util/List")) (t' := (.object "java/util/Set")) (by decide) (by decide)))
  have f636 := f621.other W630 (Or.inr (slot_ne (Or.inr (hw _ (List.mem_of_getElem? (i := 159) rfl))) (Or.inr (hw _ (List.mem_of_getElem? (i := 134) rfl))) (by decide) (t := (.object "java/util/Map")) (t' := (.object "java/util/Set")) (by decide) (by decide)))
  have f637 := f622.other W630 (Or.inr (slot_ne (Or.inr (hw _ (List.mem_of_getElem? (i := 161) rfl))) (Or.inr (hw _ (List.mem_of_getElem? (i := 134) rfl))) (by decide) (t := (.object "java/util/List")) (t' := (.object "java/util/Set")) (by decide) (by decide)))
  have f638 := f623.other W630 (Or.inr (slot_ne (Or.inr (hw _ (List.mem_of_getElem? (i := 163) rfl))) (Or.inr (hw _ (List.mem_of_getElem? (i := 134) rfl))) (by decide) (t := (.object "java/util/Map")) (t' := (.object "java/util/Set")) (by decide) (by decide)))
  have f639 := f624.other W630 (Or.inr (slot_ne (Or.inl (hw _ (List.mem_of_getElem? (i := 165) rfl))) (Or.inr (hw _ (List.mem_of_getElem? (i := 134) rfl))) (by decide) (t := (.object "java/lang/String")) (t' := (.object "java/util/Set")) (by decide) (by decide)))
  have f640 := f625.wr W630
  have f641 := f626.wr W630
  have f642 := f627.wr W630
  have f643 := f614.wr W630
  have K644 : Keep h0 h630 [a0] := K628.wr W630 (Or.inl (List.mem_of_getElem? (i := 0) rfl))
  have z645 : n0 ≤ h630.size := Nat.le_trans z629 (Keep.of_wr W630).1
  have N646 := Fr.snoc X630 N613 g_a0
  have f647 : Fld Z h630 a0 "com/example/thyme/thyme/lang/Symbols$Locals" "variableNames" "Ljava/util/Set;" (.ref b595) := f618.same W630
  obtain ⟨T648, h648, X648, e648, E648, A648, D648, -, st648⟩ := newO X630 hx hZ hown (hw _ (List.mem_of_getElem? (i := 89) rfl)) (hw _ (List.mem_of_getElem? (i := 90) rfl)) (hw _ (List.mem_of_getElem? (i := 91) rfl)) e630 (g := (mkF m 38 #[.val (.ref a0)] [(.ref a0)])) rfl (hb hby own_d17_38) (by decide) (by decide)
  obtain ⟨b648, g648⟩ : ∃ z, z = h630.size := ⟨_, rfl⟩
  have ne_a0_b648 : a0 ≠ b648 := Nat.ne_of_lt (Nat.lt_of_lt_of_le f631.lt (Nat.le_of_eq g648.symm))
  have ne_b498_b648 : b498 ≠ b648 := Nat.ne_of_lt (Nat.lt_of_lt_of_le f641.lt (Nat.le_of_eq g648.symm))
  have ne_b545_b648 : b545 ≠ b648 := Nat.ne_of_lt (Nat.lt_of_lt_of_le f642.lt (Nat.le_of_eq g648.symm))
  have ne_b595_b648 : b595 ≠ b648 := Nat.ne_of_lt (Nat.lt_of_lt_of_le f643.lt (Nat.le_of_eq g648.symm))
  have g_b648 : n0 ≤ b648 := Nat.le_trans z645 (Nat.le_of_eq g648.symm)
  have sz_b648 : h0.size ≤ b648 := Nat.le_trans K644.1 (Nat.le_of_eq g648.symm)
  rw [← g648] at A648 D648 st648
  have f649 := f631.ext E648
  have f650 := f632.ext E648
  have f651 := f633.ext E648
  have f652 := f647.ext E648
  have f653 := f634.ext E648
  have f654 := f635.ext E648
  have f655 := f636.ext E648
  have f656 := f637.ext E648
  have f657 := f638.ext E648
  have f658 := f639.ext E648
  have f659 := f640.ext E648
  have f660 := f641.ext E648
  have f661 := f642.ext E648
  have f662 := f643.ext E648
  have z663 : n0 ≤ h648.size := Nat.le_trans z645 E648.1
  have K664 : Keep h0 h648 [a0] := K644.ext E648
  have f665 : Fld Z h648 b648 "java/util/HashMap" "loadFactor" "F" (.float (0 : UInt32)) := D648 (Or.inr (hw _ (List.mem_of_getElem? (i := 104) rfl))) (ty := .float) (by decide)
  obtain ⟨_, _, ⟨T666, L666, k666, n666⟩, -, X666, ⟨Lc666, hQ666, l666, y666, z666⟩, st666⟩ := X648.specialBack hx (y := (⟨"java/util/HashMap", "<init>", "()V"⟩ : MethodName)) rfl hown (mvT hZ (hw _ (List.mem_of_getElem? (i := 92) rfl))) (mvT hZ (hw _ (List.mem_of_getElem? (i := 93) rfl))) (mvT hZ (hw _ (List.mem_of_getElem? (i := 94) rfl))) (by decide) (backOf (W := 2) (own_rm18 l Z av hw [] b648 h648 n0 z663 A648 f665 g_b648) hZ (hw _ (List.mem_of_getElem? (i := 94) rfl)) (hw _ (List.mem_of_getElem? (i := 91) rfl)) (by decide) (by decide)) (g := (mkF m 42 #[.val (.ref a0)] [(.ref b648), (.ref b648), (.ref a0)])) rfl (by rw [hml]; rfl) (Steps.refl _) (a := b648) (argsL := []) (rest := [(.ref b648), (.ref a0)]) (lenOf own_pd10 rfl) rfl (by show 2 * 0 + _ ≤ _; exact Nat.le_of_eq rfl) (hb hby own_d17_42) (fun _ _ => ⟨rfl, e648, (by decide : 5 + 0 ≤ _), (by decide : 33 + 0 ≤ _)⟩)
  dsimp only [Pt.U, Pt.locs, Pt.cells, Pt.slots] at X666 l666 y666 z666 st666 hQ666
  subst l666 y666 z666
  obtain ⟨rfl, N666q, K666, f668⟩ := hQ666
  have f669 := f649.keep K666
  have f670 := f650.keep K666 (ninS ne_a0_b648 nin0)
  have f671 := f651.keep K666 (ninS ne_a0_b648 nin0)
  have f672 := f652.keep K666 (ninS ne_a0_b648 nin0)
  have f673 := f653.keep K666 (ninS ne_a0_b648 nin0)
  have f674 := f654.keep K666 (ninS ne_a0_b648 nin0)
  have f675 := f655.keep K666 (ninS ne_a0_b648 nin0)
  have f676 := f656.keep K666 (ninS ne_a0_b648 nin0)
  have f677 := f657.keep K666 (ninS ne_a0_b648 nin0)
  have f678 := f658.keep K666 (ninS ne_a0_b648 nin0)
  have f679 := own_staKeep f659 K666 (allS (own_nsE A648) all0)
  have f680 := f660.keep K666
  have f681 := f661.keep K666
  have f682 := f662.keep K666
  have K683 : Keep h0 T666.heap [a0] := K664.trans K666 (allS (Or.inr sz_b648) all0)
  have z684 : n0 ≤ T666.heap.size := Nat.le_trans z663 K666.1
  have N667 := Fr.app N646 N666q
  obtain ⟨T685, h685, X685, e685, W685, st685⟩ := putF X666 hx hZ hown (host := "") (Or.inl (hw _ (List.mem_of_getElem? (i := 135) rfl))) Via.refl rfl f673 f669 (Or.inr ⟨(hw _ (List.mem_of_getElem? (i := 136) rfl)), rfl, hnm⟩) (hw _ (List.mem_of_getElem? (i := 83) rfl)) (ty := (.object "java/util/Map")) (by decide) rfl rfl (g := (mkF m 45 #[.val (.ref a0)] [(.ref b648), (.ref a0)])) rfl rfl (hb hby own_d17_45)
  have f686 := f669.wr W685
  have f687 := f670.other W685 (Or.inr (slot_ne (Or.inr (hw _ (List.mem_of_getElem? (i := 106) rfl))) (Or.inr (hw _ (List.mem_of_getElem? (i := 136) rfl))) (by decide) (t := (.object "java/util/Map")) (t' := (.object "java/util/Map")) (by decide) (by decide)))
  have f688 := f671.other W685 (Or.inr (slot_ne (Or.inr (hw _ (List.mem_of_getElem? (i := 108) rfl))) (Or.inr (hw _ (List.mem_of_getElem? (i := 136) rfl))) (by decide) (t := (.object "java/util/Map")) (t' := (.object "java/util/Map")) (by decide) (by decide)))
  have f689 := f672.other W685 (Or.inr (slot_ne (Or.inr (hw _ (List.mem_of_getElem? (i := 134) rfl))) (Or.inr (hw _ (List.mem_of_getElem? (i := 136) rfl))) (by decide) (t := (.object "java/util/Set")) (t' := (.object "java/util/Map")) (by decide) (by decide)))
  have f690 := f674.other W685 (Or.inr (slot_ne (Or.inr (hw _ (List.mem_of_getElem? (i := 157) rfl))) (Or.inr (hw _ (List.mem_of_getElem? (i := 136) rfl))) (by decide) (t := (.object "java/util/List")) (t' := (.object "java/util/Map")) (by decide) (by decide)))
  have f691 := f675.other W685 (Or.inr (slot_ne (Or.inr (hw _ (List.mem_of_getElem? (i := 159) rfl))) (Or.inr (hw _ (List.mem_of_getElem? (i := 136) rfl))) (by decide) (t := (.object "java/util/Map")) (t' := (.object "java/util/Map")) (by decide) (by decide)))
  have f692 := f676.other W685 (Or.inr (slot_ne (Or.inr (hw _ (List.mem_of_getElem? (i := 161) rfl))) (Or.inr (hw _ (List.mem_of_getElem? (i := 136) rfl))) (by decide) (t := (.object "java/util/List")) (t' := (.object "java/util/Map")) (by decide) (by decide)))
  have f693 := f677.other W685 (Or.inr (slot_ne (Or.inr (hw _ (List.mem_of_getElem? (i := 163) rfl))) (Or.inr (hw _ (List.mem_of_getElem? (i := 136) rfl))) (by decide) (t := (.object "java/util/Map")) (t' := (.object "java/util/Map")) (by decide) (by decide)))
  have f694 := f678.other W685 (Or.inr (slot_ne (Or.inl (hw _ (List.mem_of_getElem? (i := 165) rfl))) (Or.inr (hw _ (List.mem_of_getElem? (i := 136) rfl))) (by decide) (t := (.object "java/lang/String")) (t' := (.object "java/util/Map")) (by decide) (by decide)))
  have f695 := f679.wr W685
  have f696 := f680.wr W685
  have f697 := f681.wr W685
  have f698 := f682.wr W685
  have f699 := f668.wr W685
  have K700 : Keep h0 h685 [a0] := K683.wr W685 (Or.inl (List.mem_of_getElem? (i := 0) rfl))
  have z701 : n0 ≤ h685.size := Nat.le_trans z684 (Keep.of_wr W685).1
  have N702 := Fr.snoc X685 N667 g_a0
  have f703 : Fld Z h685 a0 "com/example/thyme/thyme/lang/Symbols$Locals" "clocks" "Ljava/util/Map;" (.ref b648) := f673.same W685
  obtain ⟨T704, h704, X704, e704, E704, A704, D704, -, st704⟩ := newO X685 hx hZ hown (hw _ (List.mem_of_getElem? (i := 137) rfl)) (hw _ (List.mem_of_getElem? (i := 138) rfl)) (hw _ (List.mem_of_getElem? (i := 139) rfl)) e685 (g := (mkF m 49 #[.val (.ref a0)] [(.ref a0)])) rfl (hb hby own_d17_49) (by decide) (by decide)
  obtain ⟨b704, g704⟩ : ∃ z, z = h685.size := ⟨_, rfl⟩
  have ne_a0_b704 : a0 ≠ b704 := Nat.ne_of_lt (Nat.lt_of_lt_of_le f686.lt (Nat.le_of_eq g704.symm))
  have ne_b498_b704 : b498 ≠ b704 := Nat.ne_of_lt (Nat.lt_of_lt_of_le f696.lt (Nat.le_of_eq g704.symm))
  have ne_b545_b704 : b545 ≠ b704 := Nat.ne_of_lt (Nat.lt_of_lt_of_le f697.lt (Nat.le_of_eq g704.symm))
  have ne_b595_b704 : b595 ≠ b704 := Nat.ne_of_lt (Nat.lt_of_lt_of_le f698.lt (Nat.le_of_eq g704.symm))
  have ne_b648_b704 : b648 ≠ b704 := Nat.ne_of_lt (Nat.lt_of_lt_of_le f699.lt (Nat.le_of_eq g704.symm))
  have g_b704 : n0 ≤ b704 := Nat.le_trans z701 (Nat.le_of_eq g704.symm)
  have sz_b704 : h0.size ≤ b704 := Nat.le_trans K700.1 (Nat.le_of_eq g704.symm)
  rw [← g704] at A704 D704 st704
  have f705 := f686.ext E704
  have f706 := f687.ext E704
  have f707 := f688.ext E704
  have f708 := f689.ext E704
  have f709 := f703.ext E704
  have f710 := f690.ext E704
  have f711 := f691.ext E704
  have f712 := f692.ext E704
  have f713 := f693.ext E704
  have f714 := f694.ext E704
  have f715 := f695.ext E704
  have f716 := f696.ext E704
  have f717 := f697.ext E704
  have f718 := f698.ext E704
  have f719 := f699.ext E704
  have z720 : n0 ≤ h704.size := Nat.le_trans z701 E704.1
  have K721 : Keep h0 h704 [a0] := K700.ext E704
  have f722 : Fld Z h704 b704 "java/util/AbstractList" "modCount" "I" (.int (0 : Int32)) := D704 (Or.inl (hw _ (List.mem_of_getElem? (i := 152) rfl))) (ty := .int) (by decide)
  have f723 : Fld Z h704 b704 "java/util/ArrayList" "elementData" "[Ljava/lang/Object;" .null := D704 (Or.inl (hw _ (List.mem_of_getElem? (i := 155) rfl))) (ty := (.array (.object "java/lang/Object"))) (by decide)
  obtain ⟨_, _, ⟨T724, L724, k724, n724⟩, -, X724, ⟨Lc724, hQ724, l724, y724, z724⟩, st724⟩ := X704.specialBack hx (y := (⟨"java/util/ArrayList", "<init>", "()V"⟩ : MethodName)) rfl hown (mvT hZ (hw _ (List.mem_of_getElem? (i := 140) rfl))) (mvT hZ (hw _ (List.mem_of_getElem? (i := 141) rfl))) (mvT hZ (hw _ (List.mem_of_getElem? (i := 142) rfl))) (by decide) (backOf (W := 2) (own_rm23 l Z av hw [] b704 (ed) h704 n0 z720 A704 f722 f723 f715 g_b704) hZ (hw _ (List.mem_of_getElem? (i := 142) rfl)) (hw _ (List.mem_of_getElem? (i := 139) rfl)) (by decide) (by decide)) (g := (mkF m 53 #[.val (.ref a0)] [(.ref b704), (.ref b704), (.ref a0)])) rfl (by rw [hml]; rfl) (Steps.refl _) (a := b704) (argsL := []) (rest := [(.ref b704), (.ref a0)]) (lenOf own_pd10 rfl) rfl (by show 2 * 0 + _ ≤ _; exact Nat.le_of_eq rfl) (hb hby own_d17_53) (fun _ _ => ⟨rfl, e704, (by decide : 6 + 0 ≤ _), (by decide : 36 + 0 ≤ _)⟩)
  dsimp only [Pt.U, Pt.locs, Pt.cells, Pt.slots] at X724 l724 y724 z724 st724 hQ724
  subst l724 y724 z724
  obtain ⟨rfl, N724q, K724, f726⟩ := hQ724
  have f727 := f705.keep K724
  have f728 := f706.keep K724 (ninS ne_a0_b704 nin0)
  have f729 := f707.keep K724 (ninS ne_a0_b704 nin0)
  have f730 := f708.keep K724 (ninS ne_a0_b704 nin0)
  have f731 := f709.keep K724 (ninS ne_a0_b704 nin0)
  have f732 := f710.keep K724 (ninS ne_a0_b704 nin0)
  have f733 := f711.keep K724 (ninS ne_a0_b704 nin0)
  have f734 := f712.keep K724 (ninS ne_a0_b704 nin0)
  have f735 := f713.keep K724 (ninS ne_a0_b704 nin0)
  have f736 := f714.keep K724 (ninS ne_a0_b704 nin0)
  have f737 := own_staKeep f715 K724 (allS (own_nsE A704) all0)
  have f738 := f716.keep K724
  have f739 := f717.keep K724
  have f740 := f718.keep K724
  have f741 := f719.keep K724
  have K742 : Keep h0 T724.heap [a0] := K721.trans K724 (allS (Or.inr sz_b704) all0)
  have z743 : n0 ≤ T724.heap.size := Nat.le_trans z720 K724.1
  have N725 := Fr.app N702 N724q
  obtain ⟨T744, h744, X744, e744, W744, st744⟩ := putF X724 hx hZ hown (host := "") (Or.inl (hw _ (List.mem_of_getElem? (i := 156) rfl))) Via.refl rfl f732 f727 (Or.inr ⟨(hw _ (List.mem_of_getElem? (i := 157) rfl)), rfl, hnm⟩) (hw _ (List.mem_of_getElem? (i := 83) rfl)) (ty := (.object "java/util/List")) (by decide) rfl rfl (g := (mkF m 56 #[.val (.ref a0)] [(.ref b704), (.ref a0)])) rfl rfl (hb hby own_d17_56)
  have f745 := f727.wr W744
  have f746 := f728.other W744 (Or.inr (slot_ne (Or.inr (hw _ (List.mem_of_getElem? (i := 106) rfl))) (Or.inr (hw _ (List.mem_of_getElem? (i := 157) rfl))) (by decide) (t := (.object "java/util/Map")) (t' := (.object "java/util/List")) (by decide) (by decide)))
  have f747 := f729.other W744 (Or.inr (slot_ne (Or.inr (hw _ (List.mem_of_getElem? (i := 108) rfl))) (Or.inr (hw _ (List.mem_of_getElem? (i := 157) rfl))) (by decide) (t := (.object "java/util/Map")) (t' := (.object "java/util/List")) (by decide) (by decide)))
  have f748 := f730.other W744 (Or.inr (slot_ne (Or.inr (hw _ (List.mem_of_getElem? (i := 134) rfl))) (Or.inr (hw _ (List.mem_of_getElem? (i := 157) rfl))) (by decide) (t := (.object "java/util/Set")) (t' := (.object "java/util/List")) (by decide) (by decide)))
  have f749 := f731.other W744 (Or.inr (slot_ne (Or.inr (hw _ (List.mem_of_getElem? (i := 136) rfl))) (Or.inr (hw _ (List.mem_of_getElem? (i := 157) rfl))) (by decide) (t := (.object "java/util/Map")) (t' := (.object "java/util/List")) (by decide) (by decide)))
  have f750 := f733.other W744 (Or.inr (slot_ne (Or.inr (hw _ (List.mem_of_getElem? (i := 159) rfl))) (Or.inr (hw _ (List.mem_of_getElem? (i := 157) rfl))) (by decide) (t := (.object "java/util/Map")) (t' := (.object "java/util/List")) (by decide) (by decide)))
  have f751 := f734.other W744 (Or.inr (slot_ne (Or.inr (hw _ (List.mem_of_getElem? (i := 161) rfl))) (Or.inr (hw _ (List.mem_of_getElem? (i := 157) rfl))) (by decide) (t := (.object "java/util/List")) (t' := (.object "java/util/List")) (by decide) (by decide)))
  have f752 := f735.other W744 (Or.inr (slot_ne (Or.inr (hw _ (List.mem_of_getElem? (i := 163) rfl))) (Or.inr (hw _ (List.mem_of_getElem? (i := 157) rfl))) (by decide) (t := (.object "java/util/Map")) (t' := (.object "java/util/List")) (by decide) (by decide)))
  have f753 := f736.other W744 (Or.inr (slot_ne (Or.inl (hw _ (List.mem_of_getElem? (i := 165) rfl))) (Or.inr (hw _ (List.mem_of_getElem? (i := 157) rfl))) (by decide) (t := (.object "java/lang/String")) (t' := (.object "java/util/List")) (by decide) (by decide)))
  have f754 := f737.wr W744
  have f755 := f738.wr W744
  have f756 := f739.wr W744
  have f757 := f740.wr W744
  have f758 := f741.wr W744
  have f759 := f726.wr W744
  have K760 : Keep h0 h744 [a0] := K742.wr W744 (Or.inl (List.mem_of_getElem? (i := 0) rfl))
  have z761 : n0 ≤ h744.size := Nat.le_trans z743 (Keep.of_wr W744).1
  have N762 := Fr.snoc X744 N725 g_a0
  have f763 : Fld Z h744 a0 "com/example/thyme/thyme/lang/Symbols$Locals" "declaredClocks" "Ljava/util/List;" (.ref b704) := f732.same W744
  obtain ⟨T764, h764, X764, e764, E764, A764, D764, -, st764⟩ := newO X744 hx hZ hown (hw _ (List.mem_of_getElem? (i := 89) rfl)) (hw _ (List.mem_of_getElem? (i := 90) rfl)) (hw _ (List.mem_of_getElem? (i := 91) rfl)) e744 (g := (mkF m 60 #[.val (.ref a0)] [(.ref a0)])) rfl (hb hby own_d17_60) (by decide) (by decide)
  obtain ⟨b764, g764⟩ : ∃ z, z = h744.size := ⟨_, rfl⟩
  have ne_a0_b764 : a0 ≠ b764 := Nat.ne_of_lt (Nat.lt_of_lt_of_le f745.lt (Nat.le_of_eq g764.symm))
  have ne_b498_b764 : b498 ≠ b764 := Nat.ne_of_lt (Nat.lt_of_lt_of_le f755.lt (Nat.le_of_eq g764.symm))
  have ne_b545_b764 : b545 ≠ b764 := Nat.ne_of_lt (Nat.lt_of_lt_of_le f756.lt (Nat.le_of_eq g764.symm))
  have ne_b595_b764 : b595 ≠ b764 := Nat.ne_of_lt (Nat.lt_of_lt_of_le f757.lt (Nat.le_of_eq g764.symm))
  have ne_b648_b764 : b648 ≠ b764 := Nat.ne_of_lt (Nat.lt_of_lt_of_le f758.lt (Nat.le_of_eq g764.symm))
  have ne_b704_b764 : b704 ≠ b764 := Nat.ne_of_lt (Nat.lt_of_lt_of_le f759.lt (Nat.le_of_eq g764.symm))
  have g_b764 : n0 ≤ b764 := Nat.le_trans z761 (Nat.le_of_eq g764.symm)
  have sz_b764 : h0.size ≤ b764 := Nat.le_trans K760.1 (Nat.le_of_eq g764.symm)
  rw [← g764] at A764 D764 st764
  have f765 := f745.ext E764
  have f766 := f746.ext E764
  have f767 := f747.ext E764
  have f768 := f748.ext E764
  have f769 := f749.ext E764
  have f770 := f763.ext E764
  have f771 := f750.ext E764
  have f772 := f751.ext E764
  have f773 := f752.ext E764
  have f774 := f753.ext E764
  have f775 := f754.ext E764
  have f776 := f755.ext E764
  have f777 := f756.ext E764
  have f778 := f757.ext E764
  have f779 := f758.ext E764
  have f780 := f759.ext E764
  have z781 : n0 ≤ h764.size := Nat.le_trans z761 E764.1
  have K782 : Keep h0 h764 [a0] := K760.ext E764
  have f783 : Fld Z h764 b764 "java/util/HashMap" "loadFactor" "F" (.float (0 : UInt32)) := D764 (Or.inr (hw _ (List.mem_of_getElem? (i := 104) rfl))) (ty := .float) (by decide)
  obtain ⟨_, _, ⟨T784, L784, k784, n784⟩, -, X784, ⟨Lc784, hQ784, l784, y784, z784⟩, st784⟩ := X764.specialBack hx (y := (⟨"java/util/HashMap", "<init>", "()V"⟩ : MethodName)) rfl hown (mvT hZ (hw _ (List.mem_of_getElem? (i := 92) rfl))) (mvT hZ (hw _ (List.mem_of_getElem? (i := 93) rfl))) (mvT hZ (hw _ (List.mem_of_getElem? (i := 94) rfl))) (by decide) (backOf (W := 2) (own_rm18 l Z av hw [] b764 h764 n0 z781 A764 f783 g_b764) hZ (hw _ (List.mem_of_getElem? (i := 94) rfl)) (hw _ (List.mem_of_getElem? (i := 91) rfl)) (by decide) (by decide)) (g := (mkF m 64 #[.val (.ref a0)] [(.ref b764), (.ref b764), (.ref a0)])) rfl (by rw [hml]; rfl) (Steps.refl _) (a := b764) (argsL := []) (rest := [(.ref b764), (.ref a0)]) (lenOf own_pd10 rfl) rfl (by show 2 * 0 + _ ≤ _; exact Nat.le_of_eq rfl) (hb hby own_d17_64) (fun _ _ => ⟨rfl, e764, (by decide : 7 + 0 ≤ _), (by decide : 44 + 0 ≤ _)⟩)
  dsimp only [Pt.U, Pt.locs, Pt.cells, Pt.slots] at X784 l784 y784 z784 st784 hQ784
  subst l784 y784 z784
  obtain ⟨rfl, N784q, K784, f786⟩ := hQ784
  have f787 := f765.keep K784
  have f788 := f766.keep K784 (ninS ne_a0_b764 nin0)
  have f789 := f767.keep K784 (ninS ne_a0_b764 nin0)
  have f790 := f768.keep K784 (ninS ne_a0_b764 nin0)
  have f791 := f769.keep K784 (ninS ne_a0_b764 nin0)
  have f792 := f770.keep K784 (ninS ne_a0_b764 nin0)
  have f793 := f771.keep K784 (ninS ne_a0_b764 nin0)
  have f794 := f772.keep K784 (ninS ne_a0_b764 nin0)
  have f795 := f773.keep K784 (ninS ne_a0_b764 nin0)
  have f796 := f774.keep K784 (ninS ne_a0_b764 nin0)
  have f797 := own_staKeep f775 K784 (allS (own_nsE A764) all0)
  have f798 := f776.keep K784
  have f799 := f777.keep K784
  have f800 := f778.keep K784
  have f801 := f779.keep K784
  have f802 := f780.keep K784
  have K803 : Keep h0 T784.heap [a0] := K782.trans K784 (allS (Or.inr sz_b764) all0)
  have z804 : n0 ≤ T784.heap.size := Nat.le_trans z781 K784.1
  have N785 := Fr.app N762 N784q
  obtain ⟨T805, h805, X805, e805, W805, st805⟩ := putF X784 hx hZ hown (host := "") (Or.inl (hw _ (List.mem_of_getElem? (i := 158) rfl))) Via.refl rfl f793 f787 (Or.inr ⟨(hw _ (List.mem_of_getElem? (i := 159) rfl)), rfl, hnm⟩) (hw _ (List.mem_of_getElem? (i := 83) rfl)) (ty := (.object "java/util/Map")) (by decide) rfl rfl (g := (mkF m 67 #[.val (.ref a0)] [(.ref b764), (.ref a0)])) rfl rfl (hb hby own_d17_67)
  have f806 := f787.wr W805
  have f807 := f788.other W805 (Or.inr (slot_ne (Or.inr (hw _ (List.mem_of_getElem? (i := 106) rfl))) (Or.inr (hw _ (List.mem_of_getElem? (i := 159) rfl))) (by decide) (t := (.object "java/util/Map")) (t' := (.object "java/util/Map")) (by decide) (by decide)))
  have f808 := f789.other W805 (Or.inr (slot_ne (Or.inr (hw _ (List.mem_of_getElem? (i := 108) rfl))) (Or.inr (hw _ (List.mem_of_getElem? (i := 159) rfl))) (by decide) (t := (.object "java/util/Map")) (t' := (.object "java/util/Map")) (by decide) (by decide)))
  have f809 := f790.other W805 (Or.inr (slot_ne (Or.inr (hw _ (List.mem_of_getElem? (i := 134) rfl))) (Or.inr (hw _ (List.mem_of_getElem? (i := 159) rfl))) (by decide) (t := (.object "java/util/Set")) (t' := (.object "java/util/Map")) (by decide) (by decide)))
  have f810 := f791.other W805 (Or.inr (slot_ne (Or.inr (hw _ (List.mem_of_getElem? (i := 136) rfl))) (Or.inr (hw _ (List.mem_of_getElem? (i := 159) rfl))) (by decide) (t := (.object "java/util/Map")) (t' := (.object "java/util/Map")) (by decide) (by decide)))
  have f811 := f792.other W805 (Or.inr (slot_ne (Or.inr (hw _ (List.mem_of_getElem? (i := 157) rfl))) (Or.inr (hw _ (List.mem_of_getElem? (i := 159) rfl))) (by decide) (t := (.object "java/util/List")) (t' := (.object "java/util/Map")) (by decide) (by decide)))
  have f812 := f794.other W805 (Or.inr (slot_ne (Or.inr (hw _ (List.mem_of_getElem? (i := 161) rfl))) (Or.inr (hw _ (List.mem_of_getElem? (i := 159) rfl))) (by decide) (t := (.object "java/util/List")) (t' := (.object "java/util/Map")) (by decide) (by decide)))
  have f813 := f795.other W805 (Or.inr (slot_ne (Or.inr (hw _ (List.mem_of_getElem? (i := 163) rfl))) (Or.inr (hw _ (List.mem_of_getElem? (i := 159) rfl))) (by decide) (t := (.object "java/util/Map")) (t' := (.object "java/util/Map")) (by decide) (by decide)))
  have f814 := f796.other W805 (Or.inr (slot_ne (Or.inl (hw _ (List.mem_of_getElem? (i := 165) rfl))) (Or.inr (hw _ (List.mem_of_getElem? (i := 159) rfl))) (by decide) (t := (.object "java/lang/String")) (t' := (.object "java/util/Map")) (by decide) (by decide)))
  have f815 := f797.wr W805
  have f816 := f798.wr W805
  have f817 := f799.wr W805
  have f818 := f800.wr W805
  have f819 := f801.wr W805
  have f820 := f802.wr W805
  have f821 := f786.wr W805
  have K822 : Keep h0 h805 [a0] := K803.wr W805 (Or.inl (List.mem_of_getElem? (i := 0) rfl))
  have z823 : n0 ≤ h805.size := Nat.le_trans z804 (Keep.of_wr W805).1
  have N824 := Fr.snoc X805 N785 g_a0
  have f825 : Fld Z h805 a0 "com/example/thyme/thyme/lang/Symbols$Locals" "variables" "Ljava/util/Map;" (.ref b764) := f793.same W805
  obtain ⟨T826, h826, X826, e826, E826, A826, D826, -, st826⟩ := newO X805 hx hZ hown (hw _ (List.mem_of_getElem? (i := 137) rfl)) (hw _ (List.mem_of_getElem? (i := 138) rfl)) (hw _ (List.mem_of_getElem? (i := 139) rfl)) e805 (g := (mkF m 71 #[.val (.ref a0)] [(.ref a0)])) rfl (hb hby own_d17_71) (by decide) (by decide)
  obtain ⟨b826, g826⟩ : ∃ z, z = h805.size := ⟨_, rfl⟩
  have ne_a0_b826 : a0 ≠ b826 := Nat.ne_of_lt (Nat.lt_of_lt_of_le f806.lt (Nat.le_of_eq g826.symm))
  have ne_b498_b826 : b498 ≠ b826 := Nat.ne_of_lt (Nat.lt_of_lt_of_le f816.lt (Nat.le_of_eq g826.symm))
  have ne_b545_b826 : b545 ≠ b826 := Nat.ne_of_lt (Nat.lt_of_lt_of_le f817.lt (Nat.le_of_eq g826.symm))
  have ne_b595_b826 : b595 ≠ b826 := Nat.ne_of_lt (Nat.lt_of_lt_of_le f818.lt (Nat.le_of_eq g826.symm))
  have ne_b648_b826 : b648 ≠ b826 := Nat.ne_of_lt (Nat.lt_of_lt_of_le f819.lt (Nat.le_of_eq g826.symm))
  have ne_b704_b826 : b704 ≠ b826 := Nat.ne_of_lt (Nat.lt_of_lt_of_le f820.lt (Nat.le_of_eq g826.symm))
  have ne_b764_b826 : b764 ≠ b826 := Nat.ne_of_lt (Nat.lt_of_lt_of_le f821.lt (Nat.le_of_eq g826.symm))
  have g_b826 : n0 ≤ b826 := Nat.le_trans z823 (Nat.le_of_eq g826.symm)
  have sz_b826 : h0.size ≤ b826 := Nat.le_trans K822.1 (Nat.le_of_eq g826.symm)
  rw [← g826] at A826 D826 st826
  have f827 := f806.ext E826
  have f828 := f807.ext E826
  have f829 := f808.ext E826
  have f830 := f809.ext E826
  have f831 := f810.ext E826
  have f832 := f811.ext E826
  have f833 := f825.ext E826
  have f834 := f812.ext E826
  have f835 := f813.ext E826
  have f836 := f814.ext E826
  have f837 := f815.ext E826
  have f838 := f816.ext E826
  have f839 := f817.ext E826
  have f840 := f818.ext E826
  have f841 := f819.ext E826
  have f842 := f820.ext E826
  have f843 := f821.ext E826
  have z844 : n0 ≤ h826.size := Nat.le_trans z823 E826.1
  have K845 : Keep h0 h826 [a0] := K822.ext E826
  have f846 : Fld Z h826 b826 "java/util/AbstractList" "modCount" "I" (.int (0 : Int32)) := D826 (Or.inl (hw _ (List.mem_of_getElem? (i := 152) rfl))) (ty := .int) (by decide)
  have f847 : Fld Z h826 b826 "java/util/ArrayList" "elementData" "[Ljava/lang/Object;" .null := D826 (Or.inl (hw _ (List.mem_of_getElem? (i := 155) rfl))) (ty := (.array (.object "java/lang/Object"))) (by decide)
  obtain ⟨_, _, ⟨T848, L848, k848, n848⟩, -, X848, ⟨Lc848, hQ848, l848, y848, z848⟩, st848⟩ := X826.specialBack hx (y := (⟨"java/util/ArrayList", "<init>", "()V"⟩ : MethodName)) rfl hown (mvT hZ (hw _ (List.mem_of_getElem? (i := 140) rfl))) (mvT hZ (hw _ (List.mem_of_getElem? (i := 141) rfl))) (mvT hZ (hw _ (List.mem_of_getElem? (i := 142) rfl))) (by decide) (backOf (W := 2) (own_rm23 l Z av hw [] b826 (ed) h826 n0 z844 A826 f846 f847 f837 g_b826) hZ (hw _ (List.mem_of_getElem? (i := 142) rfl)) (hw _ (List.mem_of_getElem? (i := 139) rfl)) (by decide) (by decide)) (g := (mkF m 75 #[.val (.ref a0)] [(.ref b826), (.ref b826), (.ref a0)])) rfl (by rw [hml]; rfl) (Steps.refl _) (a := b826) (argsL := []) (rest := [(.ref b826), (.ref a0)]) (lenOf own_pd10 rfl) rfl (by show 2 * 0 + _ ≤ _; exact Nat.le_of_eq rfl) (hb hby own_d17_75) (fun _ _ => ⟨rfl, e826, (by decide : 8 + 0 ≤ _), (by decide : 47 + 0 ≤ _)⟩)
  dsimp only [Pt.U, Pt.locs, Pt.cells, Pt.slots] at X848 l848 y848 z848 st848 hQ848
  subst l848 y848 z848
  obtain ⟨rfl, N848q, K848, f850⟩ := hQ848
  have f851 := f827.keep K848
  have f852 := f828.keep K848 (ninS ne_a0_b826 nin0)
  have f853 := f829.keep K848 (ninS ne_a0_b826 nin0)
  have f854 := f830.keep K848 (ninS ne_a0_b826 nin0)
  have f855 := f831.keep K848 (ninS ne_a0_b826 nin0)
  have f856 := f832.keep K848 (ninS ne_a0_b826 nin0)
  have f857 := f833.keep K848 (ninS ne_a0_b826 nin0)
  have f858 := f834.keep K848 (ninS ne_a0_b826 nin0)
  have f859 := f835.keep K848 (ninS ne_a0_b826 nin0)
  have f860 := f836.keep K848 (ninS ne_a0_b826 nin0)
  have f861 := own_staKeep f837 K848 (allS (own_nsE A826) all0)
  have f862 := f838.keep K848
  have f863 := f839.keep K848
  have f864 := f840.keep K848
  have f865 := f841.keep K848
  have f866 := f842.keep K848
  have f867 := f843.keep K848
  have K868 : Keep h0 T848.heap [a0] := K845.trans K848 (allS (Or.inr sz_b826) all0)
  have z869 : n0 ≤ T848.heap.size := Nat.le_trans z844 K848.1
  have N849 := Fr.app N824 N848q
  obtain ⟨T870, h870, X870, e870, W870, st870⟩ := putF X848 hx hZ hown (host := "") (Or.inl (hw _ (List.mem_of_getElem? (i := 160) rfl))) Via.refl rfl f858 f851 (Or.inr ⟨(hw _ (List.mem_of_getElem? (i := 161) rfl)), rfl, hnm⟩) (hw _ (List.mem_of_getElem? (i := 83) rfl)) (ty := (.object "java/util/List")) (by decide) rfl rfl (g := (mkF m 78 #[.val (.ref a0)] [(.ref b826), (.ref a0)])) rfl rfl (hb hby own_d17_78)
  have f871 := f851.wr W870
  have f872 := f852.other W870 (Or.inr (slot_ne (Or.inr (hw _ (List.mem_of_getElem? (i := 106) rfl))) (Or.inr (hw _ (List.mem_of_getElem? (i := 161) rfl))) (by decide) (t := (.object "java/util/Map")) (t' := (.object "java/util/List")) (by decide) (by decide)))
  have f873 := f853.other W870 (Or.inr (slot_ne (Or.inr (hw _ (List.mem_of_getElem? (i := 108) rfl))) (Or.inr (hw _ (List.mem_of_getElem? (i := 161) rfl))) (by decide) (t := (.object "java/util/Map")) (t' := (.object "java/util/List")) (by decide) (by decide)))
  have f874 := f854.other W870 (Or.inr (slot_ne (Or.inr (hw _ (List.mem_of_getElem? (i := 134) rfl))) (Or.inr (hw _ (List.mem_of_getElem? (i := 161) rfl))) (by decide) (t := (.object "java/util/Set")) (t' := (.object "java/util/List")) (by decide) (by decide)))
  have f875 := f855.other W870 (Or.inr (slot_ne (Or.inr (hw _ (List.mem_of_getElem? (i := 136) rfl))) (Or.inr (hw _ (List.mem_of_getElem? (i := 161) rfl))) (by decide) (t := (.object "java/util/Map")) (t' := (.object "java/util/List")) (by decide) (by decide)))
  have f876 := f856.other W870 (Or.inr (slot_ne (Or.inr (hw _ (List.mem_of_getElem? (i := 157) rfl))) (Or.inr (hw _ (List.mem_of_getElem? (i := 161) rfl))) (by decide) (t := (.object "java/util/List")) (t' := (.object "java/util/List")) (by decide) (by decide)))
  have f877 := f857.other W870 (Or.inr (slot_ne (Or.inr (hw _ (List.mem_of_getElem? (i := 159) rfl))) (Or.inr (hw _ (List.mem_of_getElem? (i := 161) rfl))) (by decide) (t := (.object "java/util/Map")) (t' := (.object "java/util/List")) (by decide) (by decide)))
  have f878 := f859.other W870 (Or.inr (slot_ne (Or.inr (hw _ (List.mem_of_getElem? (i := 163) rfl))) (Or.inr (hw _ (List.mem_of_getElem? (i := 161) rfl))) (by decide) (t := (.object "java/util/Map")) (t' := (.object "java/util/List")) (by decide) (by decide)))
  have f879 := f860.other W870 (Or.inr (slot_ne (Or.inl (hw _ (List.mem_of_getElem? (i := 165) rfl))) (Or.inr (hw _ (List.mem_of_getElem? (i := 161) rfl))) (by decide) (t := (.object "java/lang/String")) (t' := (.object "java/util/List")) (by decide) (by decide)))
  have f880 := f861.wr W870
  have f881 := f862.wr W870
  have f882 := f863.wr W870
  have f883 := f864.wr W870
  have f884 := f865.wr W870
  have f885 := f866.wr W870
  have f886 := f867.wr W870
  have f887 := f850.wr W870
  have K888 : Keep h0 h870 [a0] := K868.wr W870 (Or.inl (List.mem_of_getElem? (i := 0) rfl))
  have z889 : n0 ≤ h870.size := Nat.le_trans z869 (Keep.of_wr W870).1
  have N890 := Fr.snoc X870 N849 g_a0
  have f891 : Fld Z h870 a0 "com/example/thyme/thyme/lang/Symbols$Locals" "declared" "Ljava/util/List;" (.ref b826) := f858.same W870
  obtain ⟨T892, h892, X892, e892, E892, A892, D892, -, st892⟩ := newO X870 hx hZ hown (hw _ (List.mem_of_getElem? (i := 89) rfl)) (hw _ (List.mem_of_getElem? (i := 90) rfl)) (hw _ (List.mem_of_getElem? (i := 91) rfl)) e870 (g := (mkF m 82 #[.val (.ref a0)] [(.ref a0)])) rfl (hb hby own_d17_82) (by decide) (by decide)
  obtain ⟨b892, g892⟩ : ∃ z, z = h870.size := ⟨_, rfl⟩
  have ne_a0_b892 : a0 ≠ b892 := Nat.ne_of_lt (Nat.lt_of_lt_of_le f871.lt (Nat.le_of_eq g892.symm))
  have ne_b498_b892 : b498 ≠ b892 := Nat.ne_of_lt (Nat.lt_of_lt_of_le f881.lt (Nat.le_of_eq g892.symm))
  have ne_b545_b892 : b545 ≠ b892 := Nat.ne_of_lt (Nat.lt_of_lt_of_le f882.lt (Nat.le_of_eq g892.symm))
  have ne_b595_b892 : b595 ≠ b892 := Nat.ne_of_lt (Nat.lt_of_lt_of_le f883.lt (Nat.le_of_eq g892.symm))
  have ne_b648_b892 : b648 ≠ b892 := Nat.ne_of_lt (Nat.lt_of_lt_of_le f884.lt (Nat.le_of_eq g892.symm))
  have ne_b704_b892 : b704 ≠ b892 := Nat.ne_of_lt (Nat.lt_of_lt_of_le f885.lt (Nat.le_of_eq g892.symm))
  have ne_b764_b892 : b764 ≠ b892 := Nat.ne_of_lt (Nat.lt_of_lt_of_le f886.lt (Nat.le_of_eq g892.symm))
  have ne_b826_b892 : b826 ≠ b892 := Nat.ne_of_lt (Nat.lt_of_lt_of_le f887.lt (Nat.le_of_eq g892.symm))
  have g_b892 : n0 ≤ b892 := Nat.le_trans z889 (Nat.le_of_eq g892.symm)
  have sz_b892 : h0.size ≤ b892 := Nat.le_trans K888.1 (Nat.le_of_eq g892.symm)
  rw [← g892] at A892 D892 st892
  have f893 := f871.ext E892
  have f894 := f872.ext E892
  have f895 := f873.ext E892
  have f896 := f874.ext E892
  have f897 := f875.ext E892
  have f898 := f876.ext E892
  have f899 := f877.ext E892
  have f900 := f891.ext E892
  have f901 := f878.ext E892
  have f902 := f879.ext E892
  have f903 := f880.ext E892
  have f904 := f881.ext E892
  have f905 := f882.ext E892
  have f906 := f883.ext E892
  have f907 := f884.ext E892
  have f908 := f885.ext E892
  have f909 := f886.ext E892
  have f910 := f887.ext E892
  have z911 : n0 ≤ h892.size := Nat.le_trans z889 E892.1
  have K912 : Keep h0 h892 [a0] := K888.ext E892
  have f913 : Fld Z h892 b892 "java/util/HashMap" "loadFactor" "F" (.float (0 : UInt32)) := D892 (Or.inr (hw _ (List.mem_of_getElem? (i := 104) rfl))) (ty := .float) (by decide)
  obtain ⟨_, _, ⟨T914, L914, k914, n914⟩, -, X914, ⟨Lc914, hQ914, l914, y914, z914⟩, st914⟩ := X892.specialBack hx (y := (⟨"java/util/HashMap", "<init>", "()V"⟩ : MethodName)) rfl hown (mvT hZ (hw _ (List.mem_of_getElem? (i := 92) rfl))) (mvT hZ (hw _ (List.mem_of_getElem? (i := 93) rfl))) (mvT hZ (hw _ (List.mem_of_getElem? (i := 94) rfl))) (by decide) (backOf (W := 2) (own_rm18 l Z av hw [] b892 h892 n0 z911 A892 f913 g_b892) hZ (hw _ (List.mem_of_getElem? (i := 94) rfl)) (hw _ (List.mem_of_getElem? (i := 91) rfl)) (by decide) (by decide)) (g := (mkF m 86 #[.val (.ref a0)] [(.ref b892), (.ref b892), (.ref a0)])) rfl (by rw [hml]; rfl) (Steps.refl _) (a := b892) (argsL := []) (rest := [(.ref b892), (.ref a0)]) (lenOf own_pd10 rfl) rfl (by show 2 * 0 + _ ≤ _; exact Nat.le_of_eq rfl) (hb hby own_d17_86) (fun _ _ => ⟨rfl, e892, (by decide : 9 + 0 ≤ _), (by decide : 55 + 0 ≤ _)⟩)
  dsimp only [Pt.U, Pt.locs, Pt.cells, Pt.slots] at X914 l914 y914 z914 st914 hQ914
  subst l914 y914 z914
  obtain ⟨rfl, N914q, K914, f916⟩ := hQ914
  have f917 := f893.keep K914
  have f918 := f894.keep K914 (ninS ne_a0_b892 nin0)
  have f919 := f895.keep K914 (ninS ne_a0_b892 nin0)
  have f920 := f896.keep K914 (ninS ne_a0_b892 nin0)
  have f921 := f897.keep K914 (ninS ne_a0_b892 nin0)
  have f922 := f898.keep K914 (ninS ne_a0_b892 nin0)
  have f923 := f899.keep K914 (ninS ne_a0_b892 nin0)
  have f924 := f900.keep K914 (ninS ne_a0_b892 nin0)
  have f925 := f901.keep K914 (ninS ne_a0_b892 nin0)
  have f926 := f902.keep K914 (ninS ne_a0_b892 nin0)
  have f927 := own_staKeep f903 K914 (allS (own_nsE A892) all0)
  have f928 := f904.keep K914
  have f929 := f905.keep K914
  have f930 := f906.keep K914
  have f931 := f907.keep K914
  have f932 := f908.keep K914
  have f933 := f909.keep K914
  have f934 := f910.keep K914
  have K935 : Keep h0 T914.heap [a0] := K912.trans K914 (allS (Or.inr sz_b892) all0)
  have z936 : n0 ≤ T914.heap.size := Nat.le_trans z911 K914.1
  have N915 := Fr.app N890 N914q
  obtain ⟨T937, h937, X937, e937, W937, st937⟩ := putF X914 hx hZ hown (host := "") (Or.inl (hw _ (List.mem_of_getElem? (i := 162) rfl))) Via.refl rfl f925 f917 (Or.inr ⟨(hw _ (List.mem_of_getElem? (i := 163) rfl)), rfl, hnm⟩) (hw _ (List.mem_of_getElem? (i := 83) rfl)) (ty := (.object "java/util/Map")) (by decide) rfl rfl (g := (mkF m 89 #[.val (.ref a0)] [(.ref b892), (.ref a0)])) rfl rfl (hb hby own_d17_89)
  have f938 := f917.wr W937
  have f939 := f918.other W937 (Or.inr (slot_ne (Or.inr (hw _ (List.mem_of_getElem? (i := 106) rfl))) (Or.inr (hw _ (List.mem_of_getElem? (i := 163) rfl))) (by decide) (t := (.object "java/util/Map")) (t' := (.object "java/util/Map")) (by decide) (by decide)))
  have f940 := f919.other W937 (Or.inr (slot_ne (Or.inr (hw _ (List.mem_of_getElem? (i := 108) rfl))) (Or.inr (hw _ (List.mem_of_getElem? (i := 163) rfl))) (by decide) (t := (.object "java/util/Map")) (t' := (.object "java/util/Map")) (by decide) (by decide)))
  have f941 := f920.other W937 (Or.inr (slot_ne (Or.inr (hw _ (List.mem_of_getElem? (i := 134) rfl))) (Or.inr (hw _ (List.mem_of_getElem? (i := 163) rfl))) (by decide) (t := (.object "java/util/Set")) (t' := (.object "java/util/Map")) (by decide) (by decide)))
  have f942 := f921.other W937 (Or.inr (slot_ne (Or.inr (hw _ (List.mem_of_getElem? (i := 136) rfl))) (Or.inr (hw _ (List.mem_of_getElem? (i := 163) rfl))) (by decide) (t := (.object "java/util/Map")) (t' := (.object "java/util/Map")) (by decide) (by decide)))
  have f943 := f922.other W937 (Or.inr (slot_ne (Or.inr (hw _ (List.mem_of_getElem? (i := 157) rfl))) (Or.inr (hw _ (List.mem_of_getElem? (i := 163) rfl))) (by decide) (t := (.object "java/util/List")) (t' := (.object "java/util/Map")) (by decide) (by decide)))
  have f944 := f923.other W937 (Or.inr (slot_ne (Or.inr (hw _ (List.mem_of_getElem? (i := 159) rfl))) (Or.inr (hw _ (List.mem_of_getElem? (i := 163) rfl))) (by decide) (t := (.object "java/util/Map")) (t' := (.object "java/util/Map")) (by decide) (by decide)))
  have f945 := f924.other W937 (Or.inr (slot_ne (Or.inr (hw _ (List.mem_of_getElem? (i := 161) rfl))) (Or.inr (hw _ (List.mem_of_getElem? (i := 163) rfl))) (by decide) (t := (.object "java/util/List")) (t' := (.object "java/util/Map")) (by decide) (by decide)))
  have f946 := f926.other W937 (Or.inr (slot_ne (Or.inl (hw _ (List.mem_of_getElem? (i := 165) rfl))) (Or.inr (hw _ (List.mem_of_getElem? (i := 163) rfl))) (by decide) (t := (.object "java/lang/String")) (t' := (.object "java/util/Map")) (by decide) (by decide)))
  have f947 := f927.wr W937
  have f948 := f928.wr W937
  have f949 := f929.wr W937
  have f950 := f930.wr W937
  have f951 := f931.wr W937
  have f952 := f932.wr W937
  have f953 := f933.wr W937
  have f954 := f934.wr W937
  have f955 := f916.wr W937
  have K956 : Keep h0 h937 [a0] := K935.wr W937 (Or.inl (List.mem_of_getElem? (i := 0) rfl))
  have z957 : n0 ≤ h937.size := Nat.le_trans z936 (Keep.of_wr W937).1
  have N958 := Fr.snoc X937 N915 g_a0
  have f959 : Fld Z h937 a0 "com/example/thyme/thyme/lang/Symbols$Locals" "locations" "Ljava/util/Map;" (.ref b892) := f925.same W937
  obtain ⟨fs, hr, hrun, hended, hW, hsame⟩ := X937.leave (v := none) (fun _ => rfl)
  refine ⟨_, _, pre0 _ ?_, hrun, hended, _, _, rfl, ?_, ⟨_, rfl⟩, hW, hsame.mono (by decide) (by decide)⟩
  · show Steps p.tables e below (s₁.setTop (mkF m 0 #[.val (.ref a0)] [])) _
    refine XS.aloadN X0.here hx rfl (hb hby own_d17_0) rfl rfl ?_
    show Steps p.tables e below (s₁.setTop (mkF m 1 #[.val (.ref a0)] [(.ref a0)])) _
    refine st497 _ ?_
    show Steps p.tables e below (T497.setTop (mkF m 4 #[.val (.ref a0)] [])) _
    refine XS.aloadN X497.here hx rfl (hb hby own_d17_4) rfl rfl ?_
    show Steps p.tables e below (T497.setTop (mkF m 5 #[.val (.ref a0)] [(.ref a0)])) _
    refine st498 _ ?_
    show Steps p.tables e below (T498.setTop (mkF m 8 #[.val (.ref a0)] [(.ref b498), (.ref a0)])) _
    refine XS.dup X498.here hx rfl (hb hby own_d17_8) rfl rfl ?_
    show Steps p.tables e below (T498.setTop (mkF m 9 #[.val (.ref a0)] [(.ref b498), (.ref b498), (.ref a0)])) _
    refine st513.trans ?_
    show Steps p.tables e below (T513.setTop (mkF m 12 #[.val (.ref a0)] [(.ref b498), (.ref a0)])) _
    refine st529 _ ?_
    show Steps p.tables e below (T529.setTop (mkF m 15 #[.val (.ref a0)] [])) _
    refine XS.aloadN X529.here hx rfl (hb hby own_d17_15) rfl rfl ?_
    show Steps p.tables e below (T529.setTop (mkF m 16 #[.val (.ref a0)] [(.ref a0)])) _
    refine st545 _ ?_
    show Steps p.tables e below (T545.setTop (mkF m 19 #[.val (.ref a0)] [(.ref b545), (.ref a0)])) _
    refine XS.dup X545.here hx rfl (hb hby own_d17_19) rfl rfl ?_
    show Steps p.tables e below (T545.setTop (mkF m 20 #[.val (.ref a0)] [(.ref b545), (.ref b545), (.ref a0)])) _
    refine st561.trans ?_
    show Steps p.tables e below (T561.setTop (mkF m 23 #[.val (.ref a0)] [(.ref b545), (.ref a0)])) _
    refine st578 _ ?_
    show Steps p.tables e below (T578.setTop (mkF m 26 #[.val (.ref a0)] [])) _
    refine XS.aloadN X578.here hx rfl (hb hby own_d17_26) rfl rfl ?_
    show Steps p.tables e below (T578.setTop (mkF m 27 #[.val (.ref a0)] [(.ref a0)])) _
    refine st595 _ ?_
    show Steps p.tables e below (T595.setTop (mkF m 30 #[.val (.ref a0)] [(.ref b595), (.ref a0)])) _
    refine XS.dup X595.here hx rfl (hb hby own_d17_30) rfl rfl ?_
    show Steps p.tables e below (T595.setTop (mkF m 31 #[.val (.ref a0)] [(.ref b595), (.ref b595), (.ref a0)])) _
    refine st612.trans ?_
    show Steps p.tables e below (T612.setTop (mkF m 34 #[.val (.ref a0)] [(.ref b595), (.ref a0)])) _
    refine st630 _ ?_
    show Steps p.tables e below (T630.setTop (mkF m 37 #[.val (.ref a0)] [])) _
    refine XS.aloadN X630.here hx rfl (hb hby own_d17_37) rfl rfl ?_
    show Steps p.tables e below (T630.setTop (mkF m 38 #[.val (.ref a0)] [(.ref a0)])) _
    refine st648 _ ?_
    show Steps p.tables e below (T648.setTop (mkF m 41 #[.val (.ref a0)] [(.ref b648), (.ref a0)])) _
    refine XS.dup X648.here hx rfl (hb hby own_d17_41) rfl rfl ?_
    show Steps p.tables e below (T648.setTop (mkF m 42 #[.val (.ref a0)] [(.ref b648), (.ref b648), (.ref a0)])) _
    refine st666.trans ?_
    show Steps p.tables e below (T666.setTop (mkF m 45 #[.val (.ref a0)] [(.ref b648), (.ref a0)])) _
    refine st685 _ ?_
    show Steps p.tables e below (T685.setTop (mkF m 48 #[.val (.ref a0)] [])) _
    refine XS.aloadN X685.here hx rfl (hb hby own_d17_48) rfl rfl ?_
    show Steps p.tables e below (T685.setTop (mkF m 49 #[.val (.ref a0)] [(.ref a0)])) _
    refine st704 _ ?_
    show Steps p.tables e below (T704.setTop (mkF m 52 #[.val (.ref a0)] [(.ref b704), (.ref a0)])) _
    refine XS.dup X704.here hx rfl (hb hby own_d17_52) rfl rfl ?_
    show Steps p.tables e below (T704.setTop (mkF m 53 #[.val (.ref a0)] [(.ref b704), (.ref b704), (.ref a0)])) _
    refine st724.trans ?_
    show Steps p.tables e below (T724.setTop (mkF m 56 #[.val (.ref a0)] [(.ref b704), (.ref a0)])) _
    refine st744 _ ?_
    show Steps p.tables e below (T744.setTop (mkF m 59 #[.val (.ref a0)] [])) _
    refine XS.aloadN X744.here hx rfl (hb hby own_d17_59) rfl rfl ?_
    show Steps p.tables e below (T744.setTop (mkF m 60 #[.val (.ref a0)] [(.ref a0)])) _
    refine st764 _ ?_
    show Steps p.tables e below (T764.setTop (mkF m 63 #[.val (.ref a0)] [(.ref b764), (.ref a0)])) _
    refine XS.dup X764.here hx rfl (hb hby own_d17_63) rfl rfl ?_
    show Steps p.tables e below (T764.setTop (mkF m 64 #[.val (.ref a0)] [(.ref b764), (.ref b764), (.ref a0)])) _
    refine st784.trans ?_
    show Steps p.tables e below (T784.setTop (mkF m 67 #[.val (.ref a0)] [(.ref b764), (.ref a0)])) _
    refine st805 _ ?_
    show Steps p.tables e below (T805.setTop (mkF m 70 #[.val (.ref a0)] [])) _
    refine XS.aloadN X805.here hx rfl (hb hby own_d17_70) rfl rfl ?_
    show Steps p.tables e below (T805.setTop (mkF m 71 #[.val (.ref a0)] [(.ref a0)])) _
    refine st826 _ ?_
    show Steps p.tables e below (T826.setTop (mkF m 74 #[.val (.ref a0)] [(.ref b826), (.ref a0)])) _
    refine XS.dup X826.here hx rfl (hb hby own_d17_74) rfl rfl ?_
    show Steps p.tables e below (T826.setTop (mkF m 75 #[.val (.ref a0)] [(.ref b826), (.ref b826), (.ref a0)])) _
    refine st848.trans ?_
    show Steps p.tables e below (T848.setTop (mkF m 78 #[.val (.ref a0)] [(.ref b826), (.ref a0)])) _
    refine st870 _ ?_
    show Steps p.tables e below (T870.setTop (mkF m 81 #[.val (.ref a0)] [])) _
    refine XS.aloadN X870.here hx rfl (hb hby own_d17_81) rfl rfl ?_
    show Steps p.tables e below (T870.setTop (mkF m 82 #[.val (.ref a0)] [(.ref a0)])) _
    refine st892 _ ?_
    show Steps p.tables e below (T892.setTop (mkF m 85 #[.val (.ref a0)] [(.ref b892), (.ref a0)])) _
    refine XS.dup X892.here hx rfl (hb hby own_d17_85) rfl rfl ?_
    show Steps p.tables e below (T892.setTop (mkF m 86 #[.val (.ref a0)] [(.ref b892), (.ref b892), (.ref a0)])) _
    refine st914.trans ?_
    show Steps p.tables e below (T914.setTop (mkF m 89 #[.val (.ref a0)] [(.ref b892), (.ref a0)])) _
    refine st937 _ ?_
    show Steps p.tables e below (T937.setTop (mkF m 92 #[.val (.ref a0)] [])) _
    exact X937.returnOut hx Bd.returns (hb hby own_d17_92) hr
  · show own_Q17 Z a0 ed h0 n0 _ T937.heap _
    rw [e937]
    exact ⟨rfl, N958, K956, f938, f946⟩
theorem own_pd11 : parseMethodDescriptor "(I)Lcom/example/thyme/thyme/lang/ExpressionResolver$Context;" = some ⟨[.int], some (.object "com/example/thyme/thyme/lang/ExpressionResolver$Context")⟩ := by decide +kernel
theorem own_pd12 : parseMethodDescriptor "(II)Ljava/lang/String;" = some ⟨[.int, .int], some (.object "java/lang/String")⟩ := by decide +kernel
theorem own_pd13 : parseMethodDescriptor "(Lcom/example/thyme/thyme/lang/ExpressionResolver$Context;Ljava/lang/String;Lcom/example/thyme/thyme/lang/Symbols$Locals;)V" = some ⟨[(.object "com/example/thyme/thyme/lang/ExpressionResolver$Context"), (.object "java/lang/String"), (.object "com/example/thyme/thyme/lang/Symbols$Locals")], none⟩ := by decide +kernel
theorem own_pd14 : parseMethodDescriptor "()Ljava/lang/String;" = some ⟨[], some (.object "java/lang/String")⟩ := by decide +kernel
theorem own_pd15 : parseMethodDescriptor "(Ljava/lang/String;Ljava/lang/String;)Z" = some ⟨[(.object "java/lang/String"), (.object "java/lang/String")], some .boolean⟩ := by decide +kernel
theorem own_ef0 (m : MethodId) (p0 : Int32) (p1 : Int32) (p2 : Int32) (p3 : Int32) (p4 : Int32) (p5 : Int32) : entryFrame m #[(.int p0), (.int p1), (.int p2), (.int p3), (.int p4), (.int p5)] maxLocals = mkF m 0 #[.val (.int p0), .val (.int p1), .val (.int p2), .val (.int p3), .val (.int p4), .val (.int p5), .unset, .unset, .unset, .unset, .unset, .unset, .unset] [] := by first | (simp [entryFrame, mkF, argsToLocals, Value.category, maxLocals]; done) | rfl
def own_Q0 (Z : State) (p0 : Int32) (p1 : Int32) (p2 : Int32) (p3 : Int32) (p4 : Int32) (p5 : Int32) (x0 : Addr) (x1 : Addr) (x2 : Addr) (x3 : Addr) (x4 : Addr) (x5 : Addr) (x6 : Addr) (x7 : Addr) (cs : Int32) (ed : Addr) (h0 : Heap) (n0 : Nat) (v : Option Value) (h : Heap) (L : List Loc) : Prop := v = some (.int 1) ∧ Fr n0 L
set_option maxRecDepth 65536 in
set_option maxHeartbeats 40000000 in
theorem own_rm0 (l : Launch) (Z : State) (av : Array Value) (hw : ∀ d ∈ tables_1, d.before av Z = true) (ws : List Jvm.Cond) (p0 : Int32) (p1 : Int32) (p2 : Int32) (p3 : Int32) (p4 : Int32) (p5 : Int32) (x0 : Addr) (x1 : Addr) (x2 : Addr) (x3 : Addr) (x4 : Addr) (x5 : Addr) (x6 : Addr) (x7 : Addr) (cs : Int32) (ed : Addr) (h0 : Heap) (n0 : Nat) (Z0 : n0 ≤ h0.size) (pr0 : Sta Z h0 "com/example/thyme/thyme/lang/ExpressionResolver$Context" "CONSTANT" "Lcom/example/thyme/thyme/lang/ExpressionResolver$Context;" (.ref x0)) (pr1 : Sta Z h0 "com/example/thyme/thyme/lang/ExpressionResolver$Context" "STATIC" "Lcom/example/thyme/thyme/lang/ExpressionResolver$Context;" (.ref x1)) (pr2 : Sta Z h0 "com/example/thyme/thyme/lang/ExpressionResolver$Context" "CLOCK_CONSTANT" "Lcom/example/thyme/thyme/lang/ExpressionResolver$Context;" (.ref x2)) (pr3 : Sta Z h0 "com/example/thyme/thyme/lang/ExpressionResolver$Context" "SIZE" "Lcom/example/thyme/thyme/lang/ExpressionResolver$Context;" (.ref x3)) (pr4 : Sta Z h0 "com/example/thyme/thyme/lang/ExpressionResolver$Context" "INDEX" "Lcom/example/thyme/thyme/lang/ExpressionResolver$Context;" (.ref x4)) (pr5 : Sta Z h0 "com/example/thyme/thyme/lang/ExpressionResolver$Context" "ARGUMENT" "Lcom/example/thyme/thyme/lang/ExpressionResolver$Context;" (.ref x5)) (pr6 : Sta Z h0 "com/example/thyme/thyme/lang/ExpressionResolver$Context" "AUTOMATON" "Lcom/example/thyme/thyme/lang/ExpressionResolver$Context;" (.ref x6)) (pr7 : Sta Z h0 "com/example/thyme/thyme/lang/ExpressionResolver$Context" "CHECK" "Lcom/example/thyme/thyme/lang/ExpressionResolver$Context;" (.ref x7)) (pr8 : Sta Z h0 "java/lang/String" "COMPACT_STRINGS" "Z" (.int cs)) (pr9 : Sta Z h0 "java/util/ArrayList" "DEFAULTCAPACITY_EMPTY_ELEMENTDATA" "[Ljava/lang/Object;" (.ref ed)) (hcs : ¬ (cs = (0 : Int32))) :
    MetFree l x (head1 (Jvm.Cond.code x code maxLocals ret :: ws) room_1) (fun a U => a = #[(.int p0), (.int p1), (.int p2), (.int p3), (.int p4), (.int p5)] ∧ Z.Warmed39 U.vm ∧ U.heap = h0 ∧ CHv Z own_EL U.vm h0 ∧ ∀ x ∈ ([] : List Addr), Safe Z own_EL U.vm h0 x) (fun _ _ _ _ _ => True) (fun _ U o U' => ∃ v L, o = .returned v ∧ own_Q0 Z p0 p1 p2 p3 p4 p5 x0 x1 x2 x3 x4 x5 x6 x7 cs ed h0 n0 v U'.heap L ∧ CHr Z own_EL U.vm U.heap U'.vm U'.heap ∧ ReturnedEndW U o U' L room_1.cells room_1.slots) := by
  refine MetFree.of_bodySF (plainFor_of_name own_pn129) hisR ?_
  intro p e s m args below meth c s₁ Bd hml0 hP hK
  obtain ⟨rfl, hZ, hh, hCH, hSf⟩ := hP
  have hx := Bd.exec
  have hby := Bd.bytes
  have hml : c.maxLocals = 13 := hml0
  have hown : s.vm.findClass "com/example/thyme/thyme/lang/ScopeInstancePinLaw" = some m.cls := findClass_of_methodNamed Bd.named
  have hnm := (name_of_methodNamed Bd.named Bd.method).1
  have X0 : Stand p l e room_1 s m #[(.int p0), (.int p1), (.int p2), (.int p3), (.int p4), (.int p5)] below meth c s₁ [] 0 0 := Stand.of_body Bd
  have e0 : s₁.heap = h0 := by rw [← hh, Bd.state]; rfl
  have N0 := Fr.nil n0
  have hS0 : s.Since s.vm s.heap.size := (State.WarmedH.refl s).since _
  have hk0 : s.heap.size ≤ h0.size := Nat.le_of_eq (congrArg Array.size hh)
  have wS := own_wS hw
  have hEL := own_hEL hw
  have CH0 : CHr Z own_EL s.vm h0 s.vm h0 := CHr.refl hCH
  have pre0 : ∀ t, Steps p.tables e below (s₁.setTop (mkF m 0 #[.val (.int p0), .val (.int p1), .val (.int p2), .val (.int p3), .val (.int p4), .val (.int p5), .unset, .unset, .unset, .unset, .unset, .unset, .unset] [])) t → Steps p.tables e below (s₁.setTop (entryFrame m #[(.int p0), (.int p1), (.int p2), (.int p3), (.int p4), (.int p5)] maxLocals)) t := fun t k => castTop (own_ef0 m p0 p1 p2 p3 p4 p5) k
  obtain ⟨_, _, ⟨T960, L960, k960, n960⟩, -, X960, ⟨Lc960, hQ960, l960, y960, z960⟩, st960⟩ := Jvm.LawKit.callS X0 hx (y := (⟨"com/example/thyme/thyme/lang/ScopeInstancePinLaw", "context", "(I)Lcom/example/thyme/thyme/lang/ExpressionResolver$Context;"⟩ : MethodName)) hown (mvT hZ (hw _ (List.mem_of_getElem? (i := 0) rfl))) (mvT hZ (hw _ (List.mem_of_getElem? (i := 1) rfl))) (mvT hZ (hw _ (List.mem_of_getElem? (i := 2) rfl))) (mvT hZ (hw _ (List.mem_of_getElem? (i := 3) rfl))) (by decide) (backOf (W := 0) (own_rm1 l Z av hw [] (p0 &&& (7 : Int32)) (x0) (x1) (x2) (x3) (x4) (x5) (x6) (x7) h0 n0 Z0 pr0 pr1 pr2 pr3 pr4 pr5 pr6 pr7) hZ (hw _ (List.mem_of_getElem? (i := 3) rfl)) (hw _ (List.mem_of_getElem? (i := 2) rfl)) (by decide) (by decide)) (g := (mkF m 4 #[.val (.int p0), .val (.int p1), .val (.int p2), .val (.int p3), .val (.int p4), .val (.int p5), .unset, .unset, .unset, .unset, .unset, .unset, .unset] [(.int (p0 &&& (7 : Int32)))])) rfl (by rw [hml]; rfl) (argsL := [(.int (p0 &&& (7 : Int32)))]) (rest := []) (lenOf own_pd11 rfl) rfl (by show 2 * 0 + _ ≤ _; exact Nat.le_of_eq rfl) (hb hby at_4) (fun _ _ => ⟨rfl, e0, (by decide : 0 + 0 ≤ _), (by decide : 0 + 0 ≤ _)⟩)
  dsimp only [Pt.U, Pt.locs, Pt.cells, Pt.slots] at X960 l960 y960 z960 st960 hQ960
  subst l960 y960 z960
  obtain ⟨r961, rfl, N960q, e963⟩ := hQ960
  have N962 := Fr.app N0 N960q
  have pre964 : ∀ t, Steps p.tables e below (T960.setTop (mkF m 11 #[.val (.int p0), .val (.int p1), .val (.int p2), .val (.int p3), .val (.int p4), .val (.int p5), .val (.ref r961), .unset, .unset, .unset, .unset, .unset, .unset] [(.int p2), (.int p1)])) t → Steps p.tables e below (s₁.setTop (entryFrame m #[(.int p0), (.int p1), (.int p2), (.int p3), (.int p4), (.int p5)] maxLocals)) t := fun t kk => pre0 t (by
    show Steps p.tables e below (s₁.setTop (mkF m 0 #[.val (.int p0), .val (.int p1), .val (.int p2), .val (.int p3), .val (.int p4), .val (.int p5), .unset, .unset, .unset, .unset, .unset, .unset, .unset] [])) _
    refine XS.iloadN X0.here hx rfl (hb hby at_0) rfl ?_
    show Steps p.tables e below (s₁.setTop (mkF m 1 #[.val (.int p0), .val (.int p1), .val (.int p2), .val (.int p3), .val (.int p4), .val (.int p5), .unset, .unset, .unset, .unset, .unset, .unset, .unset] [(.int p0)])) _
    refine XS.bipush X0.here hx rfl (hb hby at_1) ?_
    show Steps p.tables e below (s₁.setTop (mkF m 3 #[.val (.int p0), .val (.int p1), .val (.int p2), .val (.int p3), .val (.int p4), .val (.int p5), .unset, .unset, .unset, .unset, .unset, .unset, .unset] [(.int (7 : Int32)), (.int p0)])) _
    refine XS.iand X0.here hx rfl (hb hby at_3) rfl ?_
    show Steps p.tables e below (s₁.setTop (mkF m 4 #[.val (.int p0), .val (.int p1), .val (.int p2), .val (.int p3), .val (.int p4), .val (.int p5), .unset, .unset, .unset, .unset, .unset, .unset, .unset] [(.int (p0 &&& (7 : Int32)))])) _
    refine st960 _ ?_
    show Steps p.tables e below (T960.setTop (mkF m 7 #[.val (.int p0), .val (.int p1), .val (.int p2), .val (.int p3), .val (.int p4), .val (.int p5), .unset, .unset, .unset, .unset, .unset, .unset, .unset] [(.ref r961)])) _
    refine XS.astore X960.here hx rfl (hb hby at_7) rfl rfl (l' := #[.val (.int p0), .val (.int p1), .val (.int p2), .val (.int p3), .val (.int p4), .val (.int p5), .val (.ref r961), .unset, .unset, .unset, .unset, .unset, .unset]) rfl ?_
    show Steps p.tables e below (T960.setTop (mkF m 9 #[.val (.int p0), .val (.int p1), .val (.int p2), .val (.int p3), .val (.int p4), .val (.int p5), .val (.ref r961), .unset, .unset, .unset, .unset, .unset, .unset] [])) _
    refine XS.iloadN X960.here hx rfl (hb hby at_9) rfl ?_
    show Steps p.tables e below (T960.setTop (mkF m 10 #[.val (.int p0), .val (.int p1), .val (.int p2), .val (.int p3), .val (.int p4), .val (.int p5), .val (.ref r961), .unset, .unset, .unset, .unset, .unset, .unset] [(.int p1)])) _
    refine XS.iloadN X960.here hx rfl (hb hby at_10) rfl ?_
    exact kk)
  by_cases hc965 : (p1 &&& (3 : Int32)) = (0 : Int32)
  · obtain ⟨_, _, ⟨T966, L966, k966, n966⟩, -, X966, ⟨Lc966, hQ966, l966, y966, z966⟩, st966⟩ := Jvm.LawKit.callS X960 hx (y := (⟨"com/example/thyme/thyme/lang/ScopeInstancePinLaw", "str", "(II)Ljava/lang/String;"⟩ : MethodName)) hown (mvT hZ (hw _ (List.mem_of_getElem? (i := 7) rfl))) (mvT hZ (hw _ (List.mem_of_getElem? (i := 8) rfl))) (mvT hZ (hw _ (List.mem_of_getElem? (i := 2) rfl))) (mvT hZ (hw _ (List.mem_of_getElem? (i := 9) rfl))) (by decide) (backOf (W := 0) (own_rmSN l Z av hw [] p1 p2 h0 n0 Z0 (hc965)) hZ (hw _ (List.mem_of_getElem? (i := 9) rfl)) (hw _ (List.mem_of_getElem? (i := 2) rfl)) (by decide) (by decide)) (g := (mkF m 11 #[.val (.int p0), .val (.int p1), .val (.int p2), .val (.int p3), .val (.int p4), .val (.int p5), .val (.ref r961), .unset, .unset, .unset, .unset, .unset, .unset] [(.int p2), (.int p1)])) rfl (by rw [hml]; rfl) (argsL := [(.int p1), (.int p2)]) (rest := []) (lenOf own_pd12 rfl) rfl (by show 2 * 0 + _ ≤ _; exact Nat.le_of_eq rfl) (hb hby at_11) (fun _ _ => ⟨rfl, e963, (by decide : 0 + 0 ≤ _), (by decide : 0 + 0 ≤ _)⟩)
    dsimp only [Pt.U, Pt.locs, Pt.cells, Pt.slots] at X966 l966 y966 z966 st966 hQ966
    subst l966 y966 z966
    obtain ⟨rfl, N966q, e968⟩ := hQ966
    have N967 := Fr.app N962 N966q
    have pre969 : ∀ t, Steps p.tables e below (T966.setTop (mkF m 25 #[.val (.int p0), .val (.int p1), .val (.int p2), .val (.int p3), .val (.int p4), .val (.int p5), .val (.ref r961), .val .null, .val .null, .val .null, .unset, .unset, .unset] [(.int (p3 &&& (4 : Int32)))])) t → Steps p.tables e below (s₁.setTop (entryFrame m #[(.int p0), (.int p1), (.int p2), (.int p3), (.int p4), (.int p5)] maxLocals)) t := fun t kk => pre964 t (by
      show Steps p.tables e below (T960.setTop (mkF m 11 #[.val (.int p0), .val (.int p1), .val (.int p2), .val (.int p3), .val (.int p4), .val (.int p5), .val (.ref r961), .unset, .unset, .unset, .unset, .unset, .unset] [(.int p2), (.int p1)])) _
      refine st966 _ ?_
      show Steps p.tables e below (T966.setTop (mkF m 14 #[.val (.int p0), .val (.int p1), .val (.int p2), .val (.int p3), .val (.int p4), .val (.int p5), .val (.ref r961), .unset, .unset, .unset, .unset, .unset, .unset] [.null])) _
      refine XS.astore X966.here hx rfl (hb hby at_14) rfl rfl (l' := #[.val (.int p0), .val (.int p1), .val (.int p2), .val (.int p3), .val (.int p4), .val (.int p5), .val (.ref r961), .val .null, .unset, .unset, .unset, .unset, .unset]) rfl ?_
      show Steps p.tables e below (T966.setTop (mkF m 16 #[.val (.int p0), .val (.int p1), .val (.int p2), .val (.int p3), .val (.int p4), .val (.int p5), .val (.ref r961), .val .null, .unset, .unset, .unset, .unset, .unset] [])) _
      refine XS.aconstNull X966.here hx rfl (hb hby at_16) ?_
      show Steps p.tables e below (T966.setTop (mkF m 17 #[.val (.int p0), .val (.int p1), .val (.int p2), .val (.int p3), .val (.int p4), .val (.int p5), .val (.ref r961), .val .null, .unset, .unset, .unset, .unset, .unset] [.null])) _
      refine XS.astore X966.here hx rfl (hb hby at_17) rfl rfl (l' := #[.val (.int p0), .val (.int p1), .val (.int p2), .val (.int p3), .val (.int p4), .val (.int p5), .val (.ref r961), .val .null, .val .null, .unset, .unset, .unset, .unset]) rfl ?_
      show Steps p.tables e below (T966.setTop (mkF m 19 #[.val (.int p0), .val (.int p1), .val (.int p2), .val (.int p3), .val (.int p4), .val (.int p5), .val (.ref r961), .val .null, .val .null, .unset, .unset, .unset, .unset] [])) _
      refine XS.aconstNull X966.here hx rfl (hb hby at_19) ?_
      show Steps p.tables e below (T966.setTop (mkF m 20 #[.val (.int p0), .val (.int p1), .val (.int p2), .val (.int p3), .val (.int p4), .val (.int p5), .val (.ref r961), .val .null, .val .null, .unset, .unset, .unset, .unset] [.null])) _
      refine XS.astore X966.here hx rfl (hb hby at_20) rfl rfl (l' := #[.val (.int p0), .val (.int p1), .val (.int p2), .val (.int p3), .val (.int p4), .val (.int p5), .val (.ref r961), .val .null, .val .null, .val .null, .unset, .unset, .unset]) rfl ?_
      show Steps p.tables e below (T966.setTop (mkF m 22 #[.val (.int p0), .val (.int p1), .val (.int p2), .val (.int p3), .val (.int p4), .val (.int p5), .val (.ref r961), .val .null, .val .null, .val .null, .unset, .unset, .unset] [])) _
      refine XS.iloadN X966.here hx rfl (hb hby at_22) rfl ?_
      show Steps p.tables e below (T966.setTop (mkF m 23 #[.val (.int p0), .val (.int p1), .val (.int p2), .val (.int p3), .val (.int p4), .val (.int p5), .val (.ref r961), .val .null, .val .null, .val .null, .unset, .unset, .unset] [(.int p3)])) _
      refine XS.iconst X966.here hx rfl (hb hby at_23) ?_
      show Steps p.tables e below (T966.setTop (mkF m 24 #[.val (.int p0), .val (.int p1), .val (.int p2), .val (.int p3), .val (.int p4), .val (.int p5), .val (.ref r961), .val .null, .val .null, .val .null, .unset, .unset, .unset] [(.int (4 : Int32)), (.int p3)])) _
      refine XS.iand X966.here hx rfl (hb hby at_24) rfl ?_
      show Steps p.tables e below (T966.setTop (mkF m 25 #[.val (.int p0), .val (.int p1), .val (.int p2), .val (.int p3), .val (.int p4), .val (.int p5), .val (.ref r961), .val .null, .val .null, .val .null, .unset, .unset, .unset] [(.int (p3 &&& (4 : Int32)))])) _
      exact kk)
    by_cases hc970 : (p3 &&& (4 : Int32)) = (0 : Int32)
    · obtain ⟨T971, h971, X971, e971, E971, A971, D971, -, st971⟩ := newO X966 hx hZ hown (hw _ (List.mem_of_getElem? (i := 40) rfl)) (hw _ (List.mem_of_getElem? (i := 41) rfl)) (hw _ (List.mem_of_getElem? (i := 42) rfl)) e968 (g := (mkF m 56 #[.val (.int p0), .val (.int p1), .val (.int p2), .val (.int p3), .val (.int p4), .val (.int p5), .val (.ref r961), .val .null, .val .null, .val .null, .unset, .unset, .unset] [])) rfl (hb hby at_56) (by decide) (by decide)
      obtain ⟨b971, g971⟩ : ∃ z, z = h0.size := ⟨_, rfl⟩
      have g_b971 : n0 ≤ b971 := Nat.le_trans Z0 (Nat.le_of_eq g971.symm)
      have sz_b971 : h0.size ≤ b971 := Nat.le_trans (Keep.refl h0 []).1 (Nat.le_of_eq g971.symm)
      have sf972 : Safe Z own_EL (s.vm) h0 b971 := Safe.new (Nat.le_of_eq g971.symm)
      rw [← g971] at A971 D971 st971
      have f973 := pr0.ext E971
      have f974 := pr1.ext E971
      have f975 := pr2.ext E971
      have f976 := pr3.ext E971
      have f977 := pr4.ext E971
      have f978 := pr5.ext E971
      have f979 := pr6.ext E971
      have f980 := pr7.ext E971
      have f981 := pr8.ext E971
      have f982 := pr9.ext E971
      have f983 := Safe.ext E971 CH0.1 sf972
      have CH984 := CHr.trans CH0 (CHr.ext E971 CH0.1)
      have z985 : n0 ≤ h971.size := Nat.le_trans Z0 E971.1
      have hk986 := Nat.le_trans hk0 E971.1
      have K987 : Keep h0 h971 [] := (Keep.refl h0 []).ext E971
      have f988 : Fld Z h971 b971 "com/example/thyme/thyme/lang/ExpressionResolver$Scope" "context" "Lcom/example/thyme/thyme/lang/ExpressionResolver$Context;" .null := D971 (Or.inr (hw _ (List.mem_of_getElem? (i := 53) rfl))) (ty := (.object "com/example/thyme/thyme/lang/ExpressionResolver$Context")) (by decide)
      have f989 : Fld Z h971 b971 "com/example/thyme/thyme/lang/ExpressionResolver$Scope" "constant" "Ljava/lang/String;" .null := D971 (Or.inr (hw _ (List.mem_of_getElem? (i := 55) rfl))) (ty := (.object "java/lang/String")) (by decide)
      have f990 : Fld Z h971 b971 "com/example/thyme/thyme/lang/ExpressionResolver$Scope" "locals" "Lcom/example/thyme/thyme/lang/Symbols$Locals;" .null := D971 (Or.inr (hw _ (List.mem_of_getElem? (i := 57) rfl))) (ty := (.object "com/example/thyme/thyme/lang/Symbols$Locals")) (by decide)
      obtain ⟨_, _, ⟨T991, L991, k991, n991⟩, -, X991, ⟨Lc991, hQ991, l991, y991, z991⟩, st991⟩ := X971.specialBack hx (y := (⟨"com/example/thyme/thyme/lang/ExpressionResolver$Scope", "<init>", "(Lcom/example/thyme/thyme/lang/ExpressionResolver$Context;Ljava/lang/String;Lcom/example/thyme/thyme/lang/Symbols$Locals;)V"⟩ : MethodName)) rfl hown (mvT hZ (hw _ (List.mem_of_getElem? (i := 43) rfl))) (mvT hZ (hw _ (List.mem_of_getElem? (i := 44) rfl))) (mvT hZ (hw _ (List.mem_of_getElem? (i := 45) rfl))) (by decide) (backOf (W := 1) (own_rmSc00 l Z av hw [] b971 r961 h971 n0 z985 A971 f988 f989 f990 g_b971) hZ (hw _ (List.mem_of_getElem? (i := 45) rfl)) (hw _ (List.mem_of_getElem? (i := 42) rfl)) (by decide) (by decide)) (g := (mkF m 66 #[.val (.int p0), .val (.int p1), .val (.int p2), .val (.int p3), .val (.int p4), .val (.int p5), .val (.ref r961), .val .null, .val .null, .val .null, .unset, .unset, .unset] [.null, .null, (.ref r961), (.ref b971), (.ref b971)])) rfl (by rw [hml]; rfl) (Steps.refl _) (a := b971) (argsL := [(.ref r961), .null, .null]) (rest := [(.ref b971)]) (lenOf own_pd13 rfl) rfl (by show 2 * 0 + _ ≤ _; exact Nat.le_of_eq rfl) (hb hby at_66) (fun _ _ => ⟨rfl, e971, (by decide : 1 + 0 ≤ _), (by decide : 3 + 0 ≤ _)⟩)
      dsimp only [Pt.U, Pt.locs, Pt.cells, Pt.slots] at X991 l991 y991 z991 st991 hQ991
      subst l991 y991 z991
      obtain ⟨rfl, N991q, K991, f993, f994⟩ := hQ991
      have f995 := own_staKeep f973 K991 (allS (own_nsE A971) all0)
      have f996 := own_staKeep f974 K991 (allS (own_nsE A971) all0)
      have f997 := own_staKeep f975 K991 (allS (own_nsE A971) all0)
      have f998 := own_staKeep f976 K991 (allS (own_nsE A971) all0)
      have f999 := own_staKeep f977 K991 (allS (own_nsE A971) all0)
      have f1000 := own_staKeep f978 K991 (allS (own_nsE A971) all0)
      have f1001 := own_staKeep f979 K991 (allS (own_nsE A971) all0)
      have f1002 := own_staKeep f980 K991 (allS (own_nsE A971) all0)
      have f1003 := own_staKeep f981 K991 (allS (own_nsE A971) all0)
      have f1004 := own_staKeep f982 K991 (allS (own_nsE A971) all0)
      have f1005 := Safe.keep K991 (sfS f983 sf0) CH984.1 f983
      have CH1006 := CHr.trans CH984 (CHr.keep K991 (sfS f983 sf0) CH984.1)
      have K1007 : Keep h0 T991.heap [] := K987.trans K991 (allS (Or.inr sz_b971) all0)
      have z1008 : n0 ≤ T991.heap.size := Nat.le_trans z985 K991.1
      have hk1009 := Nat.le_trans hk986 K991.1
      have N992 := Fr.app N967 N991q
      obtain ⟨cq1010, kq1010, q1010a, q1010b, q1010c⟩ := isOf hZ rfl f993
      obtain ⟨_, _, ⟨T1010, L1010, k1010, n1010⟩, -, X1010, ⟨Lc1010, hQ1010, l1010, y1010, z1010⟩, st1010⟩ := X991.virtualBack hx (y := (⟨"com/example/thyme/thyme/lang/ExpressionResolver$Scope", "instance", "()Ljava/lang/String;"⟩ : MethodName)) (z := (⟨"com/example/thyme/thyme/lang/ExpressionResolver$Scope", "instance", "()Ljava/lang/String;"⟩ : MethodName)) hown (mvT hZ (hw _ (List.mem_of_getElem? (i := 58) rfl))) (mvT hZ (hw _ (List.mem_of_getElem? (i := 59) rfl))) (notFace_of_selects (args := #[]) (mvT hZ (hw _ (List.mem_of_getElem? (i := 61) rfl)))) (mvT hZ (hw _ (List.mem_of_getElem? (i := 61) rfl))) (mvT hZ (hw _ (List.mem_of_getElem? (i := 60) rfl))) (by decide) (backOf (W := 0) (own_rmSi0 l Z av hw [] b971 T991.heap n0 z1008 f994) hZ (hw _ (List.mem_of_getElem? (i := 62) rfl)) (hw _ (List.mem_of_getElem? (i := 42) rfl)) (by decide) (by decide)) q1010a q1010c (g := (mkF m 73 #[.val (.int p0), .val (.int p1), .val (.int p2), .val (.int p3), .val (.int p4), .val (.int p5), .val (.ref r961), .val .null, .val .null, .val .null, .val (.ref b971), .unset, .unset] [(.ref b971)])) rfl (by rw [hml]; rfl) (Steps.refl _) (argsL := []) (rest := []) (lenOf own_pd14 rfl) rfl (by show 2 * 0 + _ ≤ _; exact Nat.le_of_eq rfl) (hb hby at_73) (fun _ _ => ⟨rfl, rfl, (by decide : 1 + 0 ≤ _), (by decide : 3 + 0 ≤ _)⟩)
      dsimp only [Pt.U, Pt.locs, Pt.cells, Pt.slots] at X1010 l1010 y1010 z1010 st1010 hQ1010
      subst l1010 y1010 z1010
      obtain ⟨rfl, N1010q, e1012⟩ := hQ1010
      have N1011 := Fr.app N992 N1010q
      obtain ⟨_, _, ⟨T1013, L1013, k1013, n1013⟩, -, X1013, ⟨Lc1013, hQ1013, l1013, y1013, z1013⟩, st1013⟩ := Jvm.LawKit.callS X1010 hx (y := (⟨"com/example/thyme/thyme/lang/ScopeInstancePinLaw", "same", "(Ljava/lang/String;Ljava/lang/String;)Z"⟩ : MethodName)) hown (mvT hZ (hw _ (List.mem_of_getElem? (i := 63) rfl))) (mvT hZ (hw _ (List.mem_of_getElem? (i := 64) rfl))) (mvT hZ (hw _ (List.mem_of_getElem? (i := 2) rfl))) (mvT hZ (hw _ (List.mem_of_getElem? (i := 65) rfl))) (by decide) (backOf (W := 0) (own_rmPN l Z av hw []  T991.heap n0 z1008 ) hZ (hw _ (List.mem_of_getElem? (i := 65) rfl)) (hw _ (List.mem_of_getElem? (i := 2) rfl)) (by decide) (by decide)) (g := (mkF m 78 #[.val (.int p0), .val (.int p1), .val (.int p2), .val (.int p3), .val (.int p4), .val (.int p5), .val (.ref r961), .val .null, .val .null, .val .null, .val (.ref b971), .unset, .unset] [.null, .null])) rfl (by rw [hml]; rfl) (argsL := [.null, .null]) (rest := []) (lenOf own_pd15 rfl) rfl (by show 2 * 0 + _ ≤ _; exact Nat.le_of_eq rfl) (hb hby at_78) (fun _ _ => ⟨rfl, e1012, (by decide : 1 + 0 ≤ _), (by decide : 3 + 0 ≤ _)⟩)
      dsimp only [Pt.U, Pt.locs, Pt.cells, Pt.slots] at X1013 l1013 y1013 z1013 st1013 hQ1013
      subst l1013 y1013 z1013
      obtain ⟨rfl, N1013q, e1015⟩ := hQ1013
      have N1014 := Fr.app N1011 N1013q
      obtain ⟨fs, hr, hrun, hended, hR1, hR2, hR3, hR4⟩ := Stand.leaveW (s := s) (vm₁ := s.vm) X1013 hS0 (by rw [e1015]; exact hk1009) (v := some (.int (1 : Int32))) (fun h => by rw [Bd.returns] at h; cases h)
      refine ⟨_, _, pre969 _ ?_, hrun, hended, _, _, rfl, ?_, (by show CHr Z own_EL s.vm s.heap T1013.vm T1013.heap; rw [hh, e1015]; exact CHr.trans CH1006 (CHv.at (s := s) (vm0 := s.vm) X1013 hZ hEL CH1006.1)), hR1, hR2, hR3, hR4.mono (by decide) (by decide)⟩
      · show Steps p.tables e below (T966.setTop (mkF m 25 #[.val (.int p0), .val (.int p1), .val (.int p2), .val (.int p3), .val (.int p4), .val (.int p5), .val (.ref r961), .val .null, .val .null, .val .null, .unset, .unset, .unset] [(.int (p3 &&& (4 : Int32)))])) _
        refine XS.ifYes X966.here hx rfl (pc0 := 25) (pc' := 56) rfl (hb hby at_25) rfl ((if0 _ _).trans (teq hc970).1) (by decide) (by decide) ?_
        show Steps p.tables e below (T966.setTop (mkF m 56 #[.val (.int p0), .val (.int p1), .val (.int p2), .val (.int p3), .val (.int p4), .val (.int p5), .val (.ref r961), .val .null, .val .null, .val .null, .unset, .unset, .unset] [])) _
        refine st971 _ ?_
        show Steps p.tables e below (T971.setTop (mkF m 59 #[.val (.int p0), .val (.int p1), .val (.int p2), .val (.int p3), .val (.int p4), .val (.int p5), .val (.ref r961), .val .null, .val .null, .val .null, .unset, .unset, .unset] [(.ref b971)])) _
        refine XS.dup X971.here hx rfl (hb hby at_59) rfl rfl ?_
        show Steps p.tables e below (T971.setTop (mkF m 60 #[.val (.int p0), .val (.int p1), .val (.int p2), .val (.int p3), .val (.int p4), .val (.int p5), .val (.ref r961), .val .null, .val .null, .val .null, .unset, .unset, .unset] [(.ref b971), (.ref b971)])) _
        refine XS.aload X971.here hx rfl (hb hby at_60) rfl rfl ?_
        show Steps p.tables e below (T971.setTop (mkF m 62 #[.val (.int p0), .val (.int p1), .val (.int p2), .val (.int p3), .val (.int p4), .val (.int p5), .val (.ref r961), .val .null, .val .null, .val .null, .unset, .unset, .unset] [(.ref r961), (.ref b971), (.ref b971)])) _
        refine XS.aload X971.here hx rfl (hb hby at_62) rfl rfl ?_
        show Steps p.tables e below (T971.setTop (mkF m 64 #[.val (.int p0), .val (.int p1), .val (.int p2), .val (.int p3), .val (.int p4), .val (.int p5), .val (.ref r961), .val .null, .val .null, .val .null, .unset, .unset, .unset] [.null, (.ref r961), (.ref b971), (.ref b971)])) _
        refine XS.aload X971.here hx rfl (hb hby at_64) rfl rfl ?_
        show Steps p.tables e below (T971.setTop (mkF m 66 #[.val (.int p0), .val (.int p1), .val (.int p2), .val (.int p3), .val (.int p4), .val (.int p5), .val (.ref r961), .val .null, .val .null, .val .null, .unset, .unset, .unset] [.null, .null, (.ref r961), (.ref b971), (.ref b971)])) _
        refine st991.trans ?_
        show Steps p.tables e below (T991.setTop (mkF m 69 #[.val (.int p0), .val (.int p1), .val (.int p2), .val (.int p3), .val (.int p4), .val (.int p5), .val (.ref r961), .val .null, .val .null, .val .null, .unset, .unset, .unset] [(.ref b971)])) _
        refine XS.astore X991.here hx rfl (hb hby at_69) rfl rfl (l' := #[.val (.int p0), .val (.int p1), .val (.int p2), .val (.int p3), .val (.int p4), .val (.int p5), .val (.ref r961), .val .null, .val .null, .val .null, .val (.ref b971), .unset, .unset]) rfl ?_
        show Steps p.tables e below (T991.setTop (mkF m 71 #[.val (.int p0), .val (.int p1), .val (.int p2), .val (.int p3), .val (.int p4), .val (.int p5), .val (.ref r961), .val .null, .val .null, .val .null, .val (.ref b971), .unset, .unset] [])) _
        refine XS.aload X991.here hx rfl (hb hby at_71) rfl rfl ?_
        show Steps p.tables e below (T991.setTop (mkF m 73 #[.val (.int p0), .val (.int p1), .val (.int p2), .val (.int p3), .val (.int p4), .val (.int p5), .val (.ref r961), .val .null, .val .null, .val .null, .val (.ref b971), .unset, .unset] [(.ref b971)])) _
        refine st1010.trans ?_
        show Steps p.tables e below (T1010.setTop (mkF m 76 #[.val (.int p0), .val (.int p1), .val (.int p2), .val (.int p3), .val (.int p4), .val (.int p5), .val (.ref r961), .val .null, .val .null, .val .null, .val (.ref b971), .unset, .unset] [.null])) _
        refine XS.aload X1010.here hx rfl (hb hby at_76) rfl rfl ?_
        show Steps p.tables e below (T1010.setTop (mkF m 78 #[.val (.int p0), .val (.int p1), .val (.int p2), .val (.int p3), .val (.int p4), .val (.int p5), .val (.ref r961), .val .null, .val .null, .val .null, .val (.ref b971), .unset, .unset] [.null, .null])) _
        refine st1013 _ ?_
        show Steps p.tables e below (T1013.setTop (mkF m 81 #[.val (.int p0), .val (.int p1), .val (.int p2), .val (.int p3), .val (.int p4), .val (.int p5), .val (.ref r961), .val .null, .val .null, .val .null, .val (.ref b971), .unset, .unset] [(.int (1 : Int32))])) _
        refine XS.istore X1013.here hx rfl (hb hby at_81) rfl (l' := #[.val (.int p0), .val (.int p1), .val (.int p2), .val (.int p3), .val (.int p4), .val (.int p5), .val (.ref r961), .val .null, .val .null, .val .null, .val (.ref b971), .val (.int (1 : Int32)), .unset]) rfl ?_
        show Steps p.tables e below (T1013.setTop (mkF m 83 #[.val (.int p0), .val (.int p1), .val (.int p2), .val (.int p3), .val (.int p4), .val (.int p5), .val (.ref r961), .val .null, .val .null, .val .null, .val (.ref b971), .val (.int (1 : Int32)), .unset] [])) _
        refine XS.aload X1013.here hx rfl (hb hby at_83) rfl rfl ?_
        show Steps p.tables e below (T1013.setTop (mkF m 85 #[.val (.int p0), .val (.int p1), .val (.int p2), .val (.int p3), .val (.int p4), .val (.int p5), .val (.ref r961), .val .null, .val .null, .val .null, .val (.ref b971), .val (.int (1 : Int32)), .unset] [.null])) _
        refine XS.ifnullYes X1013.here hx rfl (pc0 := 85) (pc' := 139) rfl (hb hby at_85) rfl (by decide) (by decide) ?_
        show Steps p.tables e below (T1013.setTop (mkF m 139 #[.val (.int p0), .val (.int p1), .val (.int p2), .val (.int p3), .val (.int p4), .val (.int p5), .val (.ref r961), .val .null, .val .null, .val .null, .val (.ref b971), .val (.int (1 : Int32)), .unset] [])) _
        refine XS.iload X1013.here hx rfl (hb hby at_139) rfl ?_
        show Steps p.tables e below (T1013.setTop (mkF m 141 #[.val (.int p0), .val (.int p1), .val (.int p2), .val (.int p3), .val (.int p4), .val (.int p5), .val (.ref r961), .val .null, .val .null, .val .null, .val (.ref b971), .val (.int (1 : Int32)), .unset] [(.int (1 : Int32))])) _
        exact retN X1013 hx (t := .boolean) Bd.returns (by simp) (hb hby at_141) hr
      · show own_Q0 Z p0 p1 p2 p3 p4 p5 x0 x1 x2 x3 x4 x5 x6 x7 cs ed h0 n0 _ T1013.heap _
        rw [e1015]
        exact ⟨rfl, N1014⟩
    · obtain ⟨T1016, h1016, X1016, e1016, E1016, A1016, D1016, -, st1016⟩ := newO X966 hx hZ hown (hw _ (List.mem_of_getElem? (i := 82) rfl)) (hw _ (List.mem_of_getElem? (i := 83) rfl)) (hw _ (List.mem_of_getElem? (i := 84) rfl)) e968 (g := (mkF m 28 #[.val (.int p0), .val (.int p1), .val (.int p2), .val (.int p3), .val (.int p4), .val (.int p5), .val (.ref r961), .val .null, .val .null, .val .null, .unset, .unset, .unset] [])) rfl (hb hby at_28) (by decide) (by decide)
      obtain ⟨b1016, g1016⟩ : ∃ z, z = h0.size := ⟨_, rfl⟩
      have g_b1016 : n0 ≤ b1016 := Nat.le_trans Z0 (Nat.le_of_eq g1016.symm)
      have sz_b1016 : h0.size ≤ b1016 := Nat.le_trans (Keep.refl h0 []).1 (Nat.le_of_eq g1016.symm)
      have sf1017 : Safe Z own_EL (s.vm) h0 b1016 := Safe.new (Nat.le_of_eq g1016.symm)
      rw [← g1016] at A1016 D1016 st1016
      have f1018 := pr0.ext E1016
      have f1019 := pr1.ext E1016
      have f1020 := pr2.ext E1016
      have f1021 := pr3.ext E1016
      have f1022 := pr4.ext E1016
      have f1023 := pr5.ext E1016
      have f1024 := pr6.ext E1016
      have f1025 := pr7.ext E1016
      have f1026 := pr8.ext E1016
      have f1027 := pr9.ext E1016
      have f1028 := Safe.ext E1016 CH0.1 sf1017
      have CH1029 := CHr.trans CH0 (CHr.ext E1016 CH0.1)
      have z1030 : n0 ≤ h1016.size := Nat.le_trans Z0 E1016.1
      have hk1031 := Nat.le_trans hk0 E1016.1
      have K1032 : Keep h0 h1016 [] := (Keep.refl h0 []).ext E1016
      have f1033 : Fld Z h1016 b1016 "com/example/thyme/thyme/lang/Symbols$Locals" "parameters" "Ljava/util/Map;" .null := D1016 (Or.inr (hw _ (List.mem_of_getElem? (i := 106) rfl))) (ty := (.object "java/util/Map")) (by decide)
      have f1034 : Fld Z h1016 b1016 "com/example/thyme/thyme/lang/Symbols$Locals" "names" "Ljava/util/Map;" .null := D1016 (Or.inr (hw _ (List.mem_of_getElem? (i := 108) rfl))) (ty := (.object "java/util/Map")) (by decide)
      have f1035 : Fld Z h1016 b1016 "com/example/thyme/thyme/lang/Symbols$Locals" "variableNames" "Ljava/util/Set;" .null := D1016 (Or.inr (hw _ (List.mem_of_getElem? (i := 134) rfl))) (ty := (.object "java/util/Set")) (by decide)
      have f1036 : Fld Z h1016 b1016 "com/example/thyme/thyme/lang/Symbols$Locals" "clocks" "Ljava/util/Map;" .null := D1016 (Or.inr (hw _ (List.mem_of_getElem? (i := 136) rfl))) (ty := (.object "java/util/Map")) (by decide)
      have f1037 : Fld Z h1016 b1016 "com/example/thyme/thyme/lang/Symbols$Locals" "declaredClocks" "Ljava/util/List;" .null := D1016 (Or.inr (hw _ (List.mem_of_getElem? (i := 157) rfl))) (ty := (.object "java/util/List")) (by decide)
      have f1038 : Fld Z h1016 b1016 "com/example/thyme/thyme/lang/Symbols$Locals" "variables" "Ljava/util/Map;" .null := D1016 (Or.inr (hw _ (List.mem_of_getElem? (i := 159) rfl))) (ty := (.object "java/util/Map")) (by decide)
      have f1039 : Fld Z h1016 b1016 "com/example/thyme/thyme/lang/Symbols$Locals" "declared" "Ljava/util/List;" .null := D1016 (Or.inr (hw _ (List.mem_of_getElem? (i := 161) rfl))) (ty := (.object "java/util/List")) (by decide)
      have f1040 : Fld Z h1016 b1016 "com/example/thyme/thyme/lang/Symbols$Locals" "locations" "Ljava/util/Map;" .null := D1016 (Or.inr (hw _ (List.mem_of_getElem? (i := 163) rfl))) (ty := (.object "java/util/Map")) (by decide)
      have f1041 : Fld Z h1016 b1016 "com/example/thyme/thyme/lang/Symbols$Locals" "instance" "Ljava/lang/String;" .null := D1016 (Or.inl (hw _ (List.mem_of_getElem? (i := 165) rfl))) (ty := (.object "java/lang/String")) (by decide)
      obtain ⟨_, _, ⟨T1042, L1042, k1042, n1042⟩, -, X1042, ⟨Lc1042, hQ1042, l1042, y1042, z1042⟩, st1042⟩ := X1016.specialBack hx (y := (⟨"com/example/thyme/thyme/lang/Symbols$Locals", "<init>", "()V"⟩ : MethodName)) rfl hown (mvT hZ (hw _ (List.mem_of_getElem? (i := 85) rfl))) (mvT hZ (hw _ (List.mem_of_getElem? (i := 86) rfl))) (mvT hZ (hw _ (List.mem_of_getElem? (i := 87) rfl))) (by decide) (backOf (W := 1) (own_rm17 l Z av hw [] b1016 (ed) h1016 n0 z1030 A1016 f1033 f1034 f1035 f1036 f1037 f1038 f1039 f1040 f1041 f1027 g_b1016) hZ (hw _ (List.mem_of_getElem? (i := 87) rfl)) (hw _ (List.mem_of_getElem? (i := 84) rfl)) (by decide) (by decide)) (g := (mkF m 32 #[.val (.int p0), .val (.int p1), .val (.int p2), .val (.int p3), .val (.int p4), .val (.int p5), .val (.ref r961), .val .null, .val .null, .val .null, .unset, .unset, .unset] [(.ref b1016), (.ref b1016)])) rfl (by rw [hml]; rfl) (Steps.refl _) (a := b1016) (argsL := []) (rest := [(.ref b1016)]) (lenOf own_pd10 rfl) rfl (by show 2 * 0 + _ ≤ _; exact Nat.le_of_eq rfl) (hb hby at_32) (fun _ _ => ⟨rfl, e1016, (by decide : 1 + 9 ≤ _), (by decide : 10 + 55 ≤ _)⟩)
      dsimp only [Pt.U, Pt.locs, Pt.cells, Pt.slots] at X1042 l1042 y1042 z1042 st1042 hQ1042
      subst l1042 y1042 z1042
      obtain ⟨rfl, N1042q, K1042, f1044, f1045⟩ := hQ1042
      have f1046 := own_staKeep f1018 K1042 (allS (own_nsE A1016) all0)
      have f1047 := own_staKeep f1019 K1042 (allS (own_nsE A1016) all0)
      have f1048 := own_staKeep f1020 K1042 (allS (own_nsE A1016) all0)
      have f1049 := own_staKeep f1021 K1042 (allS (own_nsE A1016) all0)
      have f1050 := own_staKeep f1022 K1042 (allS (own_nsE A1016) all0)
      have f1051 := own_staKeep f1023 K1042 (allS (own_nsE A1016) all0)
      have f1052 := own_staKeep f1024 K1042 (allS (own_nsE A1016) all0)
      have f1053 := own_staKeep f1025 K1042 (allS (own_nsE A1016) all0)
      have f1054 := own_staKeep f1026 K1042 (allS (own_nsE A1016) all0)
      have f1055 := own_staKeep f1027 K1042 (allS (own_nsE A1016) all0)
      have f1056 := Safe.keep K1042 (sfS f1028 sf0) CH1029.1 f1028
      have CH1057 := CHr.trans CH1029 (CHr.keep K1042 (sfS f1028 sf0) CH1029.1)
      have K1058 : Keep h0 T1042.heap [] := K1032.trans K1042 (allS (Or.inr sz_b1016) all0)
      have z1059 : n0 ≤ T1042.heap.size := Nat.le_trans z1030 K1042.1
      have hk1060 := Nat.le_trans hk1031 K1042.1
      have N1043 := Fr.app N967 N1042q
      have pre1061 : ∀ t, Steps p.tables e below (T1042.setTop (mkF m 40 #[.val (.int p0), .val (.int p1), .val (.int p2), .val (.int p3), .val (.int p4), .val (.int p5), .val (.ref r961), .val .null, .val (.ref b1016), .val .null, .unset, .unset, .unset] [(.int p4), (.int p3)])) t → Steps p.tables e below (s₁.setTop (entryFrame m #[(.int p0), (.int p1), (.int p2), (.int p3), (.int p4), (.int p5)] maxLocals)) t := fun t kk => pre969 t (by
        show Steps p.tables e below (T966.setTop (mkF m 25 #[.val (.int p0), .val (.int p1), .val (.int p2), .val (.int p3), .val (.int p4), .val (.int p5), .val (.ref r961), .val .null, .val .null, .val .null, .unset, .unset, .unset] [(.int (p3 &&& (4 : Int32)))])) _
        refine XS.ifNo X966.here hx rfl (hb hby at_25) rfl ((if0 _ _).trans (feq hc970).1) ?_
        show Steps p.tables e below (T966.setTop (mkF m 28 #[.val (.int p0), .val (.int p1), .val (.int p2), .val (.int p3), .val (.int p4), .val (.int p5), .val (.ref r961), .val .null, .val .null, .val .null, .unset, .unset, .unset] [])) _
        refine st1016 _ ?_
        show Steps p.tables e below (T1016.setTop (mkF m 31 #[.val (.int p0), .val (.int p1), .val (.int p2), .val (.int p3), .val (.int p4), .val (.int p5), .val (.ref r961), .val .null, .val .null, .val .null, .unset, .unset, .unset] [(.ref b1016)])) _
        refine XS.dup X1016.here hx rfl (hb hby at_31) rfl rfl ?_
        show Steps p.tables e below (T1016.setTop (mkF m 32 #[.val (.int p0), .val (.int p1), .val (.int p2), .val (.int p3), .val (.int p4), .val (.int p5), .val (.ref r961), .val .null, .val .null, .val .null, .unset, .unset, .unset] [(.ref b1016), (.ref b1016)])) _
        refine st1042.trans ?_
        show Steps p.tables e below (T1042.setTop (mkF m 35 #[.val (.int p0), .val (.int p1), .val (.int p2), .val (.int p3), .val (.int p4), .val (.int p5), .val (.ref r961), .val .null, .val .null, .val .null, .unset, .unset, .unset] [(.ref b1016)])) _
        refine XS.astore X1042.here hx rfl (hb hby at_35) rfl rfl (l' := #[.val (.int p0), .val (.int p1), .val (.int p2), .val (.int p3), .val (.int p4), .val (.int p5), .val (.ref r961), .val .null, .val (.ref b1016), .val .null, .unset, .unset, .unset]) rfl ?_
        show Steps p.tables e below (T1042.setTop (mkF m 37 #[.val (.int p0), .val (.int p1), .val (.int p2), .val (.int p3), .val (.int p4), .val (.int p5), .val (.ref r961), .val .null, .val (.ref b1016), .val .null, .unset, .unset, .unset] [])) _
        refine XS.iloadN X1042.here hx rfl (hb hby at_37) rfl ?_
        show Steps p.tables e below (T1042.setTop (mkF m 38 #[.val (.int p0), .val (.int p1), .val (.int p2), .val (.int p3), .val (.int p4), .val (.int p5), .val (.ref r961), .val .null, .val (.ref b1016), .val .null, .unset, .unset, .unset] [(.int p3)])) _
        refine XS.iload X1042.here hx rfl (hb hby at_38) rfl ?_
        exact kk)
      by_cases hc1062 : (p3 &&& (3 : Int32)) = (0 : Int32)
      · obtain ⟨_, _, ⟨T1063, L1063, k1063, n1063⟩, -, X1063, ⟨Lc1063, hQ1063, l1063, y1063, z1063⟩, st1063⟩ := Jvm.LawKit.callS X1042 hx (y := (⟨"com/example/thyme/thyme/lang/ScopeInstancePinLaw", "str", "(II)Ljava/lang/String;"⟩ : MethodName)) hown (mvT hZ (hw _ (List.mem_of_getElem? (i := 7) rfl))) (mvT hZ (hw _ (List.mem_of_getElem? (i := 8) rfl))) (mvT hZ (hw _ (List.mem_of_getElem? (i := 2) rfl))) (mvT hZ (hw _ (List.mem_of_getElem? (i := 9) rfl))) (by decide) (backOf (W := 0) (own_rmSN l Z av hw [] p3 p4 T1042.heap n0 z1059 (hc1062)) hZ (hw _ (List.mem_of_getElem? (i := 9) rfl)) (hw _ (List.mem_of_getElem? (i := 2) rfl)) (by decide) (by decide)) (g := (mkF m 40 #[.val (.int p0), .val (.int p1), .val (.int p2), .val (.int p3), .val (.int p4), .val (.int p5), .val (.ref r961), .val .null, .val (.ref b1016), .val .null, .unset, .unset, .unset] [(.int p4), (.int p3)])) rfl (by rw [hml]; rfl) (argsL := [(.int p3), (.int p4)]) (rest := []) (lenOf own_pd12 rfl) rfl (by show 2 * 0 + _ ≤ _; exact Nat.le_of_eq rfl) (hb hby at_40) (fun _ _ => ⟨rfl, rfl, (by decide : 10 + 0 ≤ _), (by decide : 65 + 0 ≤ _)⟩)
        dsimp only [Pt.U, Pt.locs, Pt.cells, Pt.slots] at X1063 l1063 y1063 z1063 st1063 hQ1063
        subst l1063 y1063 z1063
        obtain ⟨rfl, N1063q, e1065⟩ := hQ1063
        have N1064 := Fr.app N1043 N1063q
        obtain ⟨T1066, h1066, X1066, e1066, W1066, st1066⟩ := putF X1063 hx hZ hown (host := "") (Or.inl (hw _ (List.mem_of_getElem? (i := 164) rfl))) Via.refl e1065 f1045 f1044 (Or.inl (hw _ (List.mem_of_getElem? (i := 165) rfl))) (hw _ (List.mem_of_getElem? (i := 83) rfl)) (ty := (.object "java/lang/String")) (by decide) rfl rfl (g := (mkF m 49 #[.val (.int p0), .val (.int p1), .val (.int p2), .val (.int p3), .val (.int p4), .val (.int p5), .val (.ref r961), .val .null, .val (.ref b1016), .val .null, .val .null, .unset, .unset] [.null, (.ref b1016)])) rfl rfl (hb hby at_49)
        have f1067 := f1046.wr W1066
        have f1068 := f1047.wr W1066
        have f1069 := f1048.wr W1066
        have f1070 := f1049.wr W1066
        have f1071 := f1050.wr W1066
        have f1072 := f1051.wr W1066
        have f1073 := f1052.wr W1066
        have f1074 := f1053.wr W1066
        have f1075 := f1054.wr W1066
        have f1076 := f1055.wr W1066
        have f1077 := Safe.wr W1066 f1056 CH1057.1 f1056
        have f1078 := f1044.wr W1066
        have CH1079 := CHr.trans CH1057 (CHr.wr W1066 f1056 CH1057.1)
        have K1080 : Keep h0 h1066 [] := K1058.wr W1066 (Or.inr sz_b1016)
        have z1081 : n0 ≤ h1066.size := Nat.le_trans z1059 (Keep.of_wr W1066).1
        have hk1082 := Nat.le_trans hk1060 (Keep.of_wr W1066).1
        have N1083 := Fr.snoc X1066 N1064 g_b1016
        have f1084 : Fld Z h1066 b1016 "com/example/thyme/thyme/lang/Symbols$Locals" "instance" "Ljava/lang/String;" .null := f1045.same W1066
        obtain ⟨T1085, h1085, X1085, e1085, E1085, A1085, D1085, -, st1085⟩ := newO X1066 hx hZ hown (hw _ (List.mem_of_getElem? (i := 40) rfl)) (hw _ (List.mem_of_getElem? (i := 41) rfl)) (hw _ (List.mem_of_getElem? (i := 42) rfl)) e1066 (g := (mkF m 56 #[.val (.int p0), .val (.int p1), .val (.int p2), .val (.int p3), .val (.int p4), .val (.int p5), .val (.ref r961), .val .null, .val (.ref b1016), .val .null, .val .null, .unset, .unset] [])) rfl (hb hby at_56) (by decide) (by decide)
        obtain ⟨b1085, g1085⟩ : ∃ z, z = h1066.size := ⟨_, rfl⟩
        have ne_b1016_b1085 : b1016 ≠ b1085 := Nat.ne_of_lt (Nat.lt_of_lt_of_le f1078.lt (Nat.le_of_eq g1085.symm))
        have g_b1085 : n0 ≤ b1085 := Nat.le_trans z1081 (Nat.le_of_eq g1085.symm)
        have sz_b1085 : h0.size ≤ b1085 := Nat.le_trans K1080.1 (Nat.le_of_eq g1085.symm)
        have sf1086 : Safe Z own_EL (s.vm) h1066 b1085 := Safe.new (Nat.le_of_eq g1085.symm)
        rw [← g1085] at A1085 D1085 st1085
        have f1087 := f1067.ext E1085
        have f1088 := f1068.ext E1085
        have f1089 := f1069.ext E1085
        have f1090 := f1070.ext E1085
        have f1091 := f1071.ext E1085
        have f1092 := f1072.ext E1085
        have f1093 := f1073.ext E1085
        have f1094 := f1074.ext E1085
        have f1095 := f1075.ext E1085
        have f1096 := f1076.ext E1085
        have f1097 := Safe.ext E1085 CH1079.1 f1077
        have f1098 := f1078.ext E1085
        have f1099 := f1084.ext E1085
        have f1100 := Safe.ext E1085 CH1079.1 sf1086
        have CH1101 := CHr.trans CH1079 (CHr.ext E1085 CH1079.1)
        have z1102 : n0 ≤ h1085.size := Nat.le_trans z1081 E1085.1
        have hk1103 := Nat.le_trans hk1082 E1085.1
        have K1104 : Keep h0 h1085 [] := K1080.ext E1085
        have f1105 : Fld Z h1085 b1085 "com/example/thyme/thyme/lang/ExpressionResolver$Scope" "context" "Lcom/example/thyme/thyme/lang/ExpressionResolver$Context;" .null := D1085 (Or.inr (hw _ (List.mem_of_getElem? (i := 53) rfl))) (ty := (.object "com/example/thyme/thyme/lang/ExpressionResolver$Context")) (by decide)
        have f1106 : Fld Z h1085 b1085 "com/example/thyme/thyme/lang/ExpressionResolver$Scope" "constant" "Ljava/lang/String;" .null := D1085 (Or.inr (hw _ (List.mem_of_getElem? (i := 55) rfl))) (ty := (.object "java/lang/String")) (by decide)
        have f1107 : Fld Z h1085 b1085 "com/example/thyme/thyme/lang/ExpressionResolver$Scope" "locals" "Lcom/example/thyme/thyme/lang/Symbols$Locals;" .null := D1085 (Or.inr (hw _ (List.mem_of_getElem? (i := 57) rfl))) (ty := (.object "com/example/thyme/thyme/lang/Symbols$Locals")) (by decide)
        obtain ⟨_, _, ⟨T1108, L1108, k1108, n1108⟩, -, X1108, ⟨Lc1108, hQ1108, l1108, y1108, z1108⟩, st1108⟩ := X1085.specialBack hx (y := (⟨"com/example/thyme/thyme/lang/ExpressionResolver$Scope", "<init>", "(Lcom/example/thyme/thyme/lang/ExpressionResolver$Context;Ljava/lang/String;Lcom/example/thyme/thyme/lang/Symbols$Locals;)V"⟩ : MethodName)) rfl hown (mvT hZ (hw _ (List.mem_of_getElem? (i := 43) rfl))) (mvT hZ (hw _ (List.mem_of_getElem? (i := 44) rfl))) (mvT hZ (hw _ (List.mem_of_getElem? (i := 45) rfl))) (by decide) (backOf (W := 1) (own_rmSc01 l Z av hw [] b1085 r961 b1016 h1085 n0 z1102 A1085 f1105 f1106 f1107 g_b1085) hZ (hw _ (List.mem_of_getElem? (i := 45) rfl)) (hw _ (List.mem_of_getElem? (i := 42) rfl)) (by decide) (by decide)) (g := (mkF m 66 #[.val (.int p0), .val (.int p1), .val (.int p2), .val (.int p3), .val (.int p4), .val (.int p5), .val (.ref r961), .val .null, .val (.ref b1016), .val .null, .val .null, .unset, .unset] [(.ref b1016), .null, (.ref r961), (.ref b1085), (.ref b1085)])) rfl (by rw [hml]; rfl) (Steps.refl _) (a := b1085) (argsL := [(.ref r961), .null, (.ref b1016)]) (rest := [(.ref b1085)]) (lenOf own_pd13 rfl) rfl (by show 2 * 0 + _ ≤ _; exact Nat.le_of_eq rfl) (hb hby at_66) (fun _ _ => ⟨rfl, e1085, (by decide : 11 + 0 ≤ _), (by decide : 68 + 0 ≤ _)⟩)
        dsimp only [Pt.U, Pt.locs, Pt.cells, Pt.slots] at X1108 l1108 y1108 z1108 st1108 hQ1108
        subst l1108 y1108 z1108
        obtain ⟨rfl, N1108q, K1108, f1110, f1111⟩ := hQ1108
        have f1112 := own_staKeep f1087 K1108 (allS (own_nsE A1085) all0)
        have f1113 := own_staKeep f1088 K1108 (allS (own_nsE A1085) all0)
        have f1114 := own_staKeep f1089 K1108 (allS (own_nsE A1085) all0)
        have f1115 := own_staKeep f1090 K1108 (allS (own_nsE A1085) all0)
        have f1116 := own_staKeep f1091 K1108 (allS (own_nsE A1085) all0)
        have f1117 := own_staKeep f1092 K1108 (allS (own_nsE A1085) all0)
        have f1118 := own_staKeep f1093 K1108 (allS (own_nsE A1085) all0)
        have f1119 := own_staKeep f1094 K1108 (allS (own_nsE A1085) all0)
        have f1120 := own_staKeep f1095 K1108 (allS (own_nsE A1085) all0)
        have f1121 := own_staKeep f1096 K1108 (allS (own_nsE A1085) all0)
        have f1122 := Safe.keep K1108 (sfS f1100 sf0) CH1101.1 f1097
        have f1123 := f1098.keep K1108
        have f1124 := f1099.keep K1108 (ninS ne_b1016_b1085 nin0)
        have f1125 := Safe.keep K1108 (sfS f1100 sf0) CH1101.1 f1100
        have CH1126 := CHr.trans CH1101 (CHr.keep K1108 (sfS f1100 sf0) CH1101.1)
        have K1127 : Keep h0 T1108.heap [] := K1104.trans K1108 (allS (Or.inr sz_b1085) all0)
        have z1128 : n0 ≤ T1108.heap.size := Nat.le_trans z1102 K1108.1
        have hk1129 := Nat.le_trans hk1103 K1108.1
        have N1109 := Fr.app N1083 N1108q
        obtain ⟨cq1130, kq1130, q1130a, q1130b, q1130c⟩ := isOf hZ rfl f1110
        obtain ⟨_, _, ⟨T1130, L1130, k1130, n1130⟩, -, X1130, ⟨Lc1130, hQ1130, l1130, y1130, z1130⟩, st1130⟩ := X1108.virtualBack hx (y := (⟨"com/example/thyme/thyme/lang/ExpressionResolver$Scope", "instance", "()Ljava/lang/String;"⟩ : MethodName)) (z := (⟨"com/example/thyme/thyme/lang/ExpressionResolver$Scope", "instance", "()Ljava/lang/String;"⟩ : MethodName)) hown (mvT hZ (hw _ (List.mem_of_getElem? (i := 58) rfl))) (mvT hZ (hw _ (List.mem_of_getElem? (i := 59) rfl))) (notFace_of_selects (args := #[]) (mvT hZ (hw _ (List.mem_of_getElem? (i := 61) rfl)))) (mvT hZ (hw _ (List.mem_of_getElem? (i := 61) rfl))) (mvT hZ (hw _ (List.mem_of_getElem? (i := 60) rfl))) (by decide) (backOf (W := 0) (own_rmSi1 l Z av hw [] b1085 (b1016) T1108.heap n0 z1128 f1111 f1124) hZ (hw _ (List.mem_of_getElem? (i := 62) rfl)) (hw _ (List.mem_of_getElem? (i := 42) rfl)) (by decide) (by decide)) q1130a q1130c (g := (mkF m 73 #[.val (.int p0), .val (.int p1), .val (.int p2), .val (.int p3), .val (.int p4), .val (.int p5), .val (.ref r961), .val .null, .val (.ref b1016), .val .null, .val (.ref b1085), .unset, .unset] [(.ref b1085)])) rfl (by rw [hml]; rfl) (Steps.refl _) (argsL := []) (rest := []) (lenOf own_pd14 rfl) rfl (by show 2 * 0 + _ ≤ _; exact Nat.le_of_eq rfl) (hb hby at_73) (fun _ _ => ⟨rfl, rfl, (by decide : 11 + 0 ≤ _), (by decide : 68 + 0 ≤ _)⟩)
        dsimp only [Pt.U, Pt.locs, Pt.cells, Pt.slots] at X1130 l1130 y1130 z1130 st1130 hQ1130
        subst l1130 y1130 z1130
        obtain ⟨rfl, N1130q, e1132⟩ := hQ1130
        have N1131 := Fr.app N1109 N1130q
        obtain ⟨_, _, ⟨T1133, L1133, k1133, n1133⟩, -, X1133, ⟨Lc1133, hQ1133, l1133, y1133, z1133⟩, st1133⟩ := Jvm.LawKit.callS X1130 hx (y := (⟨"com/example/thyme/thyme/lang/ScopeInstancePinLaw", "same", "(Ljava/lang/String;Ljava/lang/String;)Z"⟩ : MethodName)) hown (mvT hZ (hw _ (List.mem_of_getElem? (i := 63) rfl))) (mvT hZ (hw _ (List.mem_of_getElem? (i := 64) rfl))) (mvT hZ (hw _ (List.mem_of_getElem? (i := 2) rfl))) (mvT hZ (hw _ (List.mem_of_getElem? (i := 65) rfl))) (by decide) (backOf (W := 0) (own_rmPN l Z av hw []  T1108.heap n0 z1128 ) hZ (hw _ (List.mem_of_getElem? (i := 65) rfl)) (hw _ (List.mem_of_getElem? (i := 2) rfl)) (by decide) (by decide)) (g := (mkF m 78 #[.val (.int p0), .val (.int p1), .val (.int p2), .val (.int p3), .val (.int p4), .val (.int p5), .val (.ref r961), .val .null, .val (.ref b1016), .val .null, .val (.ref b1085), .unset, .unset] [.null, .null])) rfl (by rw [hml]; rfl) (argsL := [.null, .null]) (rest := []) (lenOf own_pd15 rfl) rfl (by show 2 * 0 + _ ≤ _; exact Nat.le_of_eq rfl) (hb hby at_78) (fun _ _ => ⟨rfl, e1132, (by decide : 11 + 0 ≤ _), (by decide : 68 + 0 ≤ _)⟩)
        dsimp only [Pt.U, Pt.locs, Pt.cells, Pt.slots] at X1133 l1133 y1133 z1133 st1133 hQ1133
        subst l1133 y1133 z1133
        obtain ⟨rfl, N1133q, e1135⟩ := hQ1133
        have N1134 := Fr.app N1131 N1133q
        have pre1136 : ∀ t, Steps p.tables e below (T1133.setTop (mkF m 92 #[.val (.int p0), .val (.int p1), .val (.int p2), .val (.int p3), .val (.int p4), .val (.int p5), .val (.ref r961), .val .null, .val (.ref b1016), .val .null, .val (.ref b1085), .val (.int (1 : Int32)), .unset] [(.int (p5 &&& (4 : Int32)))])) t → Steps p.tables e below (s₁.setTop (entryFrame m #[(.int p0), (.int p1), (.int p2), (.int p3), (.int p4), (.int p5)] maxLocals)) t := fun t kk => pre1061 t (by
          show Steps p.tables e below (T1042.setTop (mkF m 40 #[.val (.int p0), .val (.int p1), .val (.int p2), .val (.int p3), .val (.int p4), .val (.int p5), .val (.ref r961), .val .null, .val (.ref b1016), .val .null, .unset, .unset, .unset] [(.int p4), (.int p3)])) _
          refine st1063 _ ?_
          show Steps p.tables e below (T1063.setTop (mkF m 43 #[.val (.int p0), .val (.int p1), .val (.int p2), .val (.int p3), .val (.int p4), .val (.int p5), .val (.ref r961), .val .null, .val (.ref b1016), .val .null, .unset, .unset, .unset] [.null])) _
          refine XS.astore X1063.here hx rfl (hb hby at_43) rfl rfl (l' := #[.val (.int p0), .val (.int p1), .val (.int p2), .val (.int p3), .val (.int p4), .val (.int p5), .val (.ref r961), .val .null, .val (.ref b1016), .val .null, .val .null, .unset, .unset]) rfl ?_
          show Steps p.tables e below (T1063.setTop (mkF m 45 #[.val (.int p0), .val (.int p1), .val (.int p2), .val (.int p3), .val (.int p4), .val (.int p5), .val (.ref r961), .val .null, .val (.ref b1016), .val .null, .val .null, .unset, .unset] [])) _
          refine XS.aload X1063.here hx rfl (hb hby at_45) rfl rfl ?_
          show Steps p.tables e below (T1063.setTop (mkF m 47 #[.val (.int p0), .val (.int p1), .val (.int p2), .val (.int p3), .val (.int p4), .val (.int p5), .val (.ref r961), .val .null, .val (.ref b1016), .val .null, .val .null, .unset, .unset] [(.ref b1016)])) _
          refine XS.aload X1063.here hx rfl (hb hby at_47) rfl rfl ?_
          show Steps p.tables e below (T1063.setTop (mkF m 49 #[.val (.int p0), .val (.int p1), .val (.int p2), .val (.int p3), .val (.int p4), .val (.int p5), .val (.ref r961), .val .null, .val (.ref b1016), .val .null, .val .null, .unset, .unset] [.null, (.ref b1016)])) _
          refine st1066 _ ?_
          show Steps p.tables e below (T1066.setTop (mkF m 52 #[.val (.int p0), .val (.int p1), .val (.int p2), .val (.int p3), .val (.int p4), .val (.int p5), .val (.ref r961), .val .null, .val (.ref b1016), .val .null, .val .null, .unset, .unset] [])) _
          refine XS.aload X1066.here hx rfl (hb hby at_52) rfl rfl ?_
          show Steps p.tables e below (T1066.setTop (mkF m 54 #[.val (.int p0), .val (.int p1), .val (.int p2), .val (.int p3), .val (.int p4), .val (.int p5), .val (.ref r961), .val .null, .val (.ref b1016), .val .null, .val .null, .unset, .unset] [.null])) _
          refine XS.astore X1066.here hx rfl (hb hby at_54) rfl rfl (l' := #[.val (.int p0), .val (.int p1), .val (.int p2), .val (.int p3), .val (.int p4), .val (.int p5), .val (.ref r961), .val .null, .val (.ref b1016), .val .null, .val .null, .unset, .unset]) rfl ?_
          show Steps p.tables e below (T1066.setTop (mkF m 56 #[.val (.int p0), .val (.int p1), .val (.int p2), .val (.int p3), .val (.int p4), .val (.int p5), .val (.ref r961), .val .null, .val (.ref b1016), .val .null, .val .null, .unset, .unset] [])) _
          refine st1085 _ ?_
          show Steps p.tables e below (T1085.setTop (mkF m 59 #[.val (.int p0), .val (.int p1), .val (.int p2), .val (.int p3), .val (.int p4), .val (.int p5), .val (.ref r961), .val .null, .val (.ref b1016), .val .null, .val .null, .unset, .unset] [(.ref b1085)])) _
          refine XS.dup X1085.here hx rfl (hb hby at_59) rfl rfl ?_
          show Steps p.tables e below (T1085.setTop (mkF m 60 #[.val (.int p0), .val (.int p1), .val (.int p2), .val (.int p3), .val (.int p4), .val (.int p5), .val (.ref r961), .val .null, .val (.ref b1016), .val .null, .val .null, .unset, .unset] [(.ref b1085), (.ref b1085)])) _
          refine XS.aload X1085.here hx rfl (hb hby at_60) rfl rfl ?_
          show Steps p.tables e below (T1085.setTop (mkF m 62 #[.val (.int p0), .val (.int p1), .val (.int p2), .val (.int p3), .val (.int p4), .val (.int p5), .val (.ref r961), .val .null, .val (.ref b1016), .val .null, .val .null, .unset, .unset] [(.ref r961), (.ref b1085), (.ref b1085)])) _
          refine XS.aload X1085.here hx rfl (hb hby at_62) rfl rfl ?_
          show Steps p.tables e below (T1085.setTop (mkF m 64 #[.val (.int p0), .val (.int p1), .val (.int p2), .val (.int p3), .val (.int p4), .val (.int p5), .val (.ref r961), .val .null, .val (.ref b1016), .val .null, .val .null, .unset, .unset] [.null, (.ref r961), (.ref b1085), (.ref b1085)])) _
          refine XS.aload X1085.here hx rfl (hb hby at_64) rfl rfl ?_
          show Steps p.tables e below (T1085.setTop (mkF m 66 #[.val (.int p0), .val (.int p1), .val (.int p2), .val (.int p3), .val (.int p4), .val (.int p5), .val (.ref r961), .val .null, .val (.ref b1016), .val .null, .val .null, .unset, .unset] [(.ref b1016), .null, (.ref r961), (.ref b1085), (.ref b1085)])) _
          refine st1108.trans ?_
          show Steps p.tables e below (T1108.setTop (mkF m 69 #[.val (.int p0), .val (.int p1), .val (.int p2), .val (.int p3), .val (.int p4), .val (.int p5), .val (.ref r961), .val .null, .val (.ref b1016), .val .null, .val .null, .unset, .unset] [(.ref b1085)])) _
          refine XS.astore X1108.here hx rfl (hb hby at_69) rfl rfl (l' := #[.val (.int p0), .val (.int p1), .val (.int p2), .val (.int p3), .val (.int p4), .val (.int p5), .val (.ref r961), .val .null, .val (.ref b1016), .val .null, .val (.ref b1085), .unset, .unset]) rfl ?_
          show Steps p.tables e below (T1108.setTop (mkF m 71 #[.val (.int p0), .val (.int p1), .val (.int p2), .val (.int p3), .val (.int p4), .val (.int p5), .val (.ref r961), .val .null, .val (.ref b1016), .val .null, .val (.ref b1085), .unset, .unset] [])) _
          refine XS.aload X1108.here hx rfl (hb hby at_71) rfl rfl ?_
          show Steps p.tables e below (T1108.setTop (mkF m 73 #[.val (.int p0), .val (.int p1), .val (.int p2), .val (.int p3), .val (.int p4), .val (.int p5), .val (.ref r961), .val .null, .val (.ref b1016), .val .null, .val (.ref b1085), .unset, .unset] [(.ref b1085)])) _
          refine st1130.trans ?_
          show Steps p.tables e below (T1130.setTop (mkF m 76 #[.val (.int p0), .val (.int p1), .val (.int p2), .val (.int p3), .val (.int p4), .val (.int p5), .val (.ref r961), .val .null, .val (.ref b1016), .val .null, .val (.ref b1085), .unset, .unset] [.null])) _
          refine XS.aload X1130.here hx rfl (hb hby at_76) rfl rfl ?_
          show Steps p.tables e below (T1130.setTop (mkF m 78 #[.val (.int p0), .val (.int p1), .val (.int p2), .val (.int p3), .val (.int p4), .val (.int p5), .val (.ref r961), .val .null, .val (.ref b1016), .val .null, .val (.ref b1085), .unset, .unset] [.null, .null])) _
          refine st1133 _ ?_
          show Steps p.tables e below (T1133.setTop (mkF m 81 #[.val (.int p0), .val (.int p1), .val (.int p2), .val (.int p3), .val (.int p4), .val (.int p5), .val (.ref r961), .val .null, .val (.ref b1016), .val .null, .val (.ref b1085), .unset, .unset] [(.int (1 : Int32))])) _
          refine XS.istore X1133.here hx rfl (hb hby at_81) rfl (l' := #[.val (.int p0), .val (.int p1), .val (.int p2), .val (.int p3), .val (.int p4), .val (.int p5), .val (.ref r961), .val .null, .val (.ref b1016), .val .null, .val (.ref b1085), .val (.int (1 : Int32)), .unset]) rfl ?_
          show Steps p.tables e below (T1133.setTop (mkF m 83 #[.val (.int p0), .val (.int p1), .val (.int p2), .val (.int p3), .val (.int p4), .val (.int p5), .val (.ref r961), .val .null, .val (.ref b1016), .val .null, .val (.ref b1085), .val (.int (1 : Int32)), .unset] [])) _
          refine XS.aload X1133.here hx rfl (hb hby at_83) rfl rfl ?_
          show Steps p.tables e below (T1133.setTop (mkF m 85 #[.val (.int p0), .val (.int p1), .val (.int p2), .val (.int p3), .val (.int p4), .val (.int p5), .val (.ref r961), .val .null, .val (.ref b1016), .val .null, .val (.ref b1085), .val (.int (1 : Int32)), .unset] [(.ref b1016)])) _
          refine XS.ifnullNo X1133.here hx rfl (hb hby at_85) rfl ?_
          show Steps p.tables e below (T1133.setTop (mkF m 88 #[.val (.int p0), .val (.int p1), .val (.int p2), .val (.int p3), .val (.int p4), .val (.int p5), .val (.ref r961), .val .null, .val (.ref b1016), .val .null, .val (.ref b1085), .val (.int (1 : Int32)), .unset] [])) _
          refine XS.iload X1133.here hx rfl (hb hby at_88) rfl ?_
          show Steps p.tables e below (T1133.setTop (mkF m 90 #[.val (.int p0), .val (.int p1), .val (.int p2), .val (.int p3), .val (.int p4), .val (.int p5), .val (.ref r961), .val .null, .val (.ref b1016), .val .null, .val (.ref b1085), .val (.int (1 : Int32)), .unset] [(.int p5)])) _
          refine XS.iconst X1133.here hx rfl (hb hby at_90) ?_
          show Steps p.tables e below (T1133.setTop (mkF m 91 #[.val (.int p0), .val (.int p1), .val (.int p2), .val (.int p3), .val (.int p4), .val (.int p5), .val (.ref r961), .val .null, .val (.ref b1016), .val .null, .val (.ref b1085), .val (.int (1 : Int32)), .unset] [(.int (4 : Int32)), (.int p5)])) _
          refine XS.iand X1133.here hx rfl (hb hby at_91) rfl ?_
          show Steps p.tables e below (T1133.setTop (mkF m 92 #[.val (.int p0), .val (.int p1), .val (.int p2), .val (.int p3), .val (.int p4), .val (.int p5), .val (.ref r961), .val .null, .val (.ref b1016), .val .null, .val (.ref b1085), .val (.int (1 : Int32)), .unset] [(.int (p5 &&& (4 : Int32)))])) _
          exact kk)
        by_cases hc1137 : (p5 &&& (4 : Int32)) = (0 : Int32)
        · obtain ⟨fs, hr, hrun, hended, hR1, hR2, hR3, hR4⟩ := Stand.leaveW (s := s) (vm₁ := s.vm) X1133 hS0 (by rw [e1135]; exact hk1129) (v := some (.int (1 : Int32))) (fun h => by rw [Bd.returns] at h; cases h)
          refine ⟨_, _, pre1136 _ ?_, hrun, hended, _, _, rfl, ?_, (by show CHr Z own_EL s.vm s.heap T1133.vm T1133.heap; rw [hh, e1135]; exact CHr.trans CH1126 (CHv.at (s := s) (vm0 := s.vm) X1133 hZ hEL CH1126.1)), hR1, hR2, hR3, hR4.mono (by decide) (by decide)⟩
          · show Steps p.tables e below (T1133.setTop (mkF m 92 #[.val (.int p0), .val (.int p1), .val (.int p2), .val (.int p3), .val (.int p4), .val (.int p5), .val (.ref r961), .val .null, .val (.ref b1016), .val .null, .val (.ref b1085), .val (.int (1 : Int32)), .unset] [(.int (p5 &&& (4 : Int32)))])) _
            refine XS.ifYes X1133.here hx rfl (pc0 := 92) (pc' := 139) rfl (hb hby at_92) rfl ((if0 _ _).trans (teq hc1137).1) (by decide) (by decide) ?_
            show Steps p.tables e below (T1133.setTop (mkF m 139 #[.val (.int p0), .val (.int p1), .val (.int p2), .val (.int p3), .val (.int p4), .val (.int p5), .val (.ref r961), .val .null, .val (.ref b1016), .val .null, .val (.ref b1085), .val (.int (1 : Int32)), .unset] [])) _
            refine XS.iload X1133.here hx rfl (hb hby at_139) rfl ?_
            show Steps p.tables e below (T1133.setTop (mkF m 141 #[.val (.int p0), .val (.int p1), .val (.int p2), .val (.int p3), .val (.int p4), .val (.int p5), .val (.ref r961), .val .null, .val (.ref b1016), .val .null, .val (.ref b1085), .val (.int (1 : Int32)), .unset] [(.int (1 : Int32))])) _
            exact retN X1133 hx (t := .boolean) Bd.returns (by simp) (hb hby at_141) hr
          · show own_Q0 Z p0 p1 p2 p3 p4 p5 x0 x1 x2 x3 x4 x5 x6 x7 cs ed h0 n0 _ T1133.heap _
            rw [e1135]
            exact ⟨rfl, N1134⟩
        · have pre1138 : ∀ t, Steps p.tables e below (T1133.setTop (mkF m 102 #[.val (.int p0), .val (.int p1), .val (.int p2), .val (.int p3), .val (.int p4), .val (.int p5), .val (.ref r961), .val .null, .val (.ref b1016), .val .null, .val (.ref b1085), .val (.int (1 : Int32)), .unset] [(.int ((p4.toUInt32 >>> ((16 : Int32) &&& 31).toUInt32).toInt32)), (.int p5)])) t → Steps p.tables e below (s₁.setTop (entryFrame m #[(.int p0), (.int p1), (.int p2), (.int p3), (.int p4), (.int p5)] maxLocals)) t := fun t kk => pre1136 t (by
            show Steps p.tables e below (T1133.setTop (mkF m 92 #[.val (.int p0), .val (.int p1), .val (.int p2), .val (.int p3), .val (.int p4), .val (.int p5), .val (.ref r961), .val .null, .val (.ref b1016), .val .null, .val (.ref b1085), .val (.int (1 : Int32)), .unset] [(.int (p5 &&& (4 : Int32)))])) _
            refine XS.ifNo X1133.here hx rfl (hb hby at_92) rfl ((if0 _ _).trans (feq hc1137).1) ?_
            show Steps p.tables e below (T1133.setTop (mkF m 95 #[.val (.int p0), .val (.int p1), .val (.int p2), .val (.int p3), .val (.int p4), .val (.int p5), .val (.ref r961), .val .null, .val (.ref b1016), .val .null, .val (.ref b1085), .val (.int (1 : Int32)), .unset] [])) _
            refine XS.iload X1133.here hx rfl (hb hby at_95) rfl ?_
            show Steps p.tables e below (T1133.setTop (mkF m 97 #[.val (.int p0), .val (.int p1), .val (.int p2), .val (.int p3), .val (.int p4), .val (.int p5), .val (.ref r961), .val .null, .val (.ref b1016), .val .null, .val (.ref b1085), .val (.int (1 : Int32)), .unset] [(.int p5)])) _
            refine XS.iload X1133.here hx rfl (hb hby at_97) rfl ?_
            show Steps p.tables e below (T1133.setTop (mkF m 99 #[.val (.int p0), .val (.int p1), .val (.int p2), .val (.int p3), .val (.int p4), .val (.int p5), .val (.ref r961), .val .null, .val (.ref b1016), .val .null, .val (.ref b1085), .val (.int (1 : Int32)), .unset] [(.int p4), (.int p5)])) _
            refine XS.bipush X1133.here hx rfl (hb hby at_99) ?_
            show Steps p.tables e below (T1133.setTop (mkF m 101 #[.val (.int p0), .val (.int p1), .val (.int p2), .val (.int p3), .val (.int p4), .val (.int p5), .val (.ref r961), .val .null, .val (.ref b1016), .val .null, .val (.ref b1085), .val (.int (1 : Int32)), .unset] [(.int (16 : Int32)), (.int p4), (.int p5)])) _
            refine XS.iushr X1133.here hx rfl (hb hby at_101) rfl ?_
            exact kk)
          by_cases hc1139 : (p5 &&& (3 : Int32)) = (0 : Int32)
          · obtain ⟨_, _, ⟨T1140, L1140, k1140, n1140⟩, -, X1140, ⟨Lc1140, hQ1140, l1140, y1140, z1140⟩, st1140⟩ := Jvm.LawKit.callS X1133 hx (y := (⟨"com/example/thyme/thyme/lang/ScopeInstancePinLaw", "str", "(II)Ljava/lang/String;"⟩ : MethodName)) hown (mvT hZ (hw _ (List.mem_of_getElem? (i := 7) rfl))) (mvT hZ (hw _ (List.mem_of_getElem? (i := 8) rfl))) (mvT hZ (hw _ (List.mem_of_getElem? (i := 2) rfl))) (mvT hZ (hw _ (List.mem_of_getElem? (i := 9) rfl))) (by decide) (backOf (W := 0) (own_rmSN l Z av hw [] p5 ((p4.toUInt32 >>> ((16 : Int32) &&& 31).toUInt32).toInt32) T1108.heap n0 z1128 (hc1139)) hZ (hw _ (List.mem_of_getElem? (i := 9) rfl)) (hw _ (List.mem_of_getElem? (i := 2) rfl)) (by decide) (by decide)) (g := (mkF m 102 #[.val (.int p0), .val (.int p1), .val (.int p2), .val (.int p3), .val (.int p4), .val (.int p5), .val (.ref r961), .val .null, .val (.ref b1016), .val .null, .val (.ref b1085), .val (.int (1 : Int32)), .unset] [(.int ((p4.toUInt32 >>> ((16 : Int32) &&& 31).toUInt32).toInt32)), (.int p5)])) rfl (by rw [hml]; rfl) (argsL := [(.int p5), (.int ((p4.toUInt32 >>> ((16 : Int32) &&& 31).toUInt32).toInt32))]) (rest := []) (lenOf own_pd12 rfl) rfl (by show 2 * 0 + _ ≤ _; exact Nat.le_of_eq rfl) (hb hby at_102) (fun _ _ => ⟨rfl, e1135, (by decide : 11 + 0 ≤ _), (by decide : 68 + 0 ≤ _)⟩)
            dsimp only [Pt.U, Pt.locs, Pt.cells, Pt.slots] at X1140 l1140 y1140 z1140 st1140 hQ1140
            subst l1140 y1140 z1140
            obtain ⟨rfl, N1140q, e1142⟩ := hQ1140
            have N1141 := Fr.app N1134 N1140q
            obtain ⟨T1143, h1143, X1143, e1143, W1143, st1143⟩ := putF X1140 hx hZ hown (host := "") (Or.inl (hw _ (List.mem_of_getElem? (i := 164) rfl))) Via.refl e1142 f1124 f1123 (Or.inl (hw _ (List.mem_of_getElem? (i := 165) rfl))) (hw _ (List.mem_of_getElem? (i := 83) rfl)) (ty := (.object "java/lang/String")) (by decide) rfl rfl (g := (mkF m 111 #[.val (.int p0), .val (.int p1), .val (.int p2), .val (.int p3), .val (.int p4), .val (.int p5), .val (.ref r961), .val .null, .val (.ref b1016), .val .null, .val (.ref b1085), .val (.int (1 : Int32)), .val .null] [.null, (.ref b1016)])) rfl rfl (hb hby at_111)
            have f1144 := f1112.wr W1143
            have f1145 := f1113.wr W1143
            have f1146 := f1114.wr W1143
            have f1147 := f1115.wr W1143
            have f1148 := f1116.wr W1143
            have f1149 := f1117.wr W1143
            have f1150 := f1118.wr W1143
            have f1151 := f1119.wr W1143
            have f1152 := f1120.wr W1143
            have f1153 := f1121.wr W1143
            have f1154 := Safe.wr W1143 f1122 CH1126.1 f1122
            have f1155 := f1123.wr W1143
            have f1156 := Safe.wr W1143 f1122 CH1126.1 f1125
            have f1157 := f1110.wr W1143
            have f1158 := f1111.other W1143 (Or.inl (Ne.symm ne_b1016_b1085))
            have CH1159 := CHr.trans CH1126 (CHr.wr W1143 f1122 CH1126.1)
            have K1160 : Keep h0 h1143 [] := K1127.wr W1143 (Or.inr sz_b1016)
            have z1161 : n0 ≤ h1143.size := Nat.le_trans z1128 (Keep.of_wr W1143).1
            have hk1162 := Nat.le_trans hk1129 (Keep.of_wr W1143).1
            have N1163 := Fr.snoc X1143 N1141 g_b1016
            have f1164 : Fld Z h1143 b1016 "com/example/thyme/thyme/lang/Symbols$Locals" "instance" "Ljava/lang/String;" .null := f1124.same W1143
            obtain ⟨cq1165, kq1165, q1165a, q1165b, q1165c⟩ := isOf hZ e1143 f1157
            obtain ⟨_, _, ⟨T1165, L1165, k1165, n1165⟩, -, X1165, ⟨Lc1165, hQ1165, l1165, y1165, z1165⟩, st1165⟩ := X1143.virtualBack hx (y := (⟨"com/example/thyme/thyme/lang/ExpressionResolver$Scope", "instance", "()Ljava/lang/String;"⟩ : MethodName)) (z := (⟨"com/example/thyme/thyme/lang/ExpressionResolver$Scope", "instance", "()Ljava/lang/String;"⟩ : MethodName)) hown (mvT hZ (hw _ (List.mem_of_getElem? (i := 58) rfl))) (mvT hZ (hw _ (List.mem_of_getElem? (i := 59) rfl))) (notFace_of_selects (args := #[]) (mvT hZ (hw _ (List.mem_of_getElem? (i := 61) rfl)))) (mvT hZ (hw _ (List.mem_of_getElem? (i := 61) rfl))) (mvT hZ (hw _ (List.mem_of_getElem? (i := 60) rfl))) (by decide) (backOf (W := 0) (own_rmSi1 l Z av hw [] b1085 (b1016) h1143 n0 z1161 f1158 f1164) hZ (hw _ (List.mem_of_getElem? (i := 62) rfl)) (hw _ (List.mem_of_getElem? (i := 42) rfl)) (by decide) (by decide)) q1165a q1165c (g := (mkF m 121 #[.val (.int p0), .val (.int p1), .val (.int p2), .val (.int p3), .val (.int p4), .val (.int p5), .val (.ref r961), .val .null, .val (.ref b1016), .val .null, .val (.ref b1085), .val (.int (1 : Int32)), .val .null] [(.ref b1085)])) rfl (by rw [hml]; rfl) (Steps.refl _) (argsL := []) (rest := []) (lenOf own_pd14 rfl) rfl (by show 2 * 0 + _ ≤ _; exact Nat.le_of_eq rfl) (hb hby at_121) (fun _ _ => ⟨rfl, e1143, (by decide : 11 + 0 ≤ _), (by decide : 68 + 0 ≤ _)⟩)
            dsimp only [Pt.U, Pt.locs, Pt.cells, Pt.slots] at X1165 l1165 y1165 z1165 st1165 hQ1165
            subst l1165 y1165 z1165
            obtain ⟨rfl, N1165q, e1167⟩ := hQ1165
            have N1166 := Fr.app N1163 N1165q
            obtain ⟨_, _, ⟨T1168, L1168, k1168, n1168⟩, -, X1168, ⟨Lc1168, hQ1168, l1168, y1168, z1168⟩, st1168⟩ := Jvm.LawKit.callS X1165 hx (y := (⟨"com/example/thyme/thyme/lang/ScopeInstancePinLaw", "same", "(Ljava/lang/String;Ljava/lang/String;)Z"⟩ : MethodName)) hown (mvT hZ (hw _ (List.mem_of_getElem? (i := 63) rfl))) (mvT hZ (hw _ (List.mem_of_getElem? (i := 64) rfl))) (mvT hZ (hw _ (List.mem_of_getElem? (i := 2) rfl))) (mvT hZ (hw _ (List.mem_of_getElem? (i := 65) rfl))) (by decide) (backOf (W := 0) (own_rmPN l Z av hw []  h1143 n0 z1161 ) hZ (hw _ (List.mem_of_getElem? (i := 65) rfl)) (hw _ (List.mem_of_getElem? (i := 2) rfl)) (by decide) (by decide)) (g := (mkF m 126 #[.val (.int p0), .val (.int p1), .val (.int p2), .val (.int p3), .val (.int p4), .val (.int p5), .val (.ref r961), .val .null, .val (.ref b1016), .val .null, .val (.ref b1085), .val (.int (1 : Int32)), .val .null] [.null, .null])) rfl (by rw [hml]; rfl) (argsL := [.null, .null]) (rest := []) (lenOf own_pd15 rfl) rfl (by show 2 * 0 + _ ≤ _; exact Nat.le_of_eq rfl) (hb hby at_126) (fun _ _ => ⟨rfl, e1167, (by decide : 11 + 0 ≤ _), (by decide : 68 + 0 ≤ _)⟩)
            dsimp only [Pt.U, Pt.locs, Pt.cells, Pt.slots] at X1168 l1168 y1168 z1168 st1168 hQ1168
            subst l1168 y1168 z1168
            obtain ⟨rfl, N1168q, e1170⟩ := hQ1168
            have N1169 := Fr.app N1166 N1168q
            obtain ⟨fs, hr, hrun, hended, hR1, hR2, hR3, hR4⟩ := Stand.leaveW (s := s) (vm₁ := s.vm) X1168 hS0 (by rw [e1170]; exact hk1162) (v := some (.int (1 : Int32))) (fun h => by rw [Bd.returns] at h; cases h)
            refine ⟨_, _, pre1138 _ ?_, hrun, hended, _, _, rfl, ?_, (by show CHr Z own_EL s.vm s.heap T1168.vm T1168.heap; rw [hh, e1170]; exact CHr.trans CH1159 (CHv.at (s := s) (vm0 := s.vm) X1168 hZ hEL CH1159.1)), hR1, hR2, hR3, hR4.mono (by decide) (by decide)⟩
            · show Steps p.tables e below (T1133.setTop (mkF m 102 #[.val (.int p0), .val (.int p1), .val (.int p2), .val (.int p3), .val (.int p4), .val (.int p5), .val (.ref r961), .val .null, .val (.ref b1016), .val .null, .val (.ref b1085), .val (.int (1 : Int32)), .unset] [(.int ((p4.toUInt32 >>> ((16 : Int32) &&& 31).toUInt32).toInt32)), (.int p5)])) _
              refine st1140 _ ?_
              show Steps p.tables e below (T1140.setTop (mkF m 105 #[.val (.int p0), .val (.int p1), .val (.int p2), .val (.int p3), .val (.int p4), .val (.int p5), .val (.ref r961), .val .null, .val (.ref b1016), .val .null, .val (.ref b1085), .val (.int (1 : Int32)), .unset] [.null])) _
              refine XS.astore X1140.here hx rfl (hb hby at_105) rfl rfl (l' := #[.val (.int p0), .val (.int p1), .val (.int p2), .val (.int p3), .val (.int p4), .val (.int p5), .val (.ref r961), .val .null, .val (.ref b1016), .val .null, .val (.ref b1085), .val (.int (1 : Int32)), .val .null]) rfl ?_
              show Steps p.tables e below (T1140.setTop (mkF m 107 #[.val (.int p0), .val (.int p1), .val (.int p2), .val (.int p3), .val (.int p4), .val (.int p5), .val (.ref r961), .val .null, .val (.ref b1016), .val .null, .val (.ref b1085), .val (.int (1 : Int32)), .val .null] [])) _
              refine XS.aload X1140.here hx rfl (hb hby at_107) rfl rfl ?_
              show Steps p.tables e below (T1140.setTop (mkF m 109 #[.val (.int p0), .val (.int p1), .val (.int p2), .val (.int p3), .val (.int p4), .val (.int p5), .val (.ref r961), .val .null, .val (.ref b1016), .val .null, .val (.ref b1085), .val (.int (1 : Int32)), .val .null] [(.ref b1016)])) _
              refine XS.aload X1140.here hx rfl (hb hby at_109) rfl rfl ?_
              show Steps p.tables e below (T1140.setTop (mkF m 111 #[.val (.int p0), .val (.int p1), .val (.int p2), .val (.int p3), .val (.int p4), .val (.int p5), .val (.ref r961), .val .null, .val (.ref b1016), .val .null, .val (.ref b1085), .val (.int (1 : Int32)), .val .null] [.null, (.ref b1016)])) _
              refine st1143 _ ?_
              show Steps p.tables e below (T1143.setTop (mkF m 114 #[.val (.int p0), .val (.int p1), .val (.int p2), .val (.int p3), .val (.int p4), .val (.int p5), .val (.ref r961), .val .null, .val (.ref b1016), .val .null, .val (.ref b1085), .val (.int (1 : Int32)), .val .null] [])) _
              refine XS.iload X1143.here hx rfl (hb hby at_114) rfl ?_
              show Steps p.tables e below (T1143.setTop (mkF m 116 #[.val (.int p0), .val (.int p1), .val (.int p2), .val (.int p3), .val (.int p4), .val (.int p5), .val (.ref r961), .val .null, .val (.ref b1016), .val .null, .val (.ref b1085), .val (.int (1 : Int32)), .val .null] [(.int (1 : Int32))])) _
              refine XS.ifNo X1143.here hx rfl (hb hby at_116) rfl ((if0 _ _).trans (feq (by decide : ¬ ((1 : Int32) = (0 : Int32)))).1) ?_
              show Steps p.tables e below (T1143.setTop (mkF m 119 #[.val (.int p0), .val (.int p1), .val (.int p2), .val (.int p3), .val (.int p4), .val (.int p5), .val (.ref r961), .val .null, .val (.ref b1016), .val .null, .val (.ref b1085), .val (.int (1 : Int32)), .val .null] [])) _
              refine XS.aload X1143.here hx rfl (hb hby at_119) rfl rfl ?_
              show Steps p.tables e below (T1143.setTop (mkF m 121 #[.val (.int p0), .val (.int p1), .val (.int p2), .val (.int p3), .val (.int p4), .val (.int p5), .val (.ref r961), .val .null, .val (.ref b1016), .val .null, .val (.ref b1085), .val (.int (1 : Int32)), .val .null] [(.ref b1085)])) _
              refine st1165.trans ?_
              show Steps p.tables e below (T1165.setTop (mkF m 124 #[.val (.int p0), .val (.int p1), .val (.int p2), .val (.int p3), .val (.int p4), .val (.int p5), .val (.ref r961), .val .null, .val (.ref b1016), .val .null, .val (.ref b1085), .val (.int (1 : Int32)), .val .null] [.null])) _
              refine XS.aload X1165.here hx rfl (hb hby at_124) rfl rfl ?_
              show Steps p.tables e below (T1165.setTop (mkF m 126 #[.val (.int p0), .val (.int p1), .val (.int p2), .val (.int p3), .val (.int p4), .val (.int p5), .val (.ref r961), .val .null, .val (.ref b1016), .val .null, .val (.ref b1085), .val (.int (1 : Int32)), .val .null] [.null, .null])) _
              refine st1168 _ ?_
              show Steps p.tables e below (T1168.setTop (mkF m 129 #[.val (.int p0), .val (.int p1), .val (.int p2), .val (.int p3), .val (.int p4), .val (.int p5), .val (.ref r961), .val .null, .val (.ref b1016), .val .null, .val (.ref b1085), .val (.int (1 : Int32)), .val .null] [(.int (1 : Int32))])) _
              refine XS.ifNo X1168.here hx rfl (hb hby at_129) rfl ((if0 _ _).trans (feq (by decide : ¬ ((1 : Int32) = (0 : Int32)))).1) ?_
              show Steps p.tables e below (T1168.setTop (mkF m 132 #[.val (.int p0), .val (.int p1), .val (.int p2), .val (.int p3), .val (.int p4), .val (.int p5), .val (.ref r961), .val .null, .val (.ref b1016), .val .null, .val (.ref b1085), .val (.int (1 : Int32)), .val .null] [])) _
              refine XS.iconst X1168.here hx rfl (hb hby at_132) ?_
              show Steps p.tables e below (T1168.setTop (mkF m 133 #[.val (.int p0), .val (.int p1), .val (.int p2), .val (.int p3), .val (.int p4), .val (.int p5), .val (.ref r961), .val .null, .val (.ref b1016), .val .null, .val (.ref b1085), .val (.int (1 : Int32)), .val .null] [(.int (1 : Int32))])) _
              refine XS.goto X1168.here hx rfl (pc0 := 133) (pc' := 137) rfl (hb hby at_133) (by decide) (by decide) ?_
              show Steps p.tables e below (T1168.setTop (mkF m 137 #[.val (.int p0), .val (.int p1), .val (.int p2), .val (.int p3), .val (.int p4), .val (.int p5), .val (.ref r961), .val .null, .val (.ref b1016), .val .null, .val (.ref b1085), .val (.int (1 : Int32)), .val .null] [(.int (1 : Int32))])) _
              refine XS.istore X1168.here hx rfl (hb hby at_137) rfl (l' := #[.val (.int p0), .val (.int p1), .val (.int p2), .val (.int p3), .val (.int p4), .val (.int p5), .val (.ref r961), .val .null, .val (.ref b1016), .val .null, .val (.ref b1085), .val (.int (1 : Int32)), .val .null]) rfl ?_
              show Steps p.tables e below (T1168.setTop (mkF m 139 #[.val (.int p0), .val (.int p1), .val (.int p2), .val (.int p3), .val (.int p4), .val (.int p5), .val (.ref r961), .val .null, .val (.ref b1016), .val .null, .val (.ref b1085), .val (.int (1 : Int32)), .val .null] [])) _
              refine XS.iload X1168.here hx rfl (hb hby at_139) rfl ?_
              show Steps p.tables e below (T1168.setTop (mkF m 141 #[.val (.int p0), .val (.int p1), .val (.int p2), .val (.int p3), .val (.int p4), .val (.int p5), .val (.ref r961), .val .null, .val (.ref b1016), .val .null, .val (.ref b1085), .val (.int (1 : Int32)), .val .null] [(.int (1 : Int32))])) _
              exact retN X1168 hx (t := .boolean) Bd.returns (by simp) (hb hby at_141) hr
            · show own_Q0 Z p0 p1 p2 p3 p4 p5 x0 x1 x2 x3 x4 x5 x6 x7 cs ed h0 n0 _ T1168.heap _
              rw [e1170]
              exact ⟨rfl, N1169⟩
          · obtain ⟨_, _, ⟨T1171, L1171, k1171, n1171⟩, -, Y1171, hSa1171, gle1171, ⟨Lc1171, hQ1171, l1171, y1171, z1171, A1171⟩, st1171⟩ := callSS X1133 hx (y := (⟨"com/example/thyme/thyme/lang/ScopeInstancePinLaw", "str", "(II)Ljava/lang/String;"⟩ : MethodName)) hown (mvT hZ (hw _ (List.mem_of_getElem? (i := 7) rfl))) (mvT hZ (hw _ (List.mem_of_getElem? (i := 8) rfl))) (mvT hZ (hw _ (List.mem_of_getElem? (i := 2) rfl))) (mvT hZ (hw _ (List.mem_of_getElem? (i := 9) rfl))) (by decide) (own_backSH (s := s) (vm0 := s.vm) (W := 0) (xs := []) (own_rmSS l Z av hw [] p5 ((p4.toUInt32 >>> ((16 : Int32) &&& 31).toUInt32).toInt32) (cs) T1108.heap n0 z1128 f1120 (hc1139) (hcs)) hZ (hw _ (List.mem_of_getElem? (i := 9) rfl)) (hw _ (List.mem_of_getElem? (i := 2) rfl)) (by decide) (by decide) hEL CH1126.1 own_sl0) (g := (mkF m 102 #[.val (.int p0), .val (.int p1), .val (.int p2), .val (.int p3), .val (.int p4), .val (.int p5), .val (.ref r961), .val .null, .val (.ref b1016), .val .null, .val (.ref b1085), .val (.int (1 : Int32)), .unset] [(.int ((p4.toUInt32 >>> ((16 : Int32) &&& 31).toUInt32).toInt32)), (.int p5)])) rfl (by rw [hml]; rfl) (argsL := [(.int p5), (.int ((p4.toUInt32 >>> ((16 : Int32) &&& 31).toUInt32).toInt32))]) (rest := []) (lenOf own_pd12 rfl) rfl (by show 2 * 0 + _ ≤ _; exact Nat.le_of_eq rfl) (hb hby at_102) (fun _ _ => ⟨rfl, e1135, (by decide : 11 + 6 ≤ _), (by decide : 68 + 12 ≤ _)⟩)
            dsimp only [Pt.U, Pt.locs, Pt.cells, Pt.slots] at Y1171 hSa1171 gle1171 l1171 y1171 z1171 st1171 hQ1171 A1171
            subst l1171 y1171 z1171
            obtain ⟨X1171, hS1171, hZ1171, hown1171⟩ := rebS (s := s) (vm0 := s.vm) hS0 (show _ ≤ T1133.heap.size from (by rw [e1135]; exact hk1129)) Y1171 hSa1171 gle1171 hZ hown
            obtain ⟨b1172, rfl, N1171q, K1171, g_b1172, sz1171_b1172, f1174⟩ := hQ1171
            have ne_b1016_b1172 : b1016 ≠ b1172 := Nat.ne_of_lt (Nat.lt_of_lt_of_le f1123.lt sz1171_b1172)
            have ne_b1085_b1172 : b1085 ≠ b1172 := Nat.ne_of_lt (Nat.lt_of_lt_of_le f1110.lt sz1171_b1172)
            have sz_b1172 : h0.size ≤ b1172 := Nat.le_trans K1127.1 sz1171_b1172
            have f1175 := own_staKeep f1112 K1171 all0
            have f1176 := own_staKeep f1113 K1171 all0
            have f1177 := own_staKeep f1114 K1171 all0
            have f1178 := own_staKeep f1115 K1171 all0
            have f1179 := own_staKeep f1116 K1171 all0
            have f1180 := own_staKeep f1117 K1171 all0
            have f1181 := own_staKeep f1118 K1171 all0
            have f1182 := own_staKeep f1119 K1171 all0
            have f1183 := own_staKeep f1120 K1171 all0
            have f1184 := own_staKeep f1121 K1171 all0
            have f1185 := CHr.safe A1171 f1123.lt f1122
            have f1186 := f1123.keep K1171
            have f1187 := f1124.keep K1171 nin0
            have f1188 := CHr.safe A1171 f1110.lt f1125
            have f1189 := f1110.keep K1171
            have f1190 := f1111.keep K1171 nin0
            have CH1191 := CHr.trans CH1126 A1171
            have K1192 : Keep h0 T1171.heap [] := K1127.trans K1171 all0
            have z1193 : n0 ≤ T1171.heap.size := Nat.le_trans z1128 K1171.1
            have N1173 := Fr.app N1134 N1171q
            obtain ⟨T1194, h1194, X1194, e1194, W1194, st1194⟩ := putF X1171 hx hZ1171 hown1171 (host := "") (Or.inl (hw _ (List.mem_of_getElem? (i := 164) rfl))) Via.refl rfl f1187 f1186 (Or.inl (hw _ (List.mem_of_getElem? (i := 165) rfl))) (hw _ (List.mem_of_getElem? (i := 83) rfl)) (ty := (.object "java/lang/String")) (by decide) rfl rfl (g := (mkF m 111 #[.val (.int p0), .val (.int p1), .val (.int p2), .val (.int p3), .val (.int p4), .val (.int p5), .val (.ref r961), .val .null, .val (.ref b1016), .val .null, .val (.ref b1085), .val (.int (1 : Int32)), .val (.ref b1172)] [(.ref b1172), (.ref b1016)])) rfl rfl (hb hby at_111)
            have f1195 := f1175.wr W1194
            have f1196 := f1176.wr W1194
            have f1197 := f1177.wr W1194
            have f1198 := f1178.wr W1194
            have f1199 := f1179.wr W1194
            have f1200 := f1180.wr W1194
            have f1201 := f1181.wr W1194
            have f1202 := f1182.wr W1194
            have f1203 := f1183.wr W1194
            have f1204 := f1184.wr W1194
            have f1205 := Safe.wr W1194 f1185 CH1191.1 f1185
            have f1206 := f1186.wr W1194
            have f1207 := Safe.wr W1194 f1185 CH1191.1 f1188
            have f1208 := f1189.wr W1194
            have f1209 := f1190.other W1194 (Or.inl (Ne.symm ne_b1016_b1085))
            have f1210 := f1174.wr W1194
            have CH1211 := CHr.trans CH1191 (CHr.wr W1194 f1185 CH1191.1)
            have K1212 : Keep h0 h1194 [] := K1192.wr W1194 (Or.inr sz_b1016)
            have z1213 : n0 ≤ h1194.size := Nat.le_trans z1193 (Keep.of_wr W1194).1
            have hk1214 := Nat.le_trans (Nat.le_refl T1171.heap.size) (Keep.of_wr W1194).1
            have N1215 := Fr.snoc X1194 N1173 g_b1016
            have f1216 : Fld Z h1194 b1016 "com/example/thyme/thyme/lang/Symbols$Locals" "instance" "Ljava/lang/String;" (.ref b1172) := f1187.same W1194
            obtain ⟨cq1217, kq1217, q1217a, q1217b, q1217c⟩ := isOf hZ1171 e1194 f1208
            obtain ⟨_, _, ⟨T1217, L1217, k1217, n1217⟩, -, X1217, ⟨Lc1217, hQ1217, l1217, y1217, z1217⟩, st1217⟩ := X1194.virtualBack hx (y := (⟨"com/example/thyme/thyme/lang/ExpressionResolver$Scope", "instance", "()Ljava/lang/String;"⟩ : MethodName)) (z := (⟨"com/example/thyme/thyme/lang/ExpressionResolver$Scope", "instance", "()Ljava/lang/String;"⟩ : MethodName)) hown1171 (mvT hZ1171 (hw _ (List.mem_of_getElem? (i := 58) rfl))) (mvT hZ1171 (hw _ (List.mem_of_getElem? (i := 59) rfl))) (notFace_of_selects (args := #[]) (mvT hZ1171 (hw _ (List.mem_of_getElem? (i := 61) rfl)))) (mvT hZ1171 (hw _ (List.mem_of_getElem? (i := 61) rfl))) (mvT hZ1171 (hw _ (List.mem_of_getElem? (i := 60) rfl))) (by decide) (backOf (W := 0) (own_rmSi2 l Z av hw [] b1085 (b1016) (b1172) h1194 n0 z1213 f1209 f1216) hZ1171 (hw _ (List.mem_of_getElem? (i := 62) rfl)) (hw _ (List.mem_of_getElem? (i := 42) rfl)) (by decide) (by decide)) q1217a q1217c (g := (mkF m 121 #[.val (.int p0), .val (.int p1), .val (.int p2), .val (.int p3), .val (.int p4), .val (.int p5), .val (.ref r961), .val .null, .val (.ref b1016), .val .null, .val (.ref b1085), .val (.int (1 : Int32)), .val (.ref b1172)] [(.ref b1085)])) rfl (by rw [hml]; rfl) (Steps.refl _) (argsL := []) (rest := []) (lenOf own_pd14 rfl) rfl (by show 2 * 0 + _ ≤ _; exact Nat.le_of_eq rfl) (hb hby at_121) (fun _ _ => ⟨rfl, e1194, (by decide : 17 + 0 ≤ _), (by decide : 80 + 0 ≤ _)⟩)
            dsimp only [Pt.U, Pt.locs, Pt.cells, Pt.slots] at X1217 l1217 y1217 z1217 st1217 hQ1217
            subst l1217 y1217 z1217
            obtain ⟨rfl, N1217q, e1219⟩ := hQ1217
            have N1218 := Fr.app N1215 N1217q
            obtain ⟨_, _, ⟨T1220, L1220, k1220, n1220⟩, -, X1220, ⟨Lc1220, hQ1220, l1220, y1220, z1220⟩, st1220⟩ := Jvm.LawKit.callS X1217 hx (y := (⟨"com/example/thyme/thyme/lang/ScopeInstancePinLaw", "same", "(Ljava/lang/String;Ljava/lang/String;)Z"⟩ : MethodName)) hown1171 (mvT hZ1171 (hw _ (List.mem_of_getElem? (i := 63) rfl))) (mvT hZ1171 (hw _ (List.mem_of_getElem? (i := 64) rfl))) (mvT hZ1171 (hw _ (List.mem_of_getElem? (i := 2) rfl))) (mvT hZ1171 (hw _ (List.mem_of_getElem? (i := 65) rfl))) (by decide) (backOf (W := 0) (own_rmPS l Z av hw [] b1172 b1172 h1194 n0 z1213 f1210 (rfl)) hZ1171 (hw _ (List.mem_of_getElem? (i := 65) rfl)) (hw _ (List.mem_of_getElem? (i := 2) rfl)) (by decide) (by decide)) (g := (mkF m 126 #[.val (.int p0), .val (.int p1), .val (.int p2), .val (.int p3), .val (.int p4), .val (.int p5), .val (.ref r961), .val .null, .val (.ref b1016), .val .null, .val (.ref b1085), .val (.int (1 : Int32)), .val (.ref b1172)] [(.ref b1172), (.ref b1172)])) rfl (by rw [hml]; rfl) (argsL := [(.ref b1172), (.ref b1172)]) (rest := []) (lenOf own_pd15 rfl) rfl (by show 2 * 0 + _ ≤ _; exact Nat.le_of_eq rfl) (hb hby at_126) (fun _ _ => ⟨rfl, e1219, (by decide : 17 + 0 ≤ _), (by decide : 80 + 0 ≤ _)⟩)
            dsimp only [Pt.U, Pt.locs, Pt.cells, Pt.slots] at X1220 l1220 y1220 z1220 st1220 hQ1220
            subst l1220 y1220 z1220
            obtain ⟨rfl, N1220q, e1222⟩ := hQ1220
            have N1221 := Fr.app N1218 N1220q
            obtain ⟨fs, hr, hrun, hended, hR1, hR2, hR3, hR4⟩ := Stand.leaveW (s := s) (vm₁ := T1171.vm) X1220 hS1171 (by rw [e1222]; exact hk1214) (v := some (.int (1 : Int32))) (fun h => by rw [Bd.returns] at h; cases h)
            refine ⟨_, _, pre1138 _ ?_, hrun, hended, _, _, rfl, ?_, (by show CHr Z own_EL s.vm s.heap T1220.vm T1220.heap; rw [hh, e1222]; exact CHr.trans CH1211 (CHv.at (s := s) (vm0 := T1171.vm) X1220 hZ1171 hEL CH1211.1)), hR1, hR2, hR3, hR4.mono (by decide) (by decide)⟩
            · show Steps p.tables e below (T1133.setTop (mkF m 102 #[.val (.int p0), .val (.int p1), .val (.int p2), .val (.int p3), .val (.int p4), .val (.int p5), .val (.ref r961), .val .null, .val (.ref b1016), .val .null, .val (.ref b1085), .val (.int (1 : Int32)), .unset] [(.int ((p4.toUInt32 >>> ((16 : Int32) &&& 31).toUInt32).toInt32)), (.int p5)])) _
              refine st1171.trans ?_
              show Steps p.tables e below (T1171.setTop (mkF m 105 #[.val (.int p0), .val (.int p1), .val (.int p2), .val (.int p3), .val (.int p4), .val (.int p5), .val (.ref r961), .val .null, .val (.ref b1016), .val .null, .val (.ref b1085), .val (.int (1 : Int32)), .unset] [(.ref b1172)])) _
              refine XS.astore X1171.here hx rfl (hb hby at_105) rfl rfl (l' := #[.val (.int p0), .val (.int p1), .val (.int p2), .val (.int p3), .val (.int p4), .val (.int p5), .val (.ref r961), .val .null, .val (.ref b1016), .val .null, .val (.ref b1085), .val (.int (1 : Int32)), .val (.ref b1172)]) rfl ?_
              show Steps p.tables e below (T1171.setTop (mkF m 107 #[.val (.int p0), .val (.int p1), .val (.int p2), .val (.int p3), .val (.int p4), .val (.int p5), .val (.ref r961), .val .null, .val (.ref b1016), .val .null, .val (.ref b1085), .val (.int (1 : Int32)), .val (.ref b1172)] [])) _
              refine XS.aload X1171.here hx rfl (hb hby at_107) rfl rfl ?_
              show Steps p.tables e below (T1171.setTop (mkF m 109 #[.val (.int p0), .val (.int p1), .val (.int p2), .val (.int p3), .val (.int p4), .val (.int p5), .val (.ref r961), .val .null, .val (.ref b1016), .val .null, .val (.ref b1085), .val (.int (1 : Int32)), .val (.ref b1172)] [(.ref b1016)])) _
              refine XS.aload X1171.here hx rfl (hb hby at_109) rfl rfl ?_
              show Steps p.tables e below (T1171.setTop (mkF m 111 #[.val (.int p0), .val (.int p1), .val (.int p2), .val (.int p3), .val (.int p4), .val (.int p5), .val (.ref r961), .val .null, .val (.ref b1016), .val .null, .val (.ref b1085), .val (.int (1 : Int32)), .val (.ref b1172)] [(.ref b1172), (.ref b1016)])) _
              refine st1194 _ ?_
              show Steps p.tables e below (T1194.setTop (mkF m 114 #[.val (.int p0), .val (.int p1), .val (.int p2), .val (.int p3), .val (.int p4), .val (.int p5), .val (.ref r961), .val .null, .val (.ref b1016), .val .null, .val (.ref b1085), .val (.int (1 : Int32)), .val (.ref b1172)] [])) _
              refine XS.iload X1194.here hx rfl (hb hby at_114) rfl ?_
              show Steps p.tables e below (T1194.setTop (mkF m 116 #[.val (.int p0), .val (.int p1), .val (.int p2), .val (.int p3), .val (.int p4), .val (.int p5), .val (.ref r961), .val .null, .val (.ref b1016), .val .null, .val (.ref b1085), .val (.int (1 : Int32)), .val (.ref b1172)] [(.int (1 : Int32))])) _
              refine XS.ifNo X1194.here hx rfl (hb hby at_116) rfl ((if0 _ _).trans (feq (by decide : ¬ ((1 : Int32) = (0 : Int32)))).1) ?_
              show Steps p.tables e below (T1194.setTop (mkF m 119 #[.val (.int p0), .val (.int p1), .val (.int p2), .val (.int p3), .val (.int p4), .val (.int p5), .val (.ref r961), .val .null, .val (.ref b1016), .val .null, .val (.ref b1085), .val (.int (1 : Int32)), .val (.ref b1172)] [])) _
              refine XS.aload X1194.here hx rfl (hb hby at_119) rfl rfl ?_
              show Steps p.tables e below (T1194.setTop (mkF m 121 #[.val (.int p0), .val (.int p1), .val (.int p2), .val (.int p3), .val (.int p4), .val (.int p5), .val (.ref r961), .val .null, .val (.ref b1016), .val .null, .val (.ref b1085), .val (.int (1 : Int32)), .val (.ref b1172)] [(.ref b1085)])) _
              refine st1217.trans ?_
              show Steps p.tables e below (T1217.setTop (mkF m 124 #[.val (.int p0), .val (.int p1), .val (.int p2), .val (.int p3), .val (.int p4), .val (.int p5), .val (.ref r961), .val .null, .val (.ref b1016), .val .null, .val (.ref b1085), .val (.int (1 : Int32)), .val (.ref b1172)] [(.ref b1172)])) _
              refine XS.aload X1217.here hx rfl (hb hby at_124) rfl rfl ?_
              show Steps p.tables e below (T1217.setTop (mkF m 126 #[.val (.int p0), .val (.int p1), .val (.int p2), .val (.int p3), .val (.int p4), .val (.int p5), .val (.ref r961), .val .null, .val (.ref b1016), .val .null, .val (.ref b1085), .val (.int (1 : Int32)), .val (.ref b1172)] [(.ref b1172), (.ref b1172)])) _
              refine st1220 _ ?_
              show Steps p.tables e below (T1220.setTop (mkF m 129 #[.val (.int p0), .val (.int p1), .val (.int p2), .val (.int p3), .val (.int p4), .val (.int p5), .val (.ref r961), .val .null, .val (.ref b1016), .val .null, .val (.ref b1085), .val (.int (1 : Int32)), .val (.ref b1172)] [(.int (1 : Int32))])) _
              refine XS.ifNo X1220.here hx rfl (hb hby at_129) rfl ((if0 _ _).trans (feq (by decide : ¬ ((1 : Int32) = (0 : Int32)))).1) ?_
              show Steps p.tables e below (T1220.setTop (mkF m 132 #[.val (.int p0), .val (.int p1), .val (.int p2), .val (.int p3), .val (.int p4), .val (.int p5), .val (.ref r961), .val .null, .val (.ref b1016), .val .null, .val (.ref b1085), .val (.int (1 : Int32)), .val (.ref b1172)] [])) _
              refine XS.iconst X1220.here hx rfl (hb hby at_132) ?_
              show Steps p.tables e below (T1220.setTop (mkF m 133 #[.val (.int p0), .val (.int p1), .val (.int p2), .val (.int p3), .val (.int p4), .val (.int p5), .val (.ref r961), .val .null, .val (.ref b1016), .val .null, .val (.ref b1085), .val (.int (1 : Int32)), .val (.ref b1172)] [(.int (1 : Int32))])) _
              refine XS.goto X1220.here hx rfl (pc0 := 133) (pc' := 137) rfl (hb hby at_133) (by decide) (by decide) ?_
              show Steps p.tables e below (T1220.setTop (mkF m 137 #[.val (.int p0), .val (.int p1), .val (.int p2), .val (.int p3), .val (.int p4), .val (.int p5), .val (.ref r961), .val .null, .val (.ref b1016), .val .null, .val (.ref b1085), .val (.int (1 : Int32)), .val (.ref b1172)] [(.int (1 : Int32))])) _
              refine XS.istore X1220.here hx rfl (hb hby at_137) rfl (l' := #[.val (.int p0), .val (.int p1), .val (.int p2), .val (.int p3), .val (.int p4), .val (.int p5), .val (.ref r961), .val .null, .val (.ref b1016), .val .null, .val (.ref b1085), .val (.int (1 : Int32)), .val (.ref b1172)]) rfl ?_
              show Steps p.tables e below (T1220.setTop (mkF m 139 #[.val (.int p0), .val (.int p1), .val (.int p2), .val (.int p3), .val (.int p4), .val (.int p5), .val (.ref r961), .val .null, .val (.ref b1016), .val .null, .val (.ref b1085), .val (.int (1 : Int32)), .val (.ref b1172)] [])) _
              refine XS.iload X1220.here hx rfl (hb hby at_139) rfl ?_
              show Steps p.tables e below (T1220.setTop (mkF m 141 #[.val (.int p0), .val (.int p1), .val (.int p2), .val (.int p3), .val (.int p4), .val (.int p5), .val (.ref r961), .val .null, .val (.ref b1016), .val .null, .val (.ref b1085), .val (.int (1 : Int32)), .val (.ref b1172)] [(.int (1 : Int32))])) _
              exact retN X1220 hx (t := .boolean) Bd.returns (by simp) (hb hby at_141) hr
            · show own_Q0 Z p0 p1 p2 p3 p4 p5 x0 x1 x2 x3 x4 x5 x6 x7 cs ed h0 n0 _ T1220.heap _
              rw [e1222]
              exact ⟨rfl, N1221⟩
      · obtain ⟨_, _, ⟨T1223, L1223, k1223, n1223⟩, -, Y1223, hSa1223, gle1223, ⟨Lc1223, hQ1223, l1223, y1223, z1223, A1223⟩, st1223⟩ := callSS X1042 hx (y := (⟨"com/example/thyme/thyme/lang/ScopeInstancePinLaw", "str", "(II)Ljava/lang/String;"⟩ : MethodName)) hown (mvT hZ (hw _ (List.mem_of_getElem? (i := 7) rfl))) (mvT hZ (hw _ (List.mem_of_getElem? (i := 8) rfl))) (mvT hZ (hw _ (List.mem_of_getElem? (i := 2) rfl))) (mvT hZ (hw _ (List.mem_of_getElem? (i := 9) rfl))) (by decide) (own_backSH (s := s) (vm0 := s.vm) (W := 0) (xs := []) (own_rmSS l Z av hw [] p3 p4 (cs) T1042.heap n0 z1059 f1054 (hc1062) (hcs)) hZ (hw _ (List.mem_of_getElem? (i := 9) rfl)) (hw _ (List.mem_of_getElem? (i := 2) rfl)) (by decide) (by decide) hEL CH1057.1 own_sl0) (g := (mkF m 40 #[.val (.int p0), .val (.int p1), .val (.int p2), .val (.int p3), .val (.int p4), .val (.int p5), .val (.ref r961), .val .null, .val (.ref b1016), .val .null, .unset, .unset, .unset] [(.int p4), (.int p3)])) rfl (by rw [hml]; rfl) (argsL := [(.int p3), (.int p4)]) (rest := []) (lenOf own_pd12 rfl) rfl (by show 2 * 0 + _ ≤ _; exact Nat.le_of_eq rfl) (hb hby at_40) (fun _ _ => ⟨rfl, rfl, (by decide : 10 + 6 ≤ _), (by decide : 65 + 12 ≤ _)⟩)
        dsimp only [Pt.U, Pt.locs, Pt.cells, Pt.slots] at Y1223 hSa1223 gle1223 l1223 y1223 z1223 st1223 hQ1223 A1223
        subst l1223 y1223 z1223
        obtain ⟨X1223, hS1223, hZ1223, hown1223⟩ := rebS (s := s) (vm0 := s.vm) hS0 (show _ ≤ T1042.heap.size from hk1060) Y1223 hSa1223 gle1223 hZ hown
        obtain ⟨b1224, rfl, N1223q, K1223, g_b1224, sz1223_b1224, f1226⟩ := hQ1223
        have ne_b1016_b1224 : b1016 ≠ b1224 := Nat.ne_of_lt (Nat.lt_of_lt_of_le f1044.lt sz1223_b1224)
        have sz_b1224 : h0.size ≤ b1224 := Nat.le_trans K1058.1 sz1223_b1224
        have f1227 := own_staKeep f1046 K1223 all0
        have f1228 := own_staKeep f1047 K1223 all0
        have f1229 := own_staKeep f1048 K1223 all0
        have f1230 := own_staKeep f1049 K1223 all0
        have f1231 := own_staKeep f1050 K1223 all0
        have f1232 := own_staKeep f1051 K1223 all0
        have f1233 := own_staKeep f1052 K1223 all0
        have f1234 := own_staKeep f1053 K1223 all0
        have f1235 := own_staKeep f1054 K1223 all0
        have f1236 := own_staKeep f1055 K1223 all0
        have f1237 := CHr.safe A1223 f1044.lt f1056
        have f1238 := f1044.keep K1223
        have f1239 := f1045.keep K1223 nin0
        have CH1240 := CHr.trans CH1057 A1223
        have K1241 : Keep h0 T1223.heap [] := K1058.trans K1223 all0
        have z1242 : n0 ≤ T1223.heap.size := Nat.le_trans z1059 K1223.1
        have N1225 := Fr.app N1043 N1223q
        obtain ⟨T1243, h1243, X1243, e1243, W1243, st1243⟩ := putF X1223 hx hZ1223 hown1223 (host := "") (Or.inl (hw _ (List.mem_of_getElem? (i := 164) rfl))) Via.refl rfl f1239 f1238 (Or.inl (hw _ (List.mem_of_getElem? (i := 165) rfl))) (hw _ (List.mem_of_getElem? (i := 83) rfl)) (ty := (.object "java/lang/String")) (by decide) rfl rfl (g := (mkF m 49 #[.val (.int p0), .val (.int p1), .val (.int p2), .val (.int p3), .val (.int p4), .val (.int p5), .val (.ref r961), .val .null, .val (.ref b1016), .val .null, .val (.ref b1224), .unset, .unset] [(.ref b1224), (.ref b1016)])) rfl rfl (hb hby at_49)
        have f1244 := f1227.wr W1243
        have f1245 := f1228.wr W1243
        have f1246 := f1229.wr W1243
        have f1247 := f1230.wr W1243
        have f1248 := f1231.wr W1243
        have f1249 := f1232.wr W1243
        have f1250 := f1233.wr W1243
        have f1251 := f1234.wr W1243
        have f1252 := f1235.wr W1243
        have f1253 := f1236.wr W1243
        have f1254 := Safe.wr W1243 f1237 CH1240.1 f1237
        have f1255 := f1238.wr W1243
        have f1256 := f1226.wr W1243
        have CH1257 := CHr.trans CH1240 (CHr.wr W1243 f1237 CH1240.1)
        have K1258 : Keep h0 h1243 [] := K1241.wr W1243 (Or.inr sz_b1016)
        have z1259 : n0 ≤ h1243.size := Nat.le_trans z1242 (Keep.of_wr W1243).1
        have hk1260 := Nat.le_trans (Nat.le_refl T1223.heap.size) (Keep.of_wr W1243).1
        have N1261 := Fr.snoc X1243 N1225 g_b1016
        have f1262 : Fld Z h1243 b1016 "com/example/thyme/thyme/lang/Symbols$Locals" "instance" "Ljava/lang/String;" (.ref b1224) := f1239.same W1243
        obtain ⟨T1263, h1263, X1263, e1263, E1263, A1263, D1263, -, st1263⟩ := newO X1243 hx hZ1223 hown1223 (hw _ (List.mem_of_getElem? (i := 40) rfl)) (hw _ (List.mem_of_getElem? (i := 41) rfl)) (hw _ (List.mem_of_getElem? (i := 42) rfl)) e1243 (g := (mkF m 56 #[.val (.int p0), .val (.int p1), .val (.int p2), .val (.int p3), .val (.int p4), .val (.int p5), .val (.ref r961), .val .null, .val (.ref b1016), .val (.ref b1224), .val (.ref b1224), .unset, .unset] [])) rfl (hb hby at_56) (by decide) (by decide)
        obtain ⟨b1263, g1263⟩ : ∃ z, z = h1243.size := ⟨_, rfl⟩
        have ne_b1016_b1263 : b1016 ≠ b1263 := Nat.ne_of_lt (Nat.lt_of_lt_of_le f1255.lt (Nat.le_of_eq g1263.symm))
        have ne_b1224_b1263 : b1224 ≠ b1263 := Nat.ne_of_lt (Nat.lt_of_lt_of_le f1256.lt (Nat.le_of_eq g1263.symm))
        have g_b1263 : n0 ≤ b1263 := Nat.le_trans z1259 (Nat.le_of_eq g1263.symm)
        have sz_b1263 : h0.size ≤ b1263 := Nat.le_trans K1258.1 (Nat.le_of_eq g1263.symm)
        have sf1264 : Safe Z own_EL (T1223.vm) h1243 b1263 := Safe.new (Nat.le_of_eq g1263.symm)
        rw [← g1263] at A1263 D1263 st1263
        have f1265 := f1244.ext E1263
        have f1266 := f1245.ext E1263
        have f1267 := f1246.ext E1263
        have f1268 := f1247.ext E1263
        have f1269 := f1248.ext E1263
        have f1270 := f1249.ext E1263
        have f1271 := f1250.ext E1263
        have f1272 := f1251.ext E1263
        have f1273 := f1252.ext E1263
        have f1274 := f1253.ext E1263
        have f1275 := Safe.ext E1263 CH1257.1 f1254
        have f1276 := f1255.ext E1263
        have f1277 := f1262.ext E1263
        have f1278 := f1256.ext E1263
        have f1279 := Safe.ext E1263 CH1257.1 sf1264
        have CH1280 := CHr.trans CH1257 (CHr.ext E1263 CH1257.1)
        have z1281 : n0 ≤ h1263.size := Nat.le_trans z1259 E1263.1
        have hk1282 := Nat.le_trans hk1260 E1263.1
        have K1283 : Keep h0 h1263 [] := K1258.ext E1263
        have f1284 : Fld Z h1263 b1263 "com/example/thyme/thyme/lang/ExpressionResolver$Scope" "context" "Lcom/example/thyme/thyme/lang/ExpressionResolver$Context;" .null := D1263 (Or.inr (hw _ (List.mem_of_getElem? (i := 53) rfl))) (ty := (.object "com/example/thyme/thyme/lang/ExpressionResolver$Context")) (by decide)
        have f1285 : Fld Z h1263 b1263 "com/example/thyme/thyme/lang/ExpressionResolver$Scope" "constant" "Ljava/lang/String;" .null := D1263 (Or.inr (hw _ (List.mem_of_getElem? (i := 55) rfl))) (ty := (.object "java/lang/String")) (by decide)
        have f1286 : Fld Z h1263 b1263 "com/example/thyme/thyme/lang/ExpressionResolver$Scope" "locals" "Lcom/example/thyme/thyme/lang/Symbols$Locals;" .null := D1263 (Or.inr (hw _ (List.mem_of_getElem? (i := 57) rfl))) (ty := (.object "com/example/thyme/thyme/lang/Symbols$Locals")) (by decide)
        obtain ⟨_, _, ⟨T1287, L1287, k1287, n1287⟩, -, X1287, ⟨Lc1287, hQ1287, l1287, y1287, z1287⟩, st1287⟩ := X1263.specialBack hx (y := (⟨"com/example/thyme/thyme/lang/ExpressionResolver$Scope", "<init>", "(Lcom/example/thyme/thyme/lang/ExpressionResolver$Context;Ljava/lang/String;Lcom/example/thyme/thyme/lang/Symbols$Locals;)V"⟩ : MethodName)) rfl hown1223 (mvT hZ1223 (hw _ (List.mem_of_getElem? (i := 43) rfl))) (mvT hZ1223 (hw _ (List.mem_of_getElem? (i := 44) rfl))) (mvT hZ1223 (hw _ (List.mem_of_getElem? (i := 45) rfl))) (by decide) (backOf (W := 1) (own_rmSc01 l Z av hw [] b1263 r961 b1016 h1263 n0 z1281 A1263 f1284 f1285 f1286 g_b1263) hZ1223 (hw _ (List.mem_of_getElem? (i := 45) rfl)) (hw _ (List.mem_of_getElem? (i := 42) rfl)) (by decide) (by decide)) (g := (mkF m 66 #[.val (.int p0), .val (.int p1), .val (.int p2), .val (.int p3), .val (.int p4), .val (.int p5), .val (.ref r961), .val .null, .val (.ref b1016), .val (.ref b1224), .val (.ref b1224), .unset, .unset] [(.ref b1016), .null, (.ref r961), (.ref b1263), (.ref b1263)])) rfl (by rw [hml]; rfl) (Steps.refl _) (a := b1263) (argsL := [(.ref r961), .null, (.ref b1016)]) (rest := [(.ref b1263)]) (lenOf own_pd13 rfl) rfl (by show 2 * 0 + _ ≤ _; exact Nat.le_of_eq rfl) (hb hby at_66) (fun _ _ => ⟨rfl, e1263, (by decide : 17 + 0 ≤ _), (by decide : 80 + 0 ≤ _)⟩)
        dsimp only [Pt.U, Pt.locs, Pt.cells, Pt.slots] at X1287 l1287 y1287 z1287 st1287 hQ1287
        subst l1287 y1287 z1287
        obtain ⟨rfl, N1287q, K1287, f1289, f1290⟩ := hQ1287
        have f1291 := own_staKeep f1265 K1287 (allS (own_nsE A1263) all0)
        have f1292 := own_staKeep f1266 K1287 (allS (own_nsE A1263) all0)
        have f1293 := own_staKeep f1267 K1287 (allS (own_nsE A1263) all0)
        have f1294 := own_staKeep f1268 K1287 (allS (own_nsE A1263) all0)
        have f1295 := own_staKeep f1269 K1287 (allS (own_nsE A1263) all0)
        have f1296 := own_staKeep f1270 K1287 (allS (own_nsE A1263) all0)
        have f1297 := own_staKeep f1271 K1287 (allS (own_nsE A1263) all0)
        have f1298 := own_staKeep f1272 K1287 (allS (own_nsE A1263) all0)
        have f1299 := own_staKeep f1273 K1287 (allS (own_nsE A1263) all0)
        have f1300 := own_staKeep f1274 K1287 (allS (own_nsE A1263) all0)
        have f1301 := Safe.keep K1287 (sfS f1279 sf0) CH1280.1 f1275
        have f1302 := f1276.keep K1287
        have f1303 := f1277.keep K1287 (ninS ne_b1016_b1263 nin0)
        have f1304 := f1278.keep K1287
        have f1305 := Safe.keep K1287 (sfS f1279 sf0) CH1280.1 f1279
        have CH1306 := CHr.trans CH1280 (CHr.keep K1287 (sfS f1279 sf0) CH1280.1)
        have K1307 : Keep h0 T1287.heap [] := K1283.trans K1287 (allS (Or.inr sz_b1263) all0)
        have z1308 : n0 ≤ T1287.heap.size := Nat.le_trans z1281 K1287.1
        have hk1309 := Nat.le_trans hk1282 K1287.1
        have N1288 := Fr.app N1261 N1287q
        obtain ⟨cq1310, kq1310, q1310a, q1310b, q1310c⟩ := isOf hZ1223 rfl f1289
        obtain ⟨_, _, ⟨T1310, L1310, k1310, n1310⟩, -, X1310, ⟨Lc1310, hQ1310, l1310, y1310, z1310⟩, st1310⟩ := X1287.virtualBack hx (y := (⟨"com/example/thyme/thyme/lang/ExpressionResolver$Scope", "instance", "()Ljava/lang/String;"⟩ : MethodName)) (z := (⟨"com/example/thyme/thyme/lang/ExpressionResolver$Scope", "instance", "()Ljava/lang/String;"⟩ : MethodName)) hown1223 (mvT hZ1223 (hw _ (List.mem_of_getElem? (i := 58) rfl))) (mvT hZ1223 (hw _ (List.mem_of_getElem? (i := 59) rfl))) (notFace_of_selects (args := #[]) (mvT hZ1223 (hw _ (List.mem_of_getElem? (i := 61) rfl)))) (mvT hZ1223 (hw _ (List.mem_of_getElem? (i := 61) rfl))) (mvT hZ1223 (hw _ (List.mem_of_getElem? (i := 60) rfl))) (by decide) (backOf (W := 0) (own_rmSi2 l Z av hw [] b1263 (b1016) (b1224) T1287.heap n0 z1308 f1290 f1303) hZ1223 (hw _ (List.mem_of_getElem? (i := 62) rfl)) (hw _ (List.mem_of_getElem? (i := 42) rfl)) (by decide) (by decide)) q1310a q1310c (g := (mkF m 73 #[.val (.int p0), .val (.int p1), .val (.int p2), .val (.int p3), .val (.int p4), .val (.int p5), .val (.ref r961), .val .null, .val (.ref b1016), .val (.ref b1224), .val (.ref b1263), .unset, .unset] [(.ref b1263)])) rfl (by rw [hml]; rfl) (Steps.refl _) (argsL := []) (rest := []) (lenOf own_pd14 rfl) rfl (by show 2 * 0 + _ ≤ _; exact Nat.le_of_eq rfl) (hb hby at_73) (fun _ _ => ⟨rfl, rfl, (by decide : 17 + 0 ≤ _), (by decide : 80 + 0 ≤ _)⟩)
        dsimp only [Pt.U, Pt.locs, Pt.cells, Pt.slots] at X1310 l1310 y1310 z1310 st1310 hQ1310
        subst l1310 y1310 z1310
        obtain ⟨rfl, N1310q, e1312⟩ := hQ1310
        have N1311 := Fr.app N1288 N1310q
        obtain ⟨_, _, ⟨T1313, L1313, k1313, n1313⟩, -, X1313, ⟨Lc1313, hQ1313, l1313, y1313, z1313⟩, st1313⟩ := Jvm.LawKit.callS X1310 hx (y := (⟨"com/example/thyme/thyme/lang/ScopeInstancePinLaw", "same", "(Ljava/lang/String;Ljava/lang/String;)Z"⟩ : MethodName)) hown1223 (mvT hZ1223 (hw _ (List.mem_of_getElem? (i := 63) rfl))) (mvT hZ1223 (hw _ (List.mem_of_getElem? (i := 64) rfl))) (mvT hZ1223 (hw _ (List.mem_of_getElem? (i := 2) rfl))) (mvT hZ1223 (hw _ (List.mem_of_getElem? (i := 65) rfl))) (by decide) (backOf (W := 0) (own_rmPS l Z av hw [] b1224 b1224 T1287.heap n0 z1308 f1304 (rfl)) hZ1223 (hw _ (List.mem_of_getElem? (i := 65) rfl)) (hw _ (List.mem_of_getElem? (i := 2) rfl)) (by decide) (by decide)) (g := (mkF m 78 #[.val (.int p0), .val (.int p1), .val (.int p2), .val (.int p3), .val (.int p4), .val (.int p5), .val (.ref r961), .val .null, .val (.ref b1016), .val (.ref b1224), .val (.ref b1263), .unset, .unset] [(.ref b1224), (.ref b1224)])) rfl (by rw [hml]; rfl) (argsL := [(.ref b1224), (.ref b1224)]) (rest := []) (lenOf own_pd15 rfl) rfl (by show 2 * 0 + _ ≤ _; exact Nat.le_of_eq rfl) (hb hby at_78) (fun _ _ => ⟨rfl, e1312, (by decide : 17 + 0 ≤ _), (by decide : 80 + 0 ≤ _)⟩)
        dsimp only [Pt.U, Pt.locs, Pt.cells, Pt.slots] at X1313 l1313 y1313 z1313 st1313 hQ1313
        subst l1313 y1313 z1313
        obtain ⟨rfl, N1313q, e1315⟩ := hQ1313
        have N1314 := Fr.app N1311 N1313q
        have pre1316 : ∀ t, Steps p.tables e below (T1313.setTop (mkF m 92 #[.val (.int p0), .val (.int p1), .val (.int p2), .val (.int p3), .val (.int p4), .val (.int p5), .val (.ref r961), .val .null, .val (.ref b1016), .val (.ref b1224), .val (.ref b1263), .val (.int (1 : Int32)), .unset] [(.int (p5 &&& (4 : Int32)))])) t → Steps p.tables e below (s₁.setTop (entryFrame m #[(.int p0), (.int p1), (.int p2), (.int p3), (.int p4), (.int p5)] maxLocals)) t := fun t kk => pre1061 t (by
          show Steps p.tables e below (T1042.setTop (mkF m 40 #[.val (.int p0), .val (.int p1), .val (.int p2), .val (.int p3), .val (.int p4), .val (.int p5), .val (.ref r961), .val .null, .val (.ref b1016), .val .null, .unset, .unset, .unset] [(.int p4), (.int p3)])) _
          refine st1223.trans ?_
          show Steps p.tables e below (T1223.setTop (mkF m 43 #[.val (.int p0), .val (.int p1), .val (.int p2), .val (.int p3), .val (.int p4), .val (.int p5), .val (.ref r961), .val .null, .val (.ref b1016), .val .null, .unset, .unset, .unset] [(.ref b1224)])) _
          refine XS.astore X1223.here hx rfl (hb hby at_43) rfl rfl (l' := #[.val (.int p0), .val (.int p1), .val (.int p2), .val (.int p3), .val (.int p4), .val (.int p5), .val (.ref r961), .val .null, .val (.ref b1016), .val .null, .val (.ref b1224), .unset, .unset]) rfl ?_
          show Steps p.tables e below (T1223.setTop (mkF m 45 #[.val (.int p0), .val (.int p1), .val (.int p2), .val (.int p3), .val (.int p4), .val (.int p5), .val (.ref r961), .val .null, .val (.ref b1016), .val .null, .val (.ref b1224), .unset, .unset] [])) _
          refine XS.aload X1223.here hx rfl (hb hby at_45) rfl rfl ?_
          show Steps p.tables e below (T1223.setTop (mkF m 47 #[.val (.int p0), .val (.int p1), .val (.int p2), .val (.int p3), .val (.int p4), .val (.int p5), .val (.ref r961), .val .null, .val (.ref b1016), .val .null, .val (.ref b1224), .unset, .unset] [(.ref b1016)])) _
          refine XS.aload X1223.here hx rfl (hb hby at_47) rfl rfl ?_
          show Steps p.tables e below (T1223.setTop (mkF m 49 #[.val (.int p0), .val (.int p1), .val (.int p2), .val (.int p3), .val (.int p4), .val (.int p5), .val (.ref r961), .val .null, .val (.ref b1016), .val .null, .val (.ref b1224), .unset, .unset] [(.ref b1224), (.ref b1016)])) _
          refine st1243 _ ?_
          show Steps p.tables e below (T1243.setTop (mkF m 52 #[.val (.int p0), .val (.int p1), .val (.int p2), .val (.int p3), .val (.int p4), .val (.int p5), .val (.ref r961), .val .null, .val (.ref b1016), .val .null, .val (.ref b1224), .unset, .unset] [])) _
          refine XS.aload X1243.here hx rfl (hb hby at_52) rfl rfl ?_
          show Steps p.tables e below (T1243.setTop (mkF m 54 #[.val (.int p0), .val (.int p1), .val (.int p2), .val (.int p3), .val (.int p4), .val (.int p5), .val (.ref r961), .val .null, .val (.ref b1016), .val .null, .val (.ref b1224), .unset, .unset] [(.ref b1224)])) _
          refine XS.astore X1243.here hx rfl (hb hby at_54) rfl rfl (l' := #[.val (.int p0), .val (.int p1), .val (.int p2), .val (.int p3), .val (.int p4), .val (.int p5), .val (.ref r961), .val .null, .val (.ref b1016), .val (.ref b1224), .val (.ref b1224), .unset, .unset]) rfl ?_
          show Steps p.tables e below (T1243.setTop (mkF m 56 #[.val (.int p0), .val (.int p1), .val (.int p2), .val (.int p3), .val (.int p4), .val (.int p5), .val (.ref r961), .val .null, .val (.ref b1016), .val (.ref b1224), .val (.ref b1224), .unset, .unset] [])) _
          refine st1263 _ ?_
          show Steps p.tables e below (T1263.setTop (mkF m 59 #[.val (.int p0), .val (.int p1), .val (.int p2), .val (.int p3), .val (.int p4), .val (.int p5), .val (.ref r961), .val .null, .val (.ref b1016), .val (.ref b1224), .val (.ref b1224), .unset, .unset] [(.ref b1263)])) _
          refine XS.dup X1263.here hx rfl (hb hby at_59) rfl rfl ?_
          show Steps p.tables e below (T1263.setTop (mkF m 60 #[.val (.int p0), .val (.int p1), .val (.int p2), .val (.int p3), .val (.int p4), .val (.int p5), .val (.ref r961), .val .null, .val (.ref b1016), .val (.ref b1224), .val (.ref b1224), .unset, .unset] [(.ref b1263), (.ref b1263)])) _
          refine XS.aload X1263.here hx rfl (hb hby at_60) rfl rfl ?_
          show Steps p.tables e below (T1263.setTop (mkF m 62 #[.val (.int p0), .val (.int p1), .val (.int p2), .val (.int p3), .val (.int p4), .val (.int p5), .val (.ref r961), .val .null, .val (.ref b1016), .val (.ref b1224), .val (.ref b1224), .unset, .unset] [(.ref r961), (.ref b1263), (.ref b1263)])) _
          refine XS.aload X1263.here hx rfl (hb hby at_62) rfl rfl ?_
          show Steps p.tables e below (T1263.setTop (mkF m 64 #[.val (.int p0), .val (.int p1), .val (.int p2), .val (.int p3), .val (.int p4), .val (.int p5), .val (.ref r961), .val .null, .val (.ref b1016), .val (.ref b1224), .val (.ref b1224), .unset, .unset] [.null, (.ref r961), (.ref b1263), (.ref b1263)])) _
          refine XS.aload X1263.here hx rfl (hb hby at_64) rfl rfl ?_
          show Steps p.tables e below (T1263.setTop (mkF m 66 #[.val (.int p0), .val (.int p1), .val (.int p2), .val (.int p3), .val (.int p4), .val (.int p5), .val (.ref r961), .val .null, .val (.ref b1016), .val (.ref b1224), .val (.ref b1224), .unset, .unset] [(.ref b1016), .null, (.ref r961), (.ref b1263), (.ref b1263)])) _
          refine st1287.trans ?_
          show Steps p.tables e below (T1287.setTop (mkF m 69 #[.val (.int p0), .val (.int p1), .val (.int p2), .val (.int p3), .val (.int p4), .val (.int p5), .val (.ref r961), .val .null, .val (.ref b1016), .val (.ref b1224), .val (.ref b1224), .unset, .unset] [(.ref b1263)])) _
          refine XS.astore X1287.here hx rfl (hb hby at_69) rfl rfl (l' := #[.val (.int p0), .val (.int p1), .val (.int p2), .val (.int p3), .val (.int p4), .val (.int p5), .val (.ref r961), .val .null, .val (.ref b1016), .val (.ref b1224), .val (.ref b1263), .unset, .unset]) rfl ?_
          show Steps p.tables e below (T1287.setTop (mkF m 71 #[.val (.int p0), .val (.int p1), .val (.int p2), .val (.int p3), .val (.int p4), .val (.int p5), .val (.ref r961), .val .null, .val (.ref b1016), .val (.ref b1224), .val (.ref b1263), .unset, .unset] [])) _
          refine XS.aload X1287.here hx rfl (hb hby at_71) rfl rfl ?_
          show Steps p.tables e below (T1287.setTop (mkF m 73 #[.val (.int p0), .val (.int p1), .val (.int p2), .val (.int p3), .val (.int p4), .val (.int p5), .val (.ref r961), .val .null, .val (.ref b1016), .val (.ref b1224), .val (.ref b1263), .unset, .unset] [(.ref b1263)])) _
          refine st1310.trans ?_
          show Steps p.tables e below (T1310.setTop (mkF m 76 #[.val (.int p0), .val (.int p1), .val (.int p2), .val (.int p3), .val (.int p4), .val (.int p5), .val (.ref r961), .val .null, .val (.ref b1016), .val (.ref b1224), .val (.ref b1263), .unset, .unset] [(.ref b1224)])) _
          refine XS.aload X1310.here hx rfl (hb hby at_76) rfl rfl ?_
          show Steps p.tables e below (T1310.setTop (mkF m 78 #[.val (.int p0), .val (.int p1), .val (.int p2), .val (.int p3), .val (.int p4), .val (.int p5), .val (.ref r961), .val .null, .val (.ref b1016), .val (.ref b1224), .val (.ref b1263), .unset, .unset] [(.ref b1224), (.ref b1224)])) _
          refine st1313 _ ?_
          show Steps p.tables e below (T1313.setTop (mkF m 81 #[.val (.int p0), .val (.int p1), .val (.int p2), .val (.int p3), .val (.int p4), .val (.int p5), .val (.ref r961), .val .null, .val (.ref b1016), .val (.ref b1224), .val (.ref b1263), .unset, .unset] [(.int (1 : Int32))])) _
          refine XS.istore X1313.here hx rfl (hb hby at_81) rfl (l' := #[.val (.int p0), .val (.int p1), .val (.int p2), .val (.int p3), .val (.int p4), .val (.int p5), .val (.ref r961), .val .null, .val (.ref b1016), .val (.ref b1224), .val (.ref b1263), .val (.int (1 : Int32)), .unset]) rfl ?_
          show Steps p.tables e below (T1313.setTop (mkF m 83 #[.val (.int p0), .val (.int p1), .val (.int p2), .val (.int p3), .val (.int p4), .val (.int p5), .val (.ref r961), .val .null, .val (.ref b1016), .val (.ref b1224), .val (.ref b1263), .val (.int (1 : Int32)), .unset] [])) _
          refine XS.aload X1313.here hx rfl (hb hby at_83) rfl rfl ?_
          show Steps p.tables e below (T1313.setTop (mkF m 85 #[.val (.int p0), .val (.int p1), .val (.int p2), .val (.int p3), .val (.int p4), .val (.int p5), .val (.ref r961), .val .null, .val (.ref b1016), .val (.ref b1224), .val (.ref b1263), .val (.int (1 : Int32)), .unset] [(.ref b1016)])) _
          refine XS.ifnullNo X1313.here hx rfl (hb hby at_85) rfl ?_
          show Steps p.tables e below (T1313.setTop (mkF m 88 #[.val (.int p0), .val (.int p1), .val (.int p2), .val (.int p3), .val (.int p4), .val (.int p5), .val (.ref r961), .val .null, .val (.ref b1016), .val (.ref b1224), .val (.ref b1263), .val (.int (1 : Int32)), .unset] [])) _
          refine XS.iload X1313.here hx rfl (hb hby at_88) rfl ?_
          show Steps p.tables e below (T1313.setTop (mkF m 90 #[.val (.int p0), .val (.int p1), .val (.int p2), .val (.int p3), .val (.int p4), .val (.int p5), .val (.ref r961), .val .null, .val (.ref b1016), .val (.ref b1224), .val (.ref b1263), .val (.int (1 : Int32)), .unset] [(.int p5)])) _
          refine XS.iconst X1313.here hx rfl (hb hby at_90) ?_
          show Steps p.tables e below (T1313.setTop (mkF m 91 #[.val (.int p0), .val (.int p1), .val (.int p2), .val (.int p3), .val (.int p4), .val (.int p5), .val (.ref r961), .val .null, .val (.ref b1016), .val (.ref b1224), .val (.ref b1263), .val (.int (1 : Int32)), .unset] [(.int (4 : Int32)), (.int p5)])) _
          refine XS.iand X1313.here hx rfl (hb hby at_91) rfl ?_
          show Steps p.tables e below (T1313.setTop (mkF m 92 #[.val (.int p0), .val (.int p1), .val (.int p2), .val (.int p3), .val (.int p4), .val (.int p5), .val (.ref r961), .val .null, .val (.ref b1016), .val (.ref b1224), .val (.ref b1263), .val (.int (1 : Int32)), .unset] [(.int (p5 &&& (4 : Int32)))])) _
          exact kk)
        by_cases hc1317 : (p5 &&& (4 : Int32)) = (0 : Int32)
        · obtain ⟨fs, hr, hrun, hended, hR1, hR2, hR3, hR4⟩ := Stand.leaveW (s := s) (vm₁ := T1223.vm) X1313 hS1223 (by rw [e1315]; exact hk1309) (v := some (.int (1 : Int32))) (fun h => by rw [Bd.returns] at h; cases h)
          refine ⟨_, _, pre1316 _ ?_, hrun, hended, _, _, rfl, ?_, (by show CHr Z own_EL s.vm s.heap T1313.vm T1313.heap; rw [hh, e1315]; exact CHr.trans CH1306 (CHv.at (s := s) (vm0 := T1223.vm) X1313 hZ1223 hEL CH1306.1)), hR1, hR2, hR3, hR4.mono (by decide) (by decide)⟩
          · show Steps p.tables e below (T1313.setTop (mkF m 92 #[.val (.int p0), .val (.int p1), .val (.int p2), .val (.int p3), .val (.int p4), .val (.int p5), .val (.ref r961), .val .null, .val (.ref b1016), .val (.ref b1224), .val (.ref b1263), .val (.int (1 : Int32)), .unset] [(.int (p5 &&& (4 : Int32)))])) _
            refine XS.ifYes X1313.here hx rfl (pc0 := 92) (pc' := 139) rfl (hb hby at_92) rfl ((if0 _ _).trans (teq hc1317).1) (by decide) (by decide) ?_
            show Steps p.tables e below (T1313.setTop (mkF m 139 #[.val (.int p0), .val (.int p1), .val (.int p2), .val (.int p3), .val (.int p4), .val (.int p5), .val (.ref r961), .val .null, .val (.ref b1016), .val (.ref b1224), .val (.ref b1263), .val (.int (1 : Int32)), .unset] [])) _
            refine XS.iload X1313.here hx rfl (hb hby at_139) rfl ?_
            show Steps p.tables e below (T1313.setTop (mkF m 141 #[.val (.int p0), .val (.int p1), .val (.int p2), .val (.int p3), .val (.int p4), .val (.int p5), .val (.ref r961), .val .null, .val (.ref b1016), .val (.ref b1224), .val (.ref b1263), .val (.int (1 : Int32)), .unset] [(.int (1 : Int32))])) _
            exact retN X1313 hx (t := .boolean) Bd.returns (by simp) (hb hby at_141) hr
          · show own_Q0 Z p0 p1 p2 p3 p4 p5 x0 x1 x2 x3 x4 x5 x6 x7 cs ed h0 n0 _ T1313.heap _
            rw [e1315]
            exact ⟨rfl, N1314⟩
        · have pre1318 : ∀ t, Steps p.tables e below (T1313.setTop (mkF m 102 #[.val (.int p0), .val (.int p1), .val (.int p2), .val (.int p3), .val (.int p4), .val (.int p5), .val (.ref r961), .val .null, .val (.ref b1016), .val (.ref b1224), .val (.ref b1263), .val (.int (1 : Int32)), .unset] [(.int ((p4.toUInt32 >>> ((16 : Int32) &&& 31).toUInt32).toInt32)), (.int p5)])) t → Steps p.tables e below (s₁.setTop (entryFrame m #[(.int p0), (.int p1), (.int p2), (.int p3), (.int p4), (.int p5)] maxLocals)) t := fun t kk => pre1316 t (by
            show Steps p.tables e below (T1313.setTop (mkF m 92 #[.val (.int p0), .val (.int p1), .val (.int p2), .val (.int p3), .val (.int p4), .val (.int p5), .val (.ref r961), .val .null, .val (.ref b1016), .val (.ref b1224), .val (.ref b1263), .val (.int (1 : Int32)), .unset] [(.int (p5 &&& (4 : Int32)))])) _
            refine XS.ifNo X1313.here hx rfl (hb hby at_92) rfl ((if0 _ _).trans (feq hc1317).1) ?_
            show Steps p.tables e below (T1313.setTop (mkF m 95 #[.val (.int p0), .val (.int p1), .val (.int p2), .val (.int p3), .val (.int p4), .val (.int p5), .val (.ref r961), .val .null, .val (.ref b1016), .val (.ref b1224), .val (.ref b1263), .val (.int (1 : Int32)), .unset] [])) _
            refine XS.iload X1313.here hx rfl (hb hby at_95) rfl ?_
            show Steps p.tables e below (T1313.setTop (mkF m 97 #[.val (.int p0), .val (.int p1), .val (.int p2), .val (.int p3), .val (.int p4), .val (.int p5), .val (.ref r961), .val .null, .val (.ref b1016), .val (.ref b1224), .val (.ref b1263), .val (.int (1 : Int32)), .unset] [(.int p5)])) _
            refine XS.iload X1313.here hx rfl (hb hby at_97) rfl ?_
            show Steps p.tables e below (T1313.setTop (mkF m 99 #[.val (.int p0), .val (.int p1), .val (.int p2), .val (.int p3), .val (.int p4), .val (.int p5), .val (.ref r961), .val .null, .val (.ref b1016), .val (.ref b1224), .val (.ref b1263), .val (.int (1 : Int32)), .unset] [(.int p4), (.int p5)])) _
            refine XS.bipush X1313.here hx rfl (hb hby at_99) ?_
            show Steps p.tables e below (T1313.setTop (mkF m 101 #[.val (.int p0), .val (.int p1), .val (.int p2), .val (.int p3), .val (.int p4), .val (.int p5), .val (.ref r961), .val .null, .val (.ref b1016), .val (.ref b1224), .val (.ref b1263), .val (.int (1 : Int32)), .unset] [(.int (16 : Int32)), (.int p4), (.int p5)])) _
            refine XS.iushr X1313.here hx rfl (hb hby at_101) rfl ?_
            exact kk)
          by_cases hc1319 : (p5 &&& (3 : Int32)) = (0 : Int32)
          · obtain ⟨_, _, ⟨T1320, L1320, k1320, n1320⟩, -, X1320, ⟨Lc1320, hQ1320, l1320, y1320, z1320⟩, st1320⟩ := Jvm.LawKit.callS X1313 hx (y := (⟨"com/example/thyme/thyme/lang/ScopeInstancePinLaw", "str", "(II)Ljava/lang/String;"⟩ : MethodName)) hown1223 (mvT hZ1223 (hw _ (List.mem_of_getElem? (i := 7) rfl))) (mvT hZ1223 (hw _ (List.mem_of_getElem? (i := 8) rfl))) (mvT hZ1223 (hw _ (List.mem_of_getElem? (i := 2) rfl))) (mvT hZ1223 (hw _ (List.mem_of_getElem? (i := 9) rfl))) (by decide) (backOf (W := 0) (own_rmSN l Z av hw [] p5 ((p4.toUInt32 >>> ((16 : Int32) &&& 31).toUInt32).toInt32) T1287.heap n0 z1308 (hc1319)) hZ1223 (hw _ (List.mem_of_getElem? (i := 9) rfl)) (hw _ (List.mem_of_getElem? (i := 2) rfl)) (by decide) (by decide)) (g := (mkF m 102 #[.val (.int p0), .val (.int p1), .val (.int p2), .val (.int p3), .val (.int p4), .val (.int p5), .val (.ref r961), .val .null, .val (.ref b1016), .val (.ref b1224), .val (.ref b1263), .val (.int (1 : Int32)), .unset] [(.int ((p4.toUInt32 >>> ((16 : Int32) &&& 31).toUInt32).toInt32)), (.int p5)])) rfl (by rw [hml]; rfl) (argsL := [(.int p5), (.int ((p4.toUInt32 >>> ((16 : Int32) &&& 31).toUInt32).toInt32))]) (rest := []) (lenOf own_pd12 rfl) rfl (by show 2 * 0 + _ ≤ _; exact Nat.le_of_eq rfl) (hb hby at_102) (fun _ _ => ⟨rfl, e1315, (by decide : 17 + 0 ≤ _), (by decide : 80 + 0 ≤ _)⟩)
            dsimp only [Pt.U, Pt.locs, Pt.cells, Pt.slots] at X1320 l1320 y1320 z1320 st1320 hQ1320
            subst l1320 y1320 z1320
            obtain ⟨rfl, N1320q, e1322⟩ := hQ1320
            have N1321 := Fr.app N1314 N1320q
            obtain ⟨T1323, h1323, X1323, e1323, W1323, st1323⟩ := putF X1320 hx hZ1223 hown1223 (host := "") (Or.inl (hw _ (List.mem_of_getElem? (i := 164) rfl))) Via.refl e1322 f1303 f1302 (Or.inl (hw _ (List.mem_of_getElem? (i := 165) rfl))) (hw _ (List.mem_of_getElem? (i := 83) rfl)) (ty := (.object "java/lang/String")) (by decide) rfl rfl (g := (mkF m 111 #[.val (.int p0), .val (.int p1), .val (.int p2), .val (.int p3), .val (.int p4), .val (.int p5), .val (.ref r961), .val .null, .val (.ref b1016), .val (.ref b1224), .val (.ref b1263), .val (.int (1 : Int32)), .val .null] [.null, (.ref b1016)])) rfl rfl (hb hby at_111)
            have f1324 := f1291.wr W1323
            have f1325 := f1292.wr W1323
            have f1326 := f1293.wr W1323
            have f1327 := f1294.wr W1323
            have f1328 := f1295.wr W1323
            have f1329 := f1296.wr W1323
            have f1330 := f1297.wr W1323
            have f1331 := f1298.wr W1323
            have f1332 := f1299.wr W1323
            have f1333 := f1300.wr W1323
            have f1334 := Safe.wr W1323 f1301 CH1306.1 f1301
            have f1335 := f1302.wr W1323
            have f1336 := f1304.wr W1323
            have f1337 := Safe.wr W1323 f1301 CH1306.1 f1305
            have f1338 := f1289.wr W1323
            have f1339 := f1290.other W1323 (Or.inl (Ne.symm ne_b1016_b1263))
            have CH1340 := CHr.trans CH1306 (CHr.wr W1323 f1301 CH1306.1)
            have K1341 : Keep h0 h1323 [] := K1307.wr W1323 (Or.inr sz_b1016)
            have z1342 : n0 ≤ h1323.size := Nat.le_trans z1308 (Keep.of_wr W1323).1
            have hk1343 := Nat.le_trans hk1309 (Keep.of_wr W1323).1
            have N1344 := Fr.snoc X1323 N1321 g_b1016
            have f1345 : Fld Z h1323 b1016 "com/example/thyme/thyme/lang/Symbols$Locals" "instance" "Ljava/lang/String;" .null := f1303.same W1323
            obtain ⟨cq1346, kq1346, q1346a, q1346b, q1346c⟩ := isOf hZ1223 e1323 f1338
            obtain ⟨_, _, ⟨T1346, L1346, k1346, n1346⟩, -, X1346, ⟨Lc1346, hQ1346, l1346, y1346, z1346⟩, st1346⟩ := X1323.virtualBack hx (y := (⟨"com/example/thyme/thyme/lang/ExpressionResolver$Scope", "instance", "()Ljava/lang/String;"⟩ : MethodName)) (z := (⟨"com/example/thyme/thyme/lang/ExpressionResolver$Scope", "instance", "()Ljava/lang/String;"⟩ : MethodName)) hown1223 (mvT hZ1223 (hw _ (List.mem_of_getElem? (i := 58) rfl))) (mvT hZ1223 (hw _ (List.mem_of_getElem? (i := 59) rfl))) (notFace_of_selects (args := #[]) (mvT hZ1223 (hw _ (List.mem_of_getElem? (i := 61) rfl)))) (mvT hZ1223 (hw _ (List.mem_of_getElem? (i := 61) rfl))) (mvT hZ1223 (hw _ (List.mem_of_getElem? (i := 60) rfl))) (by decide) (backOf (W := 0) (own_rmSi1 l Z av hw [] b1263 (b1016) h1323 n0 z1342 f1339 f1345) hZ1223 (hw _ (List.mem_of_getElem? (i := 62) rfl)) (hw _ (List.mem_of_getElem? (i := 42) rfl)) (by decide) (by decide)) q1346a q1346c (g := (mkF m 121 #[.val (.int p0), .val (.int p1), .val (.int p2), .val (.int p3), .val (.int p4), .val (.int p5), .val (.ref r961), .val .null, .val (.ref b1016), .val (.ref b1224), .val (.ref b1263), .val (.int (1 : Int32)), .val .null] [(.ref b1263)])) rfl (by rw [hml]; rfl) (Steps.refl _) (argsL := []) (rest := []) (lenOf own_pd14 rfl) rfl (by show 2 * 0 + _ ≤ _; exact Nat.le_of_eq rfl) (hb hby at_121) (fun _ _ => ⟨rfl, e1323, (by decide : 17 + 0 ≤ _), (by decide : 80 + 0 ≤ _)⟩)
            dsimp only [Pt.U, Pt.locs, Pt.cells, Pt.slots] at X1346 l1346 y1346 z1346 st1346 hQ1346
            subst l1346 y1346 z1346
            obtain ⟨rfl, N1346q, e1348⟩ := hQ1346
            have N1347 := Fr.app N1344 N1346q
            obtain ⟨_, _, ⟨T1349, L1349, k1349, n1349⟩, -, X1349, ⟨Lc1349, hQ1349, l1349, y1349, z1349⟩, st1349⟩ := Jvm.LawKit.callS X1346 hx (y := (⟨"com/example/thyme/thyme/lang/ScopeInstancePinLaw", "same", "(Ljava/lang/String;Ljava/lang/String;)Z"⟩ : MethodName)) hown1223 (mvT hZ1223 (hw _ (List.mem_of_getElem? (i := 63) rfl))) (mvT hZ1223 (hw _ (List.mem_of_getElem? (i := 64) rfl))) (mvT hZ1223 (hw _ (List.mem_of_getElem? (i := 2) rfl))) (mvT hZ1223 (hw _ (List.mem_of_getElem? (i := 65) rfl))) (by decide) (backOf (W := 0) (own_rmPN l Z av hw []  h1323 n0 z1342 ) hZ1223 (hw _ (List.mem_of_getElem? (i := 65) rfl)) (hw _ (List.mem_of_getElem? (i := 2) rfl)) (by decide) (by decide)) (g := (mkF m 126 #[.val (.int p0), .val (.int p1), .val (.int p2), .val (.int p3), .val (.int p4), .val (.int p5), .val (.ref r961), .val .null, .val (.ref b1016), .val (.ref b1224), .val (.ref b1263), .val (.int (1 : Int32)), .val .null] [.null, .null])) rfl (by rw [hml]; rfl) (argsL := [.null, .null]) (rest := []) (lenOf own_pd15 rfl) rfl (by show 2 * 0 + _ ≤ _; exact Nat.le_of_eq rfl) (hb hby at_126) (fun _ _ => ⟨rfl, e1348, (by decide : 17 + 0 ≤ _), (by decide : 80 + 0 ≤ _)⟩)
            dsimp only [Pt.U, Pt.locs, Pt.cells, Pt.slots] at X1349 l1349 y1349 z1349 st1349 hQ1349
            subst l1349 y1349 z1349
            obtain ⟨rfl, N1349q, e1351⟩ := hQ1349
            have N1350 := Fr.app N1347 N1349q
            obtain ⟨fs, hr, hrun, hended, hR1, hR2, hR3, hR4⟩ := Stand.leaveW (s := s) (vm₁ := T1223.vm) X1349 hS1223 (by rw [e1351]; exact hk1343) (v := some (.int (1 : Int32))) (fun h => by rw [Bd.returns] at h; cases h)
            refine ⟨_, _, pre1318 _ ?_, hrun, hended, _, _, rfl, ?_, (by show CHr Z own_EL s.vm s.heap T1349.vm T1349.heap; rw [hh, e1351]; exact CHr.trans CH1340 (CHv.at (s := s) (vm0 := T1223.vm) X1349 hZ1223 hEL CH1340.1)), hR1, hR2, hR3, hR4.mono (by decide) (by decide)⟩
            · show Steps p.tables e below (T1313.setTop (mkF m 102 #[.val (.int p0), .val (.int p1), .val (.int p2), .val (.int p3), .val (.int p4), .val (.int p5), .val (.ref r961), .val .null, .val (.ref b1016), .val (.ref b1224), .val (.ref b1263), .val (.int (1 : Int32)), .unset] [(.int ((p4.toUInt32 >>> ((16 : Int32) &&& 31).toUInt32).toInt32)), (.int p5)])) _
              refine st1320 _ ?_
              show Steps p.tables e below (T1320.setTop (mkF m 105 #[.val (.int p0), .val (.int p1), .val (.int p2), .val (.int p3), .val (.int p4), .val (.int p5), .val (.ref r961), .val .null, .val (.ref b1016), .val (.ref b1224), .val (.ref b1263), .val (.int (1 : Int32)), .unset] [.null])) _
              refine XS.astore X1320.here hx rfl (hb hby at_105) rfl rfl (l' := #[.val (.int p0), .val (.int p1), .val (.int p2), .val (.int p3), .val (.int p4), .val (.int p5), .val (.ref r961), .val .null, .val (.ref b1016), .val (.ref b1224), .val (.ref b1263), .val (.int (1 : Int32)), .val .null]) rfl ?_
              show Steps p.tables e below (T1320.setTop (mkF m 107 #[.val (.int p0), .val (.int p1), .val (.int p2), .val (.int p3), .val (.int p4), .val (.int p5), .val (.ref r961), .val .null, .val (.ref b1016), .val (.ref b1224), .val (.ref b1263), .val (.int (1 : Int32)), .val .null] [])) _
              refine XS.aload X1320.here hx rfl (hb hby at_107) rfl rfl ?_
              show Steps p.tables e below (T1320.setTop (mkF m 109 #[.val (.int p0), .val (.int p1), .val (.int p2), .val (.int p3), .val (.int p4), .val (.int p5), .val (.ref r961), .val .null, .val (.ref b1016), .val (.ref b1224), .val (.ref b1263), .val (.int (1 : Int32)), .val .null] [(.ref b1016)])) _
              refine XS.aload X1320.here hx rfl (hb hby at_109) rfl rfl ?_
              show Steps p.tables e below (T1320.setTop (mkF m 111 #[.val (.int p0), .val (.int p1), .val (.int p2), .val (.int p3), .val (.int p4), .val (.int p5), .val (.ref r961), .val .null, .val (.ref b1016), .val (.ref b1224), .val (.ref b1263), .val (.int (1 : Int32)), .val .null] [.null, (.ref b1016)])) _
              refine st1323 _ ?_
              show Steps p.tables e below (T1323.setTop (mkF m 114 #[.val (.int p0), .val (.int p1), .val (.int p2), .val (.int p3), .val (.int p4), .val (.int p5), .val (.ref r961), .val .null, .val (.ref b1016), .val (.ref b1224), .val (.ref b1263), .val (.int (1 : Int32)), .val .null] [])) _
              refine XS.iload X1323.here hx rfl (hb hby at_114) rfl ?_
              show Steps p.tables e below (T1323.setTop (mkF m 116 #[.val (.int p0), .val (.int p1), .val (.int p2), .val (.int p3), .val (.int p4), .val (.int p5), .val (.ref r961), .val .null, .val (.ref b1016), .val (.ref b1224), .val (.ref b1263), .val (.int (1 : Int32)), .val .null] [(.int (1 : Int32))])) _
              refine XS.ifNo X1323.here hx rfl (hb hby at_116) rfl ((if0 _ _).trans (feq (by decide : ¬ ((1 : Int32) = (0 : Int32)))).1) ?_
              show Steps p.tables e below (T1323.setTop (mkF m 119 #[.val (.int p0), .val (.int p1), .val (.int p2), .val (.int p3), .val (.int p4), .val (.int p5), .val (.ref r961), .val .null, .val (.ref b1016), .val (.ref b1224), .val (.ref b1263), .val (.int (1 : Int32)), .val .null] [])) _
              refine XS.aload X1323.here hx rfl (hb hby at_119) rfl rfl ?_
              show Steps p.tables e below (T1323.setTop (mkF m 121 #[.val (.int p0), .val (.int p1), .val (.int p2), .val (.int p3), .val (.int p4), .val (.int p5), .val (.ref r961), .val .null, .val (.ref b1016), .val (.ref b1224), .val (.ref b1263), .val (.int (1 : Int32)), .val .null] [(.ref b1263)])) _
              refine st1346.trans ?_
              show Steps p.tables e below (T1346.setTop (mkF m 124 #[.val (.int p0), .val (.int p1), .val (.int p2), .val (.int p3), .val (.int p4), .val (.int p5), .val (.ref r961), .val .null, .val (.ref b1016), .val (.ref b1224), .val (.ref b1263), .val (.int (1 : Int32)), .val .null] [.null])) _
              refine XS.aload X1346.here hx rfl (hb hby at_124) rfl rfl ?_
              show Steps p.tables e below (T1346.setTop (mkF m 126 #[.val (.int p0), .val (.int p1), .val (.int p2), .val (.int p3), .val (.int p4), .val (.int p5), .val (.ref r961), .val .null, .val (.ref b1016), .val (.ref b1224), .val (.ref b1263), .val (.int (1 : Int32)), .val .null] [.null, .null])) _
              refine st1349 _ ?_
              show Steps p.tables e below (T1349.setTop (mkF m 129 #[.val (.int p0), .val (.int p1), .val (.int p2), .val (.int p3), .val (.int p4), .val (.int p5), .val (.ref r961), .val .null, .val (.ref b1016), .val (.ref b1224), .val (.ref b1263), .val (.int (1 : Int32)), .val .null] [(.int (1 : Int32))])) _
              refine XS.ifNo X1349.here hx rfl (hb hby at_129) rfl ((if0 _ _).trans (feq (by decide : ¬ ((1 : Int32) = (0 : Int32)))).1) ?_
              show Steps p.tables e below (T1349.setTop (mkF m 132 #[.val (.int p0), .val (.int p1), .val (.int p2), .val (.int p3), .val (.int p4), .val (.int p5), .val (.ref r961), .val .null, .val (.ref b1016), .val (.ref b1224), .val (.ref b1263), .val (.int (1 : Int32)), .val .null] [])) _
              refine XS.iconst X1349.here hx rfl (hb hby at_132) ?_
              show Steps p.tables e below (T1349.setTop (mkF m 133 #[.val (.int p0), .val (.int p1), .val (.int p2), .val (.int p3), .val (.int p4), .val (.int p5), .val (.ref r961), .val .null, .val (.ref b1016), .val (.ref b1224), .val (.ref b1263), .val (.int (1 : Int32)), .val .null] [(.int (1 : Int32))])) _
              refine XS.goto X1349.here hx rfl (pc0 := 133) (pc' := 137) rfl (hb hby at_133) (by decide) (by decide) ?_
              show Steps p.tables e below (T1349.setTop (mkF m 137 #[.val (.int p0), .val (.int p1), .val (.int p2), .val (.int p3), .val (.int p4), .val (.int p5), .val (.ref r961), .val .null, .val (.ref b1016), .val (.ref b1224), .val (.ref b1263), .val (.int (1 : Int32)), .val .null] [(.int (1 : Int32))])) _
              refine XS.istore X1349.here hx rfl (hb hby at_137) rfl (l' := #[.val (.int p0), .val (.int p1), .val (.int p2), .val (.int p3), .val (.int p4), .val (.int p5), .val (.ref r961), .val .null, .val (.ref b1016), .val (.ref b1224), .val (.ref b1263), .val (.int (1 : Int32)), .val .null]) rfl ?_
              show Steps p.tables e below (T1349.setTop (mkF m 139 #[.val (.int p0), .val (.int p1), .val (.int p2), .val (.int p3), .val (.int p4), .val (.int p5), .val (.ref r961), .val .null, .val (.ref b1016), .val (.ref b1224), .val (.ref b1263), .val (.int (1 : Int32)), .val .null] [])) _
              refine XS.iload X1349.here hx rfl (hb hby at_139) rfl ?_
              show Steps p.tables e below (T1349.setTop (mkF m 141 #[.val (.int p0), .val (.int p1), .val (.int p2), .val (.int p3), .val (.int p4), .val (.int p5), .val (.ref r961), .val .null, .val (.ref b1016), .val (.ref b1224), .val (.ref b1263), .val (.int (1 : Int32)), .val .null] [(.int (1 : Int32))])) _
              exact retN X1349 hx (t := .boolean) Bd.returns (by simp) (hb hby at_141) hr
            · show own_Q0 Z p0 p1 p2 p3 p4 p5 x0 x1 x2 x3 x4 x5 x6 x7 cs ed h0 n0 _ T1349.heap _
              rw [e1351]
              exact ⟨rfl, N1350⟩
          · obtain ⟨_, _, ⟨T1352, L1352, k1352, n1352⟩, -, Y1352, hSa1352, gle1352, ⟨Lc1352, hQ1352, l1352, y1352, z1352, A1352⟩, st1352⟩ := callSS X1313 hx (y := (⟨"com/example/thyme/thyme/lang/ScopeInstancePinLaw", "str", "(II)Ljava/lang/String;"⟩ : MethodName)) hown1223 (mvT hZ1223 (hw _ (List.mem_of_getElem? (i := 7) rfl))) (mvT hZ1223 (hw _ (List.mem_of_getElem? (i := 8) rfl))) (mvT hZ1223 (hw _ (List.mem_of_getElem? (i := 2) rfl))) (mvT hZ1223 (hw _ (List.mem_of_getElem? (i := 9) rfl))) (by decide) (own_backSH (s := s) (vm0 := T1223.vm) (W := 0) (xs := []) (own_rmSS l Z av hw [] p5 ((p4.toUInt32 >>> ((16 : Int32) &&& 31).toUInt32).toInt32) (cs) T1287.heap n0 z1308 f1299 (hc1319) (hcs)) hZ1223 (hw _ (List.mem_of_getElem? (i := 9) rfl)) (hw _ (List.mem_of_getElem? (i := 2) rfl)) (by decide) (by decide) hEL CH1306.1 own_sl0) (g := (mkF m 102 #[.val (.int p0), .val (.int p1), .val (.int p2), .val (.int p3), .val (.int p4), .val (.int p5), .val (.ref r961), .val .null, .val (.ref b1016), .val (.ref b1224), .val (.ref b1263), .val (.int (1 : Int32)), .unset] [(.int ((p4.toUInt32 >>> ((16 : Int32) &&& 31).toUInt32).toInt32)), (.int p5)])) rfl (by rw [hml]; rfl) (argsL := [(.int p5), (.int ((p4.toUInt32 >>> ((16 : Int32) &&& 31).toUInt32).toInt32))]) (rest := []) (lenOf own_pd12 rfl) rfl (by show 2 * 0 + _ ≤ _; exact Nat.le_of_eq rfl) (hb hby at_102) (fun _ _ => ⟨rfl, e1315, (by decide : 17 + 6 ≤ _), (by decide : 80 + 12 ≤ _)⟩)
            dsimp only [Pt.U, Pt.locs, Pt.cells, Pt.slots] at Y1352 hSa1352 gle1352 l1352 y1352 z1352 st1352 hQ1352 A1352
            subst l1352 y1352 z1352
            obtain ⟨X1352, hS1352, hZ1352, hown1352⟩ := rebS (s := s) (vm0 := T1223.vm) hS1223 (show _ ≤ T1313.heap.size from (by rw [e1315]; exact hk1309)) Y1352 hSa1352 gle1352 hZ1223 hown1223
            obtain ⟨b1353, rfl, N1352q, K1352, g_b1353, sz1352_b1353, f1355⟩ := hQ1352
            have ne_b1016_b1353 : b1016 ≠ b1353 := Nat.ne_of_lt (Nat.lt_of_lt_of_le f1302.lt sz1352_b1353)
            have ne_b1224_b1353 : b1224 ≠ b1353 := Nat.ne_of_lt (Nat.lt_of_lt_of_le f1304.lt sz1352_b1353)
            have ne_b1263_b1353 : b1263 ≠ b1353 := Nat.ne_of_lt (Nat.lt_of_lt_of_le f1289.lt sz1352_b1353)
            have sz_b1353 : h0.size ≤ b1353 := Nat.le_trans K1307.1 sz1352_b1353
            have f1356 := own_staKeep f1291 K1352 all0
            have f1357 := own_staKeep f1292 K1352 all0
            have f1358 := own_staKeep f1293 K1352 all0
            have f1359 := own_staKeep f1294 K1352 all0
            have f1360 := own_staKeep f1295 K1352 all0
            have f1361 := own_staKeep f1296 K1352 all0
            have f1362 := own_staKeep f1297 K1352 all0
            have f1363 := own_staKeep f1298 K1352 all0
            have f1364 := own_staKeep f1299 K1352 all0
            have f1365 := own_staKeep f1300 K1352 all0
            have f1366 := CHr.safe A1352 f1302.lt f1301
            have f1367 := f1302.keep K1352
            have f1368 := f1303.keep K1352 nin0
            have f1369 := f1304.keep K1352
            have f1370 := CHr.safe A1352 f1289.lt f1305
            have f1371 := f1289.keep K1352
            have f1372 := f1290.keep K1352 nin0
            have CH1373 := CHr.trans CH1306 A1352
            have K1374 : Keep h0 T1352.heap [] := K1307.trans K1352 all0
            have z1375 : n0 ≤ T1352.heap.size := Nat.le_trans z1308 K1352.1
            have N1354 := Fr.app N1314 N1352q
            obtain ⟨T1376, h1376, X1376, e1376, W1376, st1376⟩ := putF X1352 hx hZ1352 hown1352 (host := "") (Or.inl (hw _ (List.mem_of_getElem? (i := 164) rfl))) Via.refl rfl f1368 f1367 (Or.inl (hw _ (List.mem_of_getElem? (i := 165) rfl))) (hw _ (List.mem_of_getElem? (i := 83) rfl)) (ty := (.object "java/lang/String")) (by decide) rfl rfl (g := (mkF m 111 #[.val (.int p0), .val (.int p1), .val (.int p2), .val (.int p3), .val (.int p4), .val (.int p5), .val (.ref r961), .val .null, .val (.ref b1016), .val (.ref b1224), .val (.ref b1263), .val (.int (1 : Int32)), .val (.ref b1353)] [(.ref b1353), (.ref b1016)])) rfl rfl (hb hby at_111)
            have f1377 := f1356.wr W1376
            have f1378 := f1357.wr W1376
            have f1379 := f1358.wr W1376
            have f1380 := f1359.wr W1376
            have f1381 := f1360.wr W1376
            have f1382 := f1361.wr W1376
            have f1383 := f1362.wr W1376
            have f1384 := f1363.wr W1376
            have f1385 := f1364.wr W1376
            have f1386 := f1365.wr W1376
            have f1387 := Safe.wr W1376 f1366 CH1373.1 f1366
            have f1388 := f1367.wr W1376
            have f1389 := f1369.wr W1376
            have f1390 := Safe.wr W1376 f1366 CH1373.1 f1370
            have f1391 := f1371.wr W1376
            have f1392 := f1372.other W1376 (Or.inl (Ne.symm ne_b1016_b1263))
            have f1393 := f1355.wr W1376
            have CH1394 := CHr.trans CH1373 (CHr.wr W1376 f1366 CH1373.1)
            have K1395 : Keep h0 h1376 [] := K1374.wr W1376 (Or.inr sz_b1016)
            have z1396 : n0 ≤ h1376.size := Nat.le_trans z1375 (Keep.of_wr W1376).1
            have hk1397 := Nat.le_trans (Nat.le_refl T1352.heap.size) (Keep.of_wr W1376).1
            have N1398 := Fr.snoc X1376 N1354 g_b1016
            have f1399 : Fld Z h1376 b1016 "com/example/thyme/thyme/lang/Symbols$Locals" "instance" "Ljava/lang/String;" (.ref b1353) := f1368.same W1376
            obtain ⟨cq1400, kq1400, q1400a, q1400b, q1400c⟩ := isOf hZ1352 e1376 f1391
            obtain ⟨_, _, ⟨T1400, L1400, k1400, n1400⟩, -, X1400, ⟨Lc1400, hQ1400, l1400, y1400, z1400⟩, st1400⟩ := X1376.virtualBack hx (y := (⟨"com/example/thyme/thyme/lang/ExpressionResolver$Scope", "instance", "()Ljava/lang/String;"⟩ : MethodName)) (z := (⟨"com/example/thyme/thyme/lang/ExpressionResolver$Scope", "instance", "()Ljava/lang/String;"⟩ : MethodName)) hown1352 (mvT hZ1352 (hw _ (List.mem_of_getElem? (i := 58) rfl))) (mvT hZ1352 (hw _ (List.mem_of_getElem? (i := 59) rfl))) (notFace_of_selects (args := #[]) (mvT hZ1352 (hw _ (List.mem_of_getElem? (i := 61) rfl)))) (mvT hZ1352 (hw _ (List.mem_of_getElem? (i := 61) rfl))) (mvT hZ1352 (hw _ (List.mem_of_getElem? (i := 60) rfl))) (by decide) (backOf (W := 0) (own_rmSi2 l Z av hw [] b1263 (b1016) (b1353) h1376 n0 z1396 f1392 f1399) hZ1352 (hw _ (List.mem_of_getElem? (i := 62) rfl)) (hw _ (List.mem_of_getElem? (i := 42) rfl)) (by decide) (by decide)) q1400a q1400c (g := (mkF m 121 #[.val (.int p0), .val (.int p1), .val (.int p2), .val (.int p3), .val (.int p4), .val (.int p5), .val (.ref r961), .val .null, .val (.ref b1016), .val (.ref b1224), .val (.ref b1263), .val (.int (1 : Int32)), .val (.ref b1353)] [(.ref b1263)])) rfl (by rw [hml]; rfl) (Steps.refl _) (argsL := []) (rest := []) (lenOf own_pd14 rfl) rfl (by show 2 * 0 + _ ≤ _; exact Nat.le_of_eq rfl) (hb hby at_121) (fun _ _ => ⟨rfl, e1376, (by decide : 23 + 0 ≤ _), (by decide : 92 + 0 ≤ _)⟩)
            dsimp only [Pt.U, Pt.locs, Pt.cells, Pt.slots] at X1400 l1400 y1400 z1400 st1400 hQ1400
            subst l1400 y1400 z1400
            obtain ⟨rfl, N1400q, e1402⟩ := hQ1400
            have N1401 := Fr.app N1398 N1400q
            obtain ⟨_, _, ⟨T1403, L1403, k1403, n1403⟩, -, X1403, ⟨Lc1403, hQ1403, l1403, y1403, z1403⟩, st1403⟩ := Jvm.LawKit.callS X1400 hx (y := (⟨"com/example/thyme/thyme/lang/ScopeInstancePinLaw", "same", "(Ljava/lang/String;Ljava/lang/String;)Z"⟩ : MethodName)) hown1352 (mvT hZ1352 (hw _ (List.mem_of_getElem? (i := 63) rfl))) (mvT hZ1352 (hw _ (List.mem_of_getElem? (i := 64) rfl))) (mvT hZ1352 (hw _ (List.mem_of_getElem? (i := 2) rfl))) (mvT hZ1352 (hw _ (List.mem_of_getElem? (i := 65) rfl))) (by decide) (backOf (W := 0) (own_rmPS l Z av hw [] b1353 b1353 h1376 n0 z1396 f1393 (rfl)) hZ1352 (hw _ (List.mem_of_getElem? (i := 65) rfl)) (hw _ (List.mem_of_getElem? (i := 2) rfl)) (by decide) (by decide)) (g := (mkF m 126 #[.val (.int p0), .val (.int p1), .val (.int p2), .val (.int p3), .val (.int p4), .val (.int p5), .val (.ref r961), .val .null, .val (.ref b1016), .val (.ref b1224), .val (.ref b1263), .val (.int (1 : Int32)), .val (.ref b1353)] [(.ref b1353), (.ref b1353)])) rfl (by rw [hml]; rfl) (argsL := [(.ref b1353), (.ref b1353)]) (rest := []) (lenOf own_pd15 rfl) rfl (by show 2 * 0 + _ ≤ _; exact Nat.le_of_eq rfl) (hb hby at_126) (fun _ _ => ⟨rfl, e1402, (by decide : 23 + 0 ≤ _), (by decide : 92 + 0 ≤ _)⟩)
            dsimp only [Pt.U, Pt.locs, Pt.cells, Pt.slots] at X1403 l1403 y1403 z1403 st1403 hQ1403
            subst l1403 y1403 z1403
            obtain ⟨rfl, N1403q, e1405⟩ := hQ1403
            have N1404 := Fr.app N1401 N1403q
            obtain ⟨fs, hr, hrun, hended, hR1, hR2, hR3, hR4⟩ := Stand.leaveW (s := s) (vm₁ := T1352.vm) X1403 hS1352 (by rw [e1405]; exact hk1397) (v := some (.int (1 : Int32))) (fun h => by rw [Bd.returns] at h; cases h)
            refine ⟨_, _, pre1318 _ ?_, hrun, hended, _, _, rfl, ?_, (by show CHr Z own_EL s.vm s.heap T1403.vm T1403.heap; rw [hh, e1405]; exact CHr.trans CH1394 (CHv.at (s := s) (vm0 := T1352.vm) X1403 hZ1352 hEL CH1394.1)), hR1, hR2, hR3, hR4.mono (by decide) (by decide)⟩
            · show Steps p.tables e below (T1313.setTop (mkF m 102 #[.val (.int p0), .val (.int p1), .val (.int p2), .val (.int p3), .val (.int p4), .val (.int p5), .val (.ref r961), .val .null, .val (.ref b1016), .val (.ref b1224), .val (.ref b1263), .val (.int (1 : Int32)), .unset] [(.int ((p4.toUInt32 >>> ((16 : Int32) &&& 31).toUInt32).toInt32)), (.int p5)])) _
              refine st1352.trans ?_
              show Steps p.tables e below (T1352.setTop (mkF m 105 #[.val (.int p0), .val (.int p1), .val (.int p2), .val (.int p3), .val (.int p4), .val (.int p5), .val (.ref r961), .val .null, .val (.ref b1016), .val (.ref b1224), .val (.ref b1263), .val (.int (1 : Int32)), .unset] [(.ref b1353)])) _
              refine XS.astore X1352.here hx rfl (hb hby at_105) rfl rfl (l' := #[.val (.int p0), .val (.int p1), .val (.int p2), .val (.int p3), .val (.int p4), .val (.int p5), .val (.ref r961), .val .null, .val (.ref b1016), .val (.ref b1224), .val (.ref b1263), .val (.int (1 : Int32)), .val (.ref b1353)]) rfl ?_
              show Steps p.tables e below (T1352.setTop (mkF m 107 #[.val (.int p0), .val (.int p1), .val (.int p2), .val (.int p3), .val (.int p4), .val (.int p5), .val (.ref r961), .val .null, .val (.ref b1016), .val (.ref b1224), .val (.ref b1263), .val (.int (1 : Int32)), .val (.ref b1353)] [])) _
              refine XS.aload X1352.here hx rfl (hb hby at_107) rfl rfl ?_
              show Steps p.tables e below (T1352.setTop (mkF m 109 #[.val (.int p0), .val (.int p1), .val (.int p2), .val (.int p3), .val (.int p4), .val (.int p5), .val (.ref r961), .val .null, .val (.ref b1016), .val (.ref b1224), .val (.ref b1263), .val (.int (1 : Int32)), .val (.ref b1353)] [(.ref b1016)])) _
              refine XS.aload X1352.here hx rfl (hb hby at_109) rfl rfl ?_
              show Steps p.tables e below (T1352.setTop (mkF m 111 #[.val (.int p0), .val (.int p1), .val (.int p2), .val (.int p3), .val (.int p4), .val (.int p5), .val (.ref r961), .val .null, .val (.ref b1016), .val (.ref b1224), .val (.ref b1263), .val (.int (1 : Int32)), .val (.ref b1353)] [(.ref b1353), (.ref b1016)])) _
              refine st1376 _ ?_
              show Steps p.tables e below (T1376.setTop (mkF m 114 #[.val (.int p0), .val (.int p1), .val (.int p2), .val (.int p3), .val (.int p4), .val (.int p5), .val (.ref r961), .val .null, .val (.ref b1016), .val (.ref b1224), .val (.ref b1263), .val (.int (1 : Int32)), .val (.ref b1353)] [])) _
              refine XS.iload X1376.here hx rfl (hb hby at_114) rfl ?_
              show Steps p.tables e below (T1376.setTop (mkF m 116 #[.val (.int p0), .val (.int p1), .val (.int p2), .val (.int p3), .val (.int p4), .val (.int p5), .val (.ref r961), .val .null, .val (.ref b1016), .val (.ref b1224), .val (.ref b1263), .val (.int (1 : Int32)), .val (.ref b1353)] [(.int (1 : Int32))])) _
              refine XS.ifNo X1376.here hx rfl (hb hby at_116) rfl ((if0 _ _).trans (feq (by decide : ¬ ((1 : Int32) = (0 : Int32)))).1) ?_
              show Steps p.tables e below (T1376.setTop (mkF m 119 #[.val (.int p0), .val (.int p1), .val (.int p2), .val (.int p3), .val (.int p4), .val (.int p5), .val (.ref r961), .val .null, .val (.ref b1016), .val (.ref b1224), .val (.ref b1263), .val (.int (1 : Int32)), .val (.ref b1353)] [])) _
              refine XS.aload X1376.here hx rfl (hb hby at_119) rfl rfl ?_
              show Steps p.tables e below (T1376.setTop (mkF m 121 #[.val (.int p0), .val (.int p1), .val (.int p2), .val (.int p3), .val (.int p4), .val (.int p5), .val (.ref r961), .val .null, .val (.ref b1016), .val (.ref b1224), .val (.ref b1263), .val (.int (1 : Int32)), .val (.ref b1353)] [(.ref b1263)])) _
              refine st1400.trans ?_
              show Steps p.tables e below (T1400.setTop (mkF m 124 #[.val (.int p0), .val (.int p1), .val (.int p2), .val (.int p3), .val (.int p4), .val (.int p5), .val (.ref r961), .val .null, .val (.ref b1016), .val (.ref b1224), .val (.ref b1263), .val (.int (1 : Int32)), .val (.ref b1353)] [(.ref b1353)])) _
              refine XS.aload X1400.here hx rfl (hb hby at_124) rfl rfl ?_
              show Steps p.tables e below (T1400.setTop (mkF m 126 #[.val (.int p0), .val (.int p1), .val (.int p2), .val (.int p3), .val (.int p4), .val (.int p5), .val (.ref r961), .val .null, .val (.ref b1016), .val (.ref b1224), .val (.ref b1263), .val (.int (1 : Int32)), .val (.ref b1353)] [(.ref b1353), (.ref b1353)])) _
              refine st1403 _ ?_
              show Steps p.tables e below (T1403.setTop (mkF m 129 #[.val (.int p0), .val (.int p1), .val (.int p2), .val (.int p3), .val (.int p4), .val (.int p5), .val (.ref r961), .val .null, .val (.ref b1016), .val (.ref b1224), .val (.ref b1263), .val (.int (1 : Int32)), .val (.ref b1353)] [(.int (1 : Int32))])) _
              refine XS.ifNo X1403.here hx rfl (hb hby at_129) rfl ((if0 _ _).trans (feq (by decide : ¬ ((1 : Int32) = (0 : Int32)))).1) ?_
              show Steps p.tables e below (T1403.setTop (mkF m 132 #[.val (.int p0), .val (.int p1), .val (.int p2), .val (.int p3), .val (.int p4), .val (.int p5), .val (.ref r961), .val .null, .val (.ref b1016), .val (.ref b1224), .val (.ref b1263), .val (.int (1 : Int32)), .val (.ref b1353)] [])) _
              refine XS.iconst X1403.here hx rfl (hb hby at_132) ?_
              show Steps p.tables e below (T1403.setTop (mkF m 133 #[.val (.int p0), .val (.int p1), .val (.int p2), .val (.int p3), .val (.int p4), .val (.int p5), .val (.ref r961), .val .null, .val (.ref b1016), .val (.ref b1224), .val (.ref b1263), .val (.int (1 : Int32)), .val (.ref b1353)] [(.int (1 : Int32))])) _
              refine XS.goto X1403.here hx rfl (pc0 := 133) (pc' := 137) rfl (hb hby at_133) (by decide) (by decide) ?_
              show Steps p.tables e below (T1403.setTop (mkF m 137 #[.val (.int p0), .val (.int p1), .val (.int p2), .val (.int p3), .val (.int p4), .val (.int p5), .val (.ref r961), .val .null, .val (.ref b1016), .val (.ref b1224), .val (.ref b1263), .val (.int (1 : Int32)), .val (.ref b1353)] [(.int (1 : Int32))])) _
              refine XS.istore X1403.here hx rfl (hb hby at_137) rfl (l' := #[.val (.int p0), .val (.int p1), .val (.int p2), .val (.int p3), .val (.int p4), .val (.int p5), .val (.ref r961), .val .null, .val (.ref b1016), .val (.ref b1224), .val (.ref b1263), .val (.int (1 : Int32)), .val (.ref b1353)]) rfl ?_
              show Steps p.tables e below (T1403.setTop (mkF m 139 #[.val (.int p0), .val (.int p1), .val (.int p2), .val (.int p3), .val (.int p4), .val (.int p5), .val (.ref r961), .val .null, .val (.ref b1016), .val (.ref b1224), .val (.ref b1263), .val (.int (1 : Int32)), .val (.ref b1353)] [])) _
              refine XS.iload X1403.here hx rfl (hb hby at_139) rfl ?_
              show Steps p.tables e below (T1403.setTop (mkF m 141 #[.val (.int p0), .val (.int p1), .val (.int p2), .val (.int p3), .val (.int p4), .val (.int p5), .val (.ref r961), .val .null, .val (.ref b1016), .val (.ref b1224), .val (.ref b1263), .val (.int (1 : Int32)), .val (.ref b1353)] [(.int (1 : Int32))])) _
              exact retN X1403 hx (t := .boolean) Bd.returns (by simp) (hb hby at_141) hr
            · show own_Q0 Z p0 p1 p2 p3 p4 p5 x0 x1 x2 x3 x4 x5 x6 x7 cs ed h0 n0 _ T1403.heap _
              rw [e1405]
              exact ⟨rfl, N1404⟩
  · obtain ⟨_, _, ⟨T1406, L1406, k1406, n1406⟩, -, Y1406, hSa1406, gle1406, ⟨Lc1406, hQ1406, l1406, y1406, z1406, A1406⟩, st1406⟩ := callSS X960 hx (y := (⟨"com/example/thyme/thyme/lang/ScopeInstancePinLaw", "str", "(II)Ljava/lang/String;"⟩ : MethodName)) hown (mvT hZ (hw _ (List.mem_of_getElem? (i := 7) rfl))) (mvT hZ (hw _ (List.mem_of_getElem? (i := 8) rfl))) (mvT hZ (hw _ (List.mem_of_getElem? (i := 2) rfl))) (mvT hZ (hw _ (List.mem_of_getElem? (i := 9) rfl))) (by decide) (own_backSH (s := s) (vm0 := s.vm) (W := 0) (xs := []) (own_rmSS l Z av hw [] p1 p2 (cs) h0 n0 Z0 pr8 (hc965) (hcs)) hZ (hw _ (List.mem_of_getElem? (i := 9) rfl)) (hw _ (List.mem_of_getElem? (i := 2) rfl)) (by decide) (by decide) hEL CH0.1 own_sl0) (g := (mkF m 11 #[.val (.int p0), .val (.int p1), .val (.int p2), .val (.int p3), .val (.int p4), .val (.int p5), .val (.ref r961), .unset, .unset, .unset, .unset, .unset, .unset] [(.int p2), (.int p1)])) rfl (by rw [hml]; rfl) (argsL := [(.int p1), (.int p2)]) (rest := []) (lenOf own_pd12 rfl) rfl (by show 2 * 0 + _ ≤ _; exact Nat.le_of_eq rfl) (hb hby at_11) (fun _ _ => ⟨rfl, e963, (by decide : 0 + 6 ≤ _), (by decide : 0 + 12 ≤ _)⟩)
    dsimp only [Pt.U, Pt.locs, Pt.cells, Pt.slots] at Y1406 hSa1406 gle1406 l1406 y1406 z1406 st1406 hQ1406 A1406
    subst l1406 y1406 z1406
    obtain ⟨X1406, hS1406, hZ1406, hown1406⟩ := rebS (s := s) (vm0 := s.vm) hS0 (show _ ≤ T960.heap.size from (by rw [e963]; exact hk0)) Y1406 hSa1406 gle1406 hZ hown
    obtain ⟨b1407, rfl, N1406q, K1406, g_b1407, sz1406_b1407, f1409⟩ := hQ1406
    have sz_b1407 : h0.size ≤ b1407 := Nat.le_trans (Keep.refl h0 []).1 sz1406_b1407
    have f1410 := own_staKeep pr0 K1406 all0
    have f1411 := own_staKeep pr1 K1406 all0
    have f1412 := own_staKeep pr2 K1406 all0
    have f1413 := own_staKeep pr3 K1406 all0
    have f1414 := own_staKeep pr4 K1406 all0
    have f1415 := own_staKeep pr5 K1406 all0
    have f1416 := own_staKeep pr6 K1406 all0
    have f1417 := own_staKeep pr7 K1406 all0
    have f1418 := own_staKeep pr8 K1406 all0
    have f1419 := own_staKeep pr9 K1406 all0
    have CH1420 := CHr.trans CH0 A1406
    have K1421 : Keep h0 T1406.heap [] := (Keep.refl h0 []).trans K1406 all0
    have z1422 : n0 ≤ T1406.heap.size := Nat.le_trans Z0 K1406.1
    have N1408 := Fr.app N962 N1406q
    have pre1423 : ∀ t, Steps p.tables e below (T1406.setTop (mkF m 25 #[.val (.int p0), .val (.int p1), .val (.int p2), .val (.int p3), .val (.int p4), .val (.int p5), .val (.ref r961), .val (.ref b1407), .val .null, .val .null, .unset, .unset, .unset] [(.int (p3 &&& (4 : Int32)))])) t → Steps p.tables e below (s₁.setTop (entryFrame m #[(.int p0), (.int p1), (.int p2), (.int p3), (.int p4), (.int p5)] maxLocals)) t := fun t kk => pre964 t (by
      show Steps p.tables e below (T960.setTop (mkF m 11 #[.val (.int p0), .val (.int p1), .val (.int p2), .val (.int p3), .val (.int p4), .val (.int p5), .val (.ref r961), .unset, .unset, .unset, .unset, .unset, .unset] [(.int p2), (.int p1)])) _
      refine st1406.trans ?_
      show Steps p.tables e below (T1406.setTop (mkF m 14 #[.val (.int p0), .val (.int p1), .val (.int p2), .val (.int p3), .val (.int p4), .val (.int p5), .val (.ref r961), .unset, .unset, .unset, .unset, .unset, .unset] [(.ref b1407)])) _
      refine XS.astore X1406.here hx rfl (hb hby at_14) rfl rfl (l' := #[.val (.int p0), .val (.int p1), .val (.int p2), .val (.int p3), .val (.int p4), .val (.int p5), .val (.ref r961), .val (.ref b1407), .unset, .unset, .unset, .unset, .unset]) rfl ?_
      show Steps p.tables e below (T1406.setTop (mkF m 16 #[.val (.int p0), .val (.int p1), .val (.int p2), .val (.int p3), .val (.int p4), .val (.int p5), .val (.ref r961), .val (.ref b1407), .unset, .unset, .unset, .unset, .unset] [])) _
      refine XS.aconstNull X1406.here hx rfl (hb hby at_16) ?_
      show Steps p.tables e below (T1406.setTop (mkF m 17 #[.val (.int p0), .val (.int p1), .val (.int p2), .val (.int p3), .val (.int p4), .val (.int p5), .val (.ref r961), .val (.ref b1407), .unset, .unset, .unset, .unset, .unset] [.null])) _
      refine XS.astore X1406.here hx rfl (hb hby at_17) rfl rfl (l' := #[.val (.int p0), .val (.int p1), .val (.int p2), .val (.int p3), .val (.int p4), .val (.int p5), .val (.ref r961), .val (.ref b1407), .val .null, .unset, .unset, .unset, .unset]) rfl ?_
      show Steps p.tables e below (T1406.setTop (mkF m 19 #[.val (.int p0), .val (.int p1), .val (.int p2), .val (.int p3), .val (.int p4), .val (.int p5), .val (.ref r961), .val (.ref b1407), .val .null, .unset, .unset, .unset, .unset] [])) _
      refine XS.aconstNull X1406.here hx rfl (hb hby at_19) ?_
      show Steps p.tables e below (T1406.setTop (mkF m 20 #[.val (.int p0), .val (.int p1), .val (.int p2), .val (.int p3), .val (.int p4), .val (.int p5), .val (.ref r961), .val (.ref b1407), .val .null, .unset, .unset, .unset, .unset] [.null])) _
      refine XS.astore X1406.here hx rfl (hb hby at_20) rfl rfl (l' := #[.val (.int p0), .val (.int p1), .val (.int p2), .val (.int p3), .val (.int p4), .val (.int p5), .val (.ref r961), .val (.ref b1407), .val .null, .val .null, .unset, .unset, .unset]) rfl ?_
      show Steps p.tables e below (T1406.setTop (mkF m 22 #[.val (.int p0), .val (.int p1), .val (.int p2), .val (.int p3), .val (.int p4), .val (.int p5), .val (.ref r961), .val (.ref b1407), .val .null, .val .null, .unset, .unset, .unset] [])) _
      refine XS.iloadN X1406.here hx rfl (hb hby at_22) rfl ?_
      show Steps p.tables e below (T1406.setTop (mkF m 23 #[.val (.int p0), .val (.int p1), .val (.int p2), .val (.int p3), .val (.int p4), .val (.int p5), .val (.ref r961), .val (.ref b1407), .val .null, .val .null, .unset, .unset, .unset] [(.int p3)])) _
      refine XS.iconst X1406.here hx rfl (hb hby at_23) ?_
      show Steps p.tables e below (T1406.setTop (mkF m 24 #[.val (.int p0), .val (.int p1), .val (.int p2), .val (.int p3), .val (.int p4), .val (.int p5), .val (.ref r961), .val (.ref b1407), .val .null, .val .null, .unset, .unset, .unset] [(.int (4 : Int32)), (.int p3)])) _
      refine XS.iand X1406.here hx rfl (hb hby at_24) rfl ?_
      show Steps p.tables e below (T1406.setTop (mkF m 25 #[.val (.int p0), .val (.int p1), .val (.int p2), .val (.int p3), .val (.int p4), .val (.int p5), .val (.ref r961), .val (.ref b1407), .val .null, .val .null, .unset, .unset, .unset] [(.int (p3 &&& (4 : Int32)))])) _
      exact kk)
    by_cases hc1424 : (p3 &&& (4 : Int32)) = (0 : Int32)
    · obtain ⟨T1425, h1425, X1425, e1425, E1425, A1425, D1425, -, st1425⟩ := newO X1406 hx hZ1406 hown1406 (hw _ (List.mem_of_getElem? (i := 40) rfl)) (hw _ (List.mem_of_getElem? (i := 41) rfl)) (hw _ (List.mem_of_getElem? (i := 42) rfl)) rfl (g := (mkF m 56 #[.val (.int p0), .val (.int p1), .val (.int p2), .val (.int p3), .val (.int p4), .val (.int p5), .val (.ref r961), .val (.ref b1407), .val .null, .val .null, .unset, .unset, .unset] [])) rfl (hb hby at_56) (by decide) (by decide)
      obtain ⟨b1425, g1425⟩ : ∃ z, z = T1406.heap.size := ⟨_, rfl⟩
      have ne_b1407_b1425 : b1407 ≠ b1425 := Nat.ne_of_lt (Nat.lt_of_lt_of_le f1409.lt (Nat.le_of_eq g1425.symm))
      have g_b1425 : n0 ≤ b1425 := Nat.le_trans z1422 (Nat.le_of_eq g1425.symm)
      have sz_b1425 : h0.size ≤ b1425 := Nat.le_trans K1421.1 (Nat.le_of_eq g1425.symm)
      have sf1426 : Safe Z own_EL (T1406.vm) T1406.heap b1425 := Safe.new (Nat.le_of_eq g1425.symm)
      rw [← g1425] at A1425 D1425 st1425
      have f1427 := f1410.ext E1425
      have f1428 := f1411.ext E1425
      have f1429 := f1412.ext E1425
      have f1430 := f1413.ext E1425
      have f1431 := f1414.ext E1425
      have f1432 := f1415.ext E1425
      have f1433 := f1416.ext E1425
      have f1434 := f1417.ext E1425
      have f1435 := f1418.ext E1425
      have f1436 := f1419.ext E1425
      have f1437 := f1409.ext E1425
      have f1438 := Safe.ext E1425 CH1420.1 sf1426
      have CH1439 := CHr.trans CH1420 (CHr.ext E1425 CH1420.1)
      have z1440 : n0 ≤ h1425.size := Nat.le_trans z1422 E1425.1
      have hk1441 := Nat.le_trans (Nat.le_refl T1406.heap.size) E1425.1
      have K1442 : Keep h0 h1425 [] := K1421.ext E1425
      have f1443 : Fld Z h1425 b1425 "com/example/thyme/thyme/lang/ExpressionResolver$Scope" "context" "Lcom/example/thyme/thyme/lang/ExpressionResolver$Context;" .null := D1425 (Or.inr (hw _ (List.mem_of_getElem? (i := 53) rfl))) (ty := (.object "com/example/thyme/thyme/lang/ExpressionResolver$Context")) (by decide)
      have f1444 : Fld Z h1425 b1425 "com/example/thyme/thyme/lang/ExpressionResolver$Scope" "constant" "Ljava/lang/String;" .null := D1425 (Or.inr (hw _ (List.mem_of_getElem? (i := 55) rfl))) (ty := (.object "java/lang/String")) (by decide)
      have f1445 : Fld Z h1425 b1425 "com/example/thyme/thyme/lang/ExpressionResolver$Scope" "locals" "Lcom/example/thyme/thyme/lang/Symbols$Locals;" .null := D1425 (Or.inr (hw _ (List.mem_of_getElem? (i := 57) rfl))) (ty := (.object "com/example/thyme/thyme/lang/Symbols$Locals")) (by decide)
      obtain ⟨_, _, ⟨T1446, L1446, k1446, n1446⟩, -, X1446, ⟨Lc1446, hQ1446, l1446, y1446, z1446⟩, st1446⟩ := X1425.specialBack hx (y := (⟨"com/example/thyme/thyme/lang/ExpressionResolver$Scope", "<init>", "(Lcom/example/thyme/thyme/lang/ExpressionResolver$Context;Ljava/lang/String;Lcom/example/thyme/thyme/lang/Symbols$Locals;)V"⟩ : MethodName)) rfl hown1406 (mvT hZ1406 (hw _ (List.mem_of_getElem? (i := 43) rfl))) (mvT hZ1406 (hw _ (List.mem_of_getElem? (i := 44) rfl))) (mvT hZ1406 (hw _ (List.mem_of_getElem? (i := 45) rfl))) (by decide) (backOf (W := 1) (own_rmSc10 l Z av hw [] b1425 r961 b1407 h1425 n0 z1440 A1425 f1443 f1444 f1445 g_b1425) hZ1406 (hw _ (List.mem_of_getElem? (i := 45) rfl)) (hw _ (List.mem_of_getElem? (i := 42) rfl)) (by decide) (by decide)) (g := (mkF m 66 #[.val (.int p0), .val (.int p1), .val (.int p2), .val (.int p3), .val (.int p4), .val (.int p5), .val (.ref r961), .val (.ref b1407), .val .null, .val .null, .unset, .unset, .unset] [.null, (.ref b1407), (.ref r961), (.ref b1425), (.ref b1425)])) rfl (by rw [hml]; rfl) (Steps.refl _) (a := b1425) (argsL := [(.ref r961), (.ref b1407), .null]) (rest := [(.ref b1425)]) (lenOf own_pd13 rfl) rfl (by show 2 * 0 + _ ≤ _; exact Nat.le_of_eq rfl) (hb hby at_66) (fun _ _ => ⟨rfl, e1425, (by decide : 7 + 0 ≤ _), (by decide : 15 + 0 ≤ _)⟩)
      dsimp only [Pt.U, Pt.locs, Pt.cells, Pt.slots] at X1446 l1446 y1446 z1446 st1446 hQ1446
      subst l1446 y1446 z1446
      obtain ⟨rfl, N1446q, K1446, f1448, f1449⟩ := hQ1446
      have f1450 := own_staKeep f1427 K1446 (allS (own_nsE A1425) all0)
      have f1451 := own_staKeep f1428 K1446 (allS (own_nsE A1425) all0)
      have f1452 := own_staKeep f1429 K1446 (allS (own_nsE A1425) all0)
      have f1453 := own_staKeep f1430 K1446 (allS (own_nsE A1425) all0)
      have f1454 := own_staKeep f1431 K1446 (allS (own_nsE A1425) all0)
      have f1455 := own_staKeep f1432 K1446 (allS (own_nsE A1425) all0)
      have f1456 := own_staKeep f1433 K1446 (allS (own_nsE A1425) all0)
      have f1457 := own_staKeep f1434 K1446 (allS (own_nsE A1425) all0)
      have f1458 := own_staKeep f1435 K1446 (allS (own_nsE A1425) all0)
      have f1459 := own_staKeep f1436 K1446 (allS (own_nsE A1425) all0)
      have f1460 := f1437.keep K1446
      have f1461 := Safe.keep K1446 (sfS f1438 sf0) CH1439.1 f1438
      have CH1462 := CHr.trans CH1439 (CHr.keep K1446 (sfS f1438 sf0) CH1439.1)
      have K1463 : Keep h0 T1446.heap [] := K1442.trans K1446 (allS (Or.inr sz_b1425) all0)
      have z1464 : n0 ≤ T1446.heap.size := Nat.le_trans z1440 K1446.1
      have hk1465 := Nat.le_trans hk1441 K1446.1
      have N1447 := Fr.app N1408 N1446q
      obtain ⟨cq1466, kq1466, q1466a, q1466b, q1466c⟩ := isOf hZ1406 rfl f1448
      obtain ⟨_, _, ⟨T1466, L1466, k1466, n1466⟩, -, X1466, ⟨Lc1466, hQ1466, l1466, y1466, z1466⟩, st1466⟩ := X1446.virtualBack hx (y := (⟨"com/example/thyme/thyme/lang/ExpressionResolver$Scope", "instance", "()Ljava/lang/String;"⟩ : MethodName)) (z := (⟨"com/example/thyme/thyme/lang/ExpressionResolver$Scope", "instance", "()Ljava/lang/String;"⟩ : MethodName)) hown1406 (mvT hZ1406 (hw _ (List.mem_of_getElem? (i := 58) rfl))) (mvT hZ1406 (hw _ (List.mem_of_getElem? (i := 59) rfl))) (notFace_of_selects (args := #[]) (mvT hZ1406 (hw _ (List.mem_of_getElem? (i := 61) rfl)))) (mvT hZ1406 (hw _ (List.mem_of_getElem? (i := 61) rfl))) (mvT hZ1406 (hw _ (List.mem_of_getElem? (i := 60) rfl))) (by decide) (backOf (W := 0) (own_rmSi0 l Z av hw [] b1425 T1446.heap n0 z1464 f1449) hZ1406 (hw _ (List.mem_of_getElem? (i := 62) rfl)) (hw _ (List.mem_of_getElem? (i := 42) rfl)) (by decide) (by decide)) q1466a q1466c (g := (mkF m 73 #[.val (.int p0), .val (.int p1), .val (.int p2), .val (.int p3), .val (.int p4), .val (.int p5), .val (.ref r961), .val (.ref b1407), .val .null, .val .null, .val (.ref b1425), .unset, .unset] [(.ref b1425)])) rfl (by rw [hml]; rfl) (Steps.refl _) (argsL := []) (rest := []) (lenOf own_pd14 rfl) rfl (by show 2 * 0 + _ ≤ _; exact Nat.le_of_eq rfl) (hb hby at_73) (fun _ _ => ⟨rfl, rfl, (by decide : 7 + 0 ≤ _), (by decide : 15 + 0 ≤ _)⟩)
      dsimp only [Pt.U, Pt.locs, Pt.cells, Pt.slots] at X1466 l1466 y1466 z1466 st1466 hQ1466
      subst l1466 y1466 z1466
      obtain ⟨rfl, N1466q, e1468⟩ := hQ1466
      have N1467 := Fr.app N1447 N1466q
      obtain ⟨_, _, ⟨T1469, L1469, k1469, n1469⟩, -, X1469, ⟨Lc1469, hQ1469, l1469, y1469, z1469⟩, st1469⟩ := Jvm.LawKit.callS X1466 hx (y := (⟨"com/example/thyme/thyme/lang/ScopeInstancePinLaw", "same", "(Ljava/lang/String;Ljava/lang/String;)Z"⟩ : MethodName)) hown1406 (mvT hZ1406 (hw _ (List.mem_of_getElem? (i := 63) rfl))) (mvT hZ1406 (hw _ (List.mem_of_getElem? (i := 64) rfl))) (mvT hZ1406 (hw _ (List.mem_of_getElem? (i := 2) rfl))) (mvT hZ1406 (hw _ (List.mem_of_getElem? (i := 65) rfl))) (by decide) (backOf (W := 0) (own_rmPN l Z av hw []  T1446.heap n0 z1464 ) hZ1406 (hw _ (List.mem_of_getElem? (i := 65) rfl)) (hw _ (List.mem_of_getElem? (i := 2) rfl)) (by decide) (by decide)) (g := (mkF m 78 #[.val (.int p0), .val (.int p1), .val (.int p2), .val (.int p3), .val (.int p4), .val (.int p5), .val (.ref r961), .val (.ref b1407), .val .null, .val .null, .val (.ref b1425), .unset, .unset] [.null, .null])) rfl (by rw [hml]; rfl) (argsL := [.null, .null]) (rest := []) (lenOf own_pd15 rfl) rfl (by show 2 * 0 + _ ≤ _; exact Nat.le_of_eq rfl) (hb hby at_78) (fun _ _ => ⟨rfl, e1468, (by decide : 7 + 0 ≤ _), (by decide : 15 + 0 ≤ _)⟩)
      dsimp only [Pt.U, Pt.locs, Pt.cells, Pt.slots] at X1469 l1469 y1469 z1469 st1469 hQ1469
      subst l1469 y1469 z1469
      obtain ⟨rfl, N1469q, e1471⟩ := hQ1469
      have N1470 := Fr.app N1467 N1469q
      obtain ⟨fs, hr, hrun, hended, hR1, hR2, hR3, hR4⟩ := Stand.leaveW (s := s) (vm₁ := T1406.vm) X1469 hS1406 (by rw [e1471]; exact hk1465) (v := some (.int (1 : Int32))) (fun h => by rw [Bd.returns] at h; cases h)
      refine ⟨_, _, pre1423 _ ?_, hrun, hended, _, _, rfl, ?_, (by show CHr Z own_EL s.vm s.heap T1469.vm T1469.heap; rw [hh, e1471]; exact CHr.trans CH1462 (CHv.at (s := s) (vm0 := T1406.vm) X1469 hZ1406 hEL CH1462.1)), hR1, hR2, hR3, hR4.mono (by decide) (by decide)⟩
      · show Steps p.tables e below (T1406.setTop (mkF m 25 #[.val (.int p0), .val (.int p1), .val (.int p2), .val (.int p3), .val (.int p4), .val (.int p5), .val (.ref r961), .val (.ref b1407), .val .null, .val .null, .unset, .unset, .unset] [(.int (p3 &&& (4 : Int32)))])) _
        refine XS.ifYes X1406.here hx rfl (pc0 := 25) (pc' := 56) rfl (hb hby at_25) rfl ((if0 _ _).trans (teq hc1424).1) (by decide) (by decide) ?_
        show Steps p.tables e below (T1406.setTop (mkF m 56 #[.val (.int p0), .val (.int p1), .val (.int p2), .val (.int p3), .val (.int p4), .val (.int p5), .val (.ref r961), .val (.ref b1407), .val .null, .val .null, .unset, .unset, .unset] [])) _
        refine st1425 _ ?_
        show Steps p.tables e below (T1425.setTop (mkF m 59 #[.val (.int p0), .val (.int p1), .val (.int p2), .val (.int p3), .val (.int p4), .val (.int p5), .val (.ref r961), .val (.ref b1407), .val .null, .val .null, .unset, .unset, .unset] [(.ref b1425)])) _
        refine XS.dup X1425.here hx rfl (hb hby at_59) rfl rfl ?_
        show Steps p.tables e below (T1425.setTop (mkF m 60 #[.val (.int p0), .val (.int p1), .val (.int p2), .val (.int p3), .val (.int p4), .val (.int p5), .val (.ref r961), .val (.ref b1407), .val .null, .val .null, .unset, .unset, .unset] [(.ref b1425), (.ref b1425)])) _
        refine XS.aload X1425.here hx rfl (hb hby at_60) rfl rfl ?_
        show Steps p.tables e below (T1425.setTop (mkF m 62 #[.val (.int p0), .val (.int p1), .val (.int p2), .val (.int p3), .val (.int p4), .val (.int p5), .val (.ref r961), .val (.ref b1407), .val .null, .val .null, .unset, .unset, .unset] [(.ref r961), (.ref b1425), (.ref b1425)])) _
        refine XS.aload X1425.here hx rfl (hb hby at_62) rfl rfl ?_
        show Steps p.tables e below (T1425.setTop (mkF m 64 #[.val (.int p0), .val (.int p1), .val (.int p2), .val (.int p3), .val (.int p4), .val (.int p5), .val (.ref r961), .val (.ref b1407), .val .null, .val .null, .unset, .unset, .unset] [(.ref b1407), (.ref r961), (.ref b1425), (.ref b1425)])) _
        refine XS.aload X1425.here hx rfl (hb hby at_64) rfl rfl ?_
        show Steps p.tables e below (T1425.setTop (mkF m 66 #[.val (.int p0), .val (.int p1), .val (.int p2), .val (.int p3), .val (.int p4), .val (.int p5), .val (.ref r961), .val (.ref b1407), .val .null, .val .null, .unset, .unset, .unset] [.null, (.ref b1407), (.ref r961), (.ref b1425), (.ref b1425)])) _
        refine st1446.trans ?_
        show Steps p.tables e below (T1446.setTop (mkF m 69 #[.val (.int p0), .val (.int p1), .val (.int p2), .val (.int p3), .val (.int p4), .val (.int p5), .val (.ref r961), .val (.ref b1407), .val .null, .val .null, .unset, .unset, .unset] [(.ref b1425)])) _
        refine XS.astore X1446.here hx rfl (hb hby at_69) rfl rfl (l' := #[.val (.int p0), .val (.int p1), .val (.int p2), .val (.int p3), .val (.int p4), .val (.int p5), .val (.ref r961), .val (.ref b1407), .val .null, .val .null, .val (.ref b1425), .unset, .unset]) rfl ?_
        show Steps p.tables e below (T1446.setTop (mkF m 71 #[.val (.int p0), .val (.int p1), .val (.int p2), .val (.int p3), .val (.int p4), .val (.int p5), .val (.ref r961), .val (.ref b1407), .val .null, .val .null, .val (.ref b1425), .unset, .unset] [])) _
        refine XS.aload X1446.here hx rfl (hb hby at_71) rfl rfl ?_
        show Steps p.tables e below (T1446.setTop (mkF m 73 #[.val (.int p0), .val (.int p1), .val (.int p2), .val (.int p3), .val (.int p4), .val (.int p5), .val (.ref r961), .val (.ref b1407), .val .null, .val .null, .val (.ref b1425), .unset, .unset] [(.ref b1425)])) _
        refine st1466.trans ?_
        show Steps p.tables e below (T1466.setTop (mkF m 76 #[.val (.int p0), .val (.int p1), .val (.int p2), .val (.int p3), .val (.int p4), .val (.int p5), .val (.ref r961), .val (.ref b1407), .val .null, .val .null, .val (.ref b1425), .unset, .unset] [.null])) _
        refine XS.aload X1466.here hx rfl (hb hby at_76) rfl rfl ?_
        show Steps p.tables e below (T1466.setTop (mkF m 78 #[.val (.int p0), .val (.int p1), .val (.int p2), .val (.int p3), .val (.int p4), .val (.int p5), .val (.ref r961), .val (.ref b1407), .val .null, .val .null, .val (.ref b1425), .unset, .unset] [.null, .null])) _
        refine st1469 _ ?_
        show Steps p.tables e below (T1469.setTop (mkF m 81 #[.val (.int p0), .val (.int p1), .val (.int p2), .val (.int p3), .val (.int p4), .val (.int p5), .val (.ref r961), .val (.ref b1407), .val .null, .val .null, .val (.ref b1425), .unset, .unset] [(.int (1 : Int32))])) _
        refine XS.istore X1469.here hx rfl (hb hby at_81) rfl (l' := #[.val (.int p0), .val (.int p1), .val (.int p2), .val (.int p3), .val (.int p4), .val (.int p5), .val (.ref r961), .val (.ref b1407), .val .null, .val .null, .val (.ref b1425), .val (.int (1 : Int32)), .unset]) rfl ?_
        show Steps p.tables e below (T1469.setTop (mkF m 83 #[.val (.int p0), .val (.int p1), .val (.int p2), .val (.int p3), .val (.int p4), .val (.int p5), .val (.ref r961), .val (.ref b1407), .val .null, .val .null, .val (.ref b1425), .val (.int (1 : Int32)), .unset] [])) _
        refine XS.aload X1469.here hx rfl (hb hby at_83) rfl rfl ?_
        show Steps p.tables e below (T1469.setTop (mkF m 85 #[.val (.int p0), .val (.int p1), .val (.int p2), .val (.int p3), .val (.int p4), .val (.int p5), .val (.ref r961), .val (.ref b1407), .val .null, .val .null, .val (.ref b1425), .val (.int (1 : Int32)), .unset] [.null])) _
        refine XS.ifnullYes X1469.here hx rfl (pc0 := 85) (pc' := 139) rfl (hb hby at_85) rfl (by decide) (by decide) ?_
        show Steps p.tables e below (T1469.setTop (mkF m 139 #[.val (.int p0), .val (.int p1), .val (.int p2), .val (.int p3), .val (.int p4), .val (.int p5), .val (.ref r961), .val (.ref b1407), .val .null, .val .null, .val (.ref b1425), .val (.int (1 : Int32)), .unset] [])) _
        refine XS.iload X1469.here hx rfl (hb hby at_139) rfl ?_
        show Steps p.tables e below (T1469.setTop (mkF m 141 #[.val (.int p0), .val (.int p1), .val (.int p2), .val (.int p3), .val (.int p4), .val (.int p5), .val (.ref r961), .val (.ref b1407), .val .null, .val .null, .val (.ref b1425), .val (.int (1 : Int32)), .unset] [(.int (1 : Int32))])) _
        exact retN X1469 hx (t := .boolean) Bd.returns (by simp) (hb hby at_141) hr
      · show own_Q0 Z p0 p1 p2 p3 p4 p5 x0 x1 x2 x3 x4 x5 x6 x7 cs ed h0 n0 _ T1469.heap _
        rw [e1471]
        exact ⟨rfl, N1470⟩
    · obtain ⟨T1472, h1472, X1472, e1472, E1472, A1472, D1472, -, st1472⟩ := newO X1406 hx hZ1406 hown1406 (hw _ (List.mem_of_getElem? (i := 82) rfl)) (hw _ (List.mem_of_getElem? (i := 83) rfl)) (hw _ (List.mem_of_getElem? (i := 84) rfl)) rfl (g := (mkF m 28 #[.val (.int p0), .val (.int p1), .val (.int p2), .val (.int p3), .val (.int p4), .val (.int p5), .val (.ref r961), .val (.ref b1407), .val .null, .val .null, .unset, .unset, .unset] [])) rfl (hb hby at_28) (by decide) (by decide)
      obtain ⟨b1472, g1472⟩ : ∃ z, z = T1406.heap.size := ⟨_, rfl⟩
      have ne_b1407_b1472 : b1407 ≠ b1472 := Nat.ne_of_lt (Nat.lt_of_lt_of_le f1409.lt (Nat.le_of_eq g1472.symm))
      have g_b1472 : n0 ≤ b1472 := Nat.le_trans z1422 (Nat.le_of_eq g1472.symm)
      have sz_b1472 : h0.size ≤ b1472 := Nat.le_trans K1421.1 (Nat.le_of_eq g1472.symm)
      have sf1473 : Safe Z own_EL (T1406.vm) T1406.heap b1472 := Safe.new (Nat.le_of_eq g1472.symm)
      rw [← g1472] at A1472 D1472 st1472
      have f1474 := f1410.ext E1472
      have f1475 := f1411.ext E1472
      have f1476 := f1412.ext E1472
      have f1477 := f1413.ext E1472
      have f1478 := f1414.ext E1472
      have f1479 := f1415.ext E1472
      have f1480 := f1416.ext E1472
      have f1481 := f1417.ext E1472
      have f1482 := f1418.ext E1472
      have f1483 := f1419.ext E1472
      have f1484 := f1409.ext E1472
      have f1485 := Safe.ext E1472 CH1420.1 sf1473
      have CH1486 := CHr.trans CH1420 (CHr.ext E1472 CH1420.1)
      have z1487 : n0 ≤ h1472.size := Nat.le_trans z1422 E1472.1
      have hk1488 := Nat.le_trans (Nat.le_refl T1406.heap.size) E1472.1
      have K1489 : Keep h0 h1472 [] := K1421.ext E1472
      have f1490 : Fld Z h1472 b1472 "com/example/thyme/thyme/lang/Symbols$Locals" "parameters" "Ljava/util/Map;" .null := D1472 (Or.inr (hw _ (List.mem_of_getElem? (i := 106) rfl))) (ty := (.object "java/util/Map")) (by decide)
      have f1491 : Fld Z h1472 b1472 "com/example/thyme/thyme/lang/Symbols$Locals" "names" "Ljava/util/Map;" .null := D1472 (Or.inr (hw _ (List.mem_of_getElem? (i := 108) rfl))) (ty := (.object "java/util/Map")) (by decide)
      have f1492 : Fld Z h1472 b1472 "com/example/thyme/thyme/lang/Symbols$Locals" "variableNames" "Ljava/util/Set;" .null := D1472 (Or.inr (hw _ (List.mem_of_getElem? (i := 134) rfl))) (ty := (.object "java/util/Set")) (by decide)
      have f1493 : Fld Z h1472 b1472 "com/example/thyme/thyme/lang/Symbols$Locals" "clocks" "Ljava/util/Map;" .null := D1472 (Or.inr (hw _ (List.mem_of_getElem? (i := 136) rfl))) (ty := (.object "java/util/Map")) (by decide)
      have f1494 : Fld Z h1472 b1472 "com/example/thyme/thyme/lang/Symbols$Locals" "declaredClocks" "Ljava/util/List;" .null := D1472 (Or.inr (hw _ (List.mem_of_getElem? (i := 157) rfl))) (ty := (.object "java/util/List")) (by decide)
      have f1495 : Fld Z h1472 b1472 "com/example/thyme/thyme/lang/Symbols$Locals" "variables" "Ljava/util/Map;" .null := D1472 (Or.inr (hw _ (List.mem_of_getElem? (i := 159) rfl))) (ty := (.object "java/util/Map")) (by decide)
      have f1496 : Fld Z h1472 b1472 "com/example/thyme/thyme/lang/Symbols$Locals" "declared" "Ljava/util/List;" .null := D1472 (Or.inr (hw _ (List.mem_of_getElem? (i := 161) rfl))) (ty := (.object "java/util/List")) (by decide)
      have f1497 : Fld Z h1472 b1472 "com/example/thyme/thyme/lang/Symbols$Locals" "locations" "Ljava/util/Map;" .null := D1472 (Or.inr (hw _ (List.mem_of_getElem? (i := 163) rfl))) (ty := (.object "java/util/Map")) (by decide)
      have f1498 : Fld Z h1472 b1472 "com/example/thyme/thyme/lang/Symbols$Locals" "instance" "Ljava/lang/String;" .null := D1472 (Or.inl (hw _ (List.mem_of_getElem? (i := 165) rfl))) (ty := (.object "java/lang/String")) (by decide)
      obtain ⟨_, _, ⟨T1499, L1499, k1499, n1499⟩, -, X1499, ⟨Lc1499, hQ1499, l1499, y1499, z1499⟩, st1499⟩ := X1472.specialBack hx (y := (⟨"com/example/thyme/thyme/lang/Symbols$Locals", "<init>", "()V"⟩ : MethodName)) rfl hown1406 (mvT hZ1406 (hw _ (List.mem_of_getElem? (i := 85) rfl))) (mvT hZ1406 (hw _ (List.mem_of_getElem? (i := 86) rfl))) (mvT hZ1406 (hw _ (List.mem_of_getElem? (i := 87) rfl))) (by decide) (backOf (W := 1) (own_rm17 l Z av hw [] b1472 (ed) h1472 n0 z1487 A1472 f1490 f1491 f1492 f1493 f1494 f1495 f1496 f1497 f1498 f1483 g_b1472) hZ1406 (hw _ (List.mem_of_getElem? (i := 87) rfl)) (hw _ (List.mem_of_getElem? (i := 84) rfl)) (by decide) (by decide)) (g := (mkF m 32 #[.val (.int p0), .val (.int p1), .val (.int p2), .val (.int p3), .val (.int p4), .val (.int p5), .val (.ref r961), .val (.ref b1407), .val .null, .val .null, .unset, .unset, .unset] [(.ref b1472), (.ref b1472)])) rfl (by rw [hml]; rfl) (Steps.refl _) (a := b1472) (argsL := []) (rest := [(.ref b1472)]) (lenOf own_pd10 rfl) rfl (by show 2 * 0 + _ ≤ _; exact Nat.le_of_eq rfl) (hb hby at_32) (fun _ _ => ⟨rfl, e1472, (by decide : 7 + 9 ≤ _), (by decide : 22 + 55 ≤ _)⟩)
      dsimp only [Pt.U, Pt.locs, Pt.cells, Pt.slots] at X1499 l1499 y1499 z1499 st1499 hQ1499
      subst l1499 y1499 z1499
      obtain ⟨rfl, N1499q, K1499, f1501, f1502⟩ := hQ1499
      have f1503 := own_staKeep f1474 K1499 (allS (own_nsE A1472) all0)
      have f1504 := own_staKeep f1475 K1499 (allS (own_nsE A1472) all0)
      have f1505 := own_staKeep f1476 K1499 (allS (own_nsE A1472) all0)
      have f1506 := own_staKeep f1477 K1499 (allS (own_nsE A1472) all0)
      have f1507 := own_staKeep f1478 K1499 (allS (own_nsE A1472) all0)
      have f1508 := own_staKeep f1479 K1499 (allS (own_nsE A1472) all0)
      have f1509 := own_staKeep f1480 K1499 (allS (own_nsE A1472) all0)
      have f1510 := own_staKeep f1481 K1499 (allS (own_nsE A1472) all0)
      have f1511 := own_staKeep f1482 K1499 (allS (own_nsE A1472) all0)
      have f1512 := own_staKeep f1483 K1499 (allS (own_nsE A1472) all0)
      have f1513 := f1484.keep K1499
      have f1514 := Safe.keep K1499 (sfS f1485 sf0) CH1486.1 f1485
      have CH1515 := CHr.trans CH1486 (CHr.keep K1499 (sfS f1485 sf0) CH1486.1)
      have K1516 : Keep h0 T1499.heap [] := K1489.trans K1499 (allS (Or.inr sz_b1472) all0)
      have z1517 : n0 ≤ T1499.heap.size := Nat.le_trans z1487 K1499.1
      have hk1518 := Nat.le_trans hk1488 K1499.1
      have N1500 := Fr.app N1408 N1499q
      have pre1519 : ∀ t, Steps p.tables e below (T1499.setTop (mkF m 40 #[.val (.int p0), .val (.int p1), .val (.int p2), .val (.int p3), .val (.int p4), .val (.int p5), .val (.ref r961), .val (.ref b1407), .val (.ref b1472), .val .null, .unset, .unset, .unset] [(.int p4), (.int p3)])) t → Steps p.tables e below (s₁.setTop (entryFrame m #[(.int p0), (.int p1), (.int p2), (.int p3), (.int p4), (.int p5)] maxLocals)) t := fun t kk => pre1423 t (by
        show Steps p.tables e below (T1406.setTop (mkF m 25 #[.val (.int p0), .val (.int p1), .val (.int p2), .val (.int p3), .val (.int p4), .val (.int p5), .val (.ref r961), .val (.ref b1407), .val .null, .val .null, .unset, .unset, .unset] [(.int (p3 &&& (4 : Int32)))])) _
        refine XS.ifNo X1406.here hx rfl (hb hby at_25) rfl ((if0 _ _).trans (feq hc1424).1) ?_
        show Steps p.tables e below (T1406.setTop (mkF m 28 #[.val (.int p0), .val (.int p1), .val (.int p2), .val (.int p3), .val (.int p4), .val (.int p5), .val (.ref r961), .val (.ref b1407), .val .null, .val .null, .unset, .unset, .unset] [])) _
        refine st1472 _ ?_
        show Steps p.tables e below (T1472.setTop (mkF m 31 #[.val (.int p0), .val (.int p1), .val (.int p2), .val (.int p3), .val (.int p4), .val (.int p5), .val (.ref r961), .val (.ref b1407), .val .null, .val .null, .unset, .unset, .unset] [(.ref b1472)])) _
        refine XS.dup X1472.here hx rfl (hb hby at_31) rfl rfl ?_
        show Steps p.tables e below (T1472.setTop (mkF m 32 #[.val (.int p0), .val (.int p1), .val (.int p2), .val (.int p3), .val (.int p4), .val (.int p5), .val (.ref r961), .val (.ref b1407), .val .null, .val .null, .unset, .unset, .unset] [(.ref b1472), (.ref b1472)])) _
        refine st1499.trans ?_
        show Steps p.tables e below (T1499.setTop (mkF m 35 #[.val (.int p0), .val (.int p1), .val (.int p2), .val (.int p3), .val (.int p4), .val (.int p5), .val (.ref r961), .val (.ref b1407), .val .null, .val .null, .unset, .unset, .unset] [(.ref b1472)])) _
        refine XS.astore X1499.here hx rfl (hb hby at_35) rfl rfl (l' := #[.val (.int p0), .val (.int p1), .val (.int p2), .val (.int p3), .val (.int p4), .val (.int p5), .val (.ref r961), .val (.ref b1407), .val (.ref b1472), .val .null, .unset, .unset, .unset]) rfl ?_
        show Steps p.tables e below (T1499.setTop (mkF m 37 #[.val (.int p0), .val (.int p1), .val (.int p2), .val (.int p3), .val (.int p4), .val (.int p5), .val (.ref r961), .val (.ref b1407), .val (.ref b1472), .val .null, .unset, .unset, .unset] [])) _
        refine XS.iloadN X1499.here hx rfl (hb hby at_37) rfl ?_
        show Steps p.tables e below (T1499.setTop (mkF m 38 #[.val (.int p0), .val (.int p1), .val (.int p2), .val (.int p3), .val (.int p4), .val (.int p5), .val (.ref r961), .val (.ref b1407), .val (.ref b1472), .val .null, .unset, .unset, .unset] [(.int p3)])) _
        refine XS.iload X1499.here hx rfl (hb hby at_38) rfl ?_
        exact kk)
      by_cases hc1520 : (p3 &&& (3 : Int32)) = (0 : Int32)
      · obtain ⟨_, _, ⟨T1521, L1521, k1521, n1521⟩, -, X1521, ⟨Lc1521, hQ1521, l1521, y1521, z1521⟩, st1521⟩ := Jvm.LawKit.callS X1499 hx (y := (⟨"com/example/thyme/thyme/lang/ScopeInstancePinLaw", "str", "(II)Ljava/lang/String;"⟩ : MethodName)) hown1406 (mvT hZ1406 (hw _ (List.mem_of_getElem? (i := 7) rfl))) (mvT hZ1406 (hw _ (List.mem_of_getElem? (i := 8) rfl))) (mvT hZ1406 (hw _ (List.mem_of_getElem? (i := 2) rfl))) (mvT hZ1406 (hw _ (List.mem_of_getElem? (i := 9) rfl))) (by decide) (backOf (W := 0) (own_rmSN l Z av hw [] p3 p4 T1499.heap n0 z1517 (hc1520)) hZ1406 (hw _ (List.mem_of_getElem? (i := 9) rfl)) (hw _ (List.mem_of_getElem? (i := 2) rfl)) (by decide) (by decide)) (g := (mkF m 40 #[.val (.int p0), .val (.int p1), .val (.int p2), .val (.int p3), .val (.int p4), .val (.int p5), .val (.ref r961), .val (.ref b1407), .val (.ref b1472), .val .null, .unset, .unset, .unset] [(.int p4), (.int p3)])) rfl (by rw [hml]; rfl) (argsL := [(.int p3), (.int p4)]) (rest := []) (lenOf own_pd12 rfl) rfl (by show 2 * 0 + _ ≤ _; exact Nat.le_of_eq rfl) (hb hby at_40) (fun _ _ => ⟨rfl, rfl, (by decide : 16 + 0 ≤ _), (by decide : 77 + 0 ≤ _)⟩)
        dsimp only [Pt.U, Pt.locs, Pt.cells, Pt.slots] at X1521 l1521 y1521 z1521 st1521 hQ1521
        subst l1521 y1521 z1521
        obtain ⟨rfl, N1521q, e1523⟩ := hQ1521
        have N1522 := Fr.app N1500 N1521q
        obtain ⟨T1524, h1524, X1524, e1524, W1524, st1524⟩ := putF X1521 hx hZ1406 hown1406 (host := "") (Or.inl (hw _ (List.mem_of_getElem? (i := 164) rfl))) Via.refl e1523 f1502 f1501 (Or.inl (hw _ (List.mem_of_getElem? (i := 165) rfl))) (hw _ (List.mem_of_getElem? (i := 83) rfl)) (ty := (.object "java/lang/String")) (by decide) rfl rfl (g := (mkF m 49 #[.val (.int p0), .val (.int p1), .val (.int p2), .val (.int p3), .val (.int p4), .val (.int p5), .val (.ref r961), .val (.ref b1407), .val (.ref b1472), .val .null, .val .null, .unset, .unset] [.null, (.ref b1472)])) rfl rfl (hb hby at_49)
        have f1525 := f1503.wr W1524
        have f1526 := f1504.wr W1524
        have f1527 := f1505.wr W1524
        have f1528 := f1506.wr W1524
        have f1529 := f1507.wr W1524
        have f1530 := f1508.wr W1524
        have f1531 := f1509.wr W1524
        have f1532 := f1510.wr W1524
        have f1533 := f1511.wr W1524
        have f1534 := f1512.wr W1524
        have f1535 := f1513.wr W1524
        have f1536 := Safe.wr W1524 f1514 CH1515.1 f1514
        have f1537 := f1501.wr W1524
        have CH1538 := CHr.trans CH1515 (CHr.wr W1524 f1514 CH1515.1)
        have K1539 : Keep h0 h1524 [] := K1516.wr W1524 (Or.inr sz_b1472)
        have z1540 : n0 ≤ h1524.size := Nat.le_trans z1517 (Keep.of_wr W1524).1
        have hk1541 := Nat.le_trans hk1518 (Keep.of_wr W1524).1
        have N1542 := Fr.snoc X1524 N1522 g_b1472
        have f1543 : Fld Z h1524 b1472 "com/example/thyme/thyme/lang/Symbols$Locals" "instance" "Ljava/lang/String;" .null := f1502.same W1524
        obtain ⟨T1544, h1544, X1544, e1544, E1544, A1544, D1544, -, st1544⟩ := newO X1524 hx hZ1406 hown1406 (hw _ (List.mem_of_getElem? (i := 40) rfl)) (hw _ (List.mem_of_getElem? (i := 41) rfl)) (hw _ (List.mem_of_getElem? (i := 42) rfl)) e1524 (g := (mkF m 56 #[.val (.int p0), .val (.int p1), .val (.int p2), .val (.int p3), .val (.int p4), .val (.int p5), .val (.ref r961), .val (.ref b1407), .val (.ref b1472), .val .null, .val .null, .unset, .unset] [])) rfl (hb hby at_56) (by decide) (by decide)
        obtain ⟨b1544, g1544⟩ : ∃ z, z = h1524.size := ⟨_, rfl⟩
        have ne_b1407_b1544 : b1407 ≠ b1544 := Nat.ne_of_lt (Nat.lt_of_lt_of_le f1535.lt (Nat.le_of_eq g1544.symm))
        have ne_b1472_b1544 : b1472 ≠ b1544 := Nat.ne_of_lt (Nat.lt_of_lt_of_le f1537.lt (Nat.le_of_eq g1544.symm))
        have g_b1544 : n0 ≤ b1544 := Nat.le_trans z1540 (Nat.le_of_eq g1544.symm)
        have sz_b1544 : h0.size ≤ b1544 := Nat.le_trans K1539.1 (Nat.le_of_eq g1544.symm)
        have sf1545 : Safe Z own_EL (T1406.vm) h1524 b1544 := Safe.new (Nat.le_of_eq g1544.symm)
        rw [← g1544] at A1544 D1544 st1544
        have f1546 := f1525.ext E1544
        have f1547 := f1526.ext E1544
        have f1548 := f1527.ext E1544
        have f1549 := f1528.ext E1544
        have f1550 := f1529.ext E1544
        have f1551 := f1530.ext E1544
        have f1552 := f1531.ext E1544
        have f1553 := f1532.ext E1544
        have f1554 := f1533.ext E1544
        have f1555 := f1534.ext E1544
        have f1556 := f1535.ext E1544
        have f1557 := Safe.ext E1544 CH1538.1 f1536
        have f1558 := f1537.ext E1544
        have f1559 := f1543.ext E1544
        have f1560 := Safe.ext E1544 CH1538.1 sf1545
        have CH1561 := CHr.trans CH1538 (CHr.ext E1544 CH1538.1)
        have z1562 : n0 ≤ h1544.size := Nat.le_trans z1540 E1544.1
        have hk1563 := Nat.le_trans hk1541 E1544.1
        have K1564 : Keep h0 h1544 [] := K1539.ext E1544
        have f1565 : Fld Z h1544 b1544 "com/example/thyme/thyme/lang/ExpressionResolver$Scope" "context" "Lcom/example/thyme/thyme/lang/ExpressionResolver$Context;" .null := D1544 (Or.inr (hw _ (List.mem_of_getElem? (i := 53) rfl))) (ty := (.object "com/example/thyme/thyme/lang/ExpressionResolver$Context")) (by decide)
        have f1566 : Fld Z h1544 b1544 "com/example/thyme/thyme/lang/ExpressionResolver$Scope" "constant" "Ljava/lang/String;" .null := D1544 (Or.inr (hw _ (List.mem_of_getElem? (i := 55) rfl))) (ty := (.object "java/lang/String")) (by decide)
        have f1567 : Fld Z h1544 b1544 "com/example/thyme/thyme/lang/ExpressionResolver$Scope" "locals" "Lcom/example/thyme/thyme/lang/Symbols$Locals;" .null := D1544 (Or.inr (hw _ (List.mem_of_getElem? (i := 57) rfl))) (ty := (.object "com/example/thyme/thyme/lang/Symbols$Locals")) (by decide)
        obtain ⟨_, _, ⟨T1568, L1568, k1568, n1568⟩, -, X1568, ⟨Lc1568, hQ1568, l1568, y1568, z1568⟩, st1568⟩ := X1544.specialBack hx (y := (⟨"com/example/thyme/thyme/lang/ExpressionResolver$Scope", "<init>", "(Lcom/example/thyme/thyme/lang/ExpressionResolver$Context;Ljava/lang/String;Lcom/example/thyme/thyme/lang/Symbols$Locals;)V"⟩ : MethodName)) rfl hown1406 (mvT hZ1406 (hw _ (List.mem_of_getElem? (i := 43) rfl))) (mvT hZ1406 (hw _ (List.mem_of_getElem? (i := 44) rfl))) (mvT hZ1406 (hw _ (List.mem_of_getElem? (i := 45) rfl))) (by decide) (backOf (W := 1) (own_rmSc11 l Z av hw [] b1544 r961 b1407 b1472 h1544 n0 z1562 A1544 f1565 f1566 f1567 g_b1544) hZ1406 (hw _ (List.mem_of_getElem? (i := 45) rfl)) (hw _ (List.mem_of_getElem? (i := 42) rfl)) (by decide) (by decide)) (g := (mkF m 66 #[.val (.int p0), .val (.int p1), .val (.int p2), .val (.int p3), .val (.int p4), .val (.int p5), .val (.ref r961), .val (.ref b1407), .val (.ref b1472), .val .null, .val .null, .unset, .unset] [(.ref b1472), (.ref b1407), (.ref r961), (.ref b1544), (.ref b1544)])) rfl (by rw [hml]; rfl) (Steps.refl _) (a := b1544) (argsL := [(.ref r961), (.ref b1407), (.ref b1472)]) (rest := [(.ref b1544)]) (lenOf own_pd13 rfl) rfl (by show 2 * 0 + _ ≤ _; exact Nat.le_of_eq rfl) (hb hby at_66) (fun _ _ => ⟨rfl, e1544, (by decide : 17 + 0 ≤ _), (by decide : 80 + 0 ≤ _)⟩)
        dsimp only [Pt.U, Pt.locs, Pt.cells, Pt.slots] at X1568 l1568 y1568 z1568 st1568 hQ1568
        subst l1568 y1568 z1568
        obtain ⟨rfl, N1568q, K1568, f1570, f1571⟩ := hQ1568
        have f1572 := own_staKeep f1546 K1568 (allS (own_nsE A1544) all0)
        have f1573 := own_staKeep f1547 K1568 (allS (own_nsE A1544) all0)
        have f1574 := own_staKeep f1548 K1568 (allS (own_nsE A1544) all0)
        have f1575 := own_staKeep f1549 K1568 (allS (own_nsE A1544) all0)
        have f1576 := own_staKeep f1550 K1568 (allS (own_nsE A1544) all0)
        have f1577 := own_staKeep f1551 K1568 (allS (own_nsE A1544) all0)
        have f1578 := own_staKeep f1552 K1568 (allS (own_nsE A1544) all0)
        have f1579 := own_staKeep f1553 K1568 (allS (own_nsE A1544) all0)
        have f1580 := own_staKeep f1554 K1568 (allS (own_nsE A1544) all0)
        have f1581 := own_staKeep f1555 K1568 (allS (own_nsE A1544) all0)
        have f1582 := f1556.keep K1568
        have f1583 := Safe.keep K1568 (sfS f1560 sf0) CH1561.1 f1557
        have f1584 := f1558.keep K1568
        have f1585 := f1559.keep K1568 (ninS ne_b1472_b1544 nin0)
        have f1586 := Safe.keep K1568 (sfS f1560 sf0) CH1561.1 f1560
        have CH1587 := CHr.trans CH1561 (CHr.keep K1568 (sfS f1560 sf0) CH1561.1)
        have K1588 : Keep h0 T1568.heap [] := K1564.trans K1568 (allS (Or.inr sz_b1544) all0)
        have z1589 : n0 ≤ T1568.heap.size := Nat.le_trans z1562 K1568.1
        have hk1590 := Nat.le_trans hk1563 K1568.1
        have N1569 := Fr.app N1542 N1568q
        obtain ⟨cq1591, kq1591, q1591a, q1591b, q1591c⟩ := isOf hZ1406 rfl f1570
        obtain ⟨_, _, ⟨T1591, L1591, k1591, n1591⟩, -, X1591, ⟨Lc1591, hQ1591, l1591, y1591, z1591⟩, st1591⟩ := X1568.virtualBack hx (y := (⟨"com/example/thyme/thyme/lang/ExpressionResolver$Scope", "instance", "()Ljava/lang/String;"⟩ : MethodName)) (z := (⟨"com/example/thyme/thyme/lang/ExpressionResolver$Scope", "instance", "()Ljava/lang/String;"⟩ : MethodName)) hown1406 (mvT hZ1406 (hw _ (List.mem_of_getElem? (i := 58) rfl))) (mvT hZ1406 (hw _ (List.mem_of_getElem? (i := 59) rfl))) (notFace_of_selects (args := #[]) (mvT hZ1406 (hw _ (List.mem_of_getElem? (i := 61) rfl)))) (mvT hZ1406 (hw _ (List.mem_of_getElem? (i := 61) rfl))) (mvT hZ1406 (hw _ (List.mem_of_getElem? (i := 60) rfl))) (by decide) (backOf (W := 0) (own_rmSi1 l Z av hw [] b1544 (b1472) T1568.heap n0 z1589 f1571 f1585) hZ1406 (hw _ (List.mem_of_getElem? (i := 62) rfl)) (hw _ (List.mem_of_getElem? (i := 42) rfl)) (by decide) (by decide)) q1591a q1591c (g := (mkF m 73 #[.val (.int p0), .val (.int p1), .val (.int p2), .val (.int p3), .val (.int p4), .val (.int p5), .val (.ref r961), .val (.ref b1407), .val (.ref b1472), .val .null, .val (.ref b1544), .unset, .unset] [(.ref b1544)])) rfl (by rw [hml]; rfl) (Steps.refl _) (argsL := []) (rest := []) (lenOf own_pd14 rfl) rfl (by show 2 * 0 + _ ≤ _; exact Nat.le_of_eq rfl) (hb hby at_73) (fun _ _ => ⟨rfl, rfl, (by decide : 17 + 0 ≤ _), (by decide : 80 + 0 ≤ _)⟩)
        dsimp only [Pt.U, Pt.locs, Pt.cells, Pt.slots] at X1591 l1591 y1591 z1591 st1591 hQ1591
        subst l1591 y1591 z1591
        obtain ⟨rfl, N1591q, e1593⟩ := hQ1591
        have N1592 := Fr.app N1569 N1591q
        obtain ⟨_, _, ⟨T1594, L1594, k1594, n1594⟩, -, X1594, ⟨Lc1594, hQ1594, l1594, y1594, z1594⟩, st1594⟩ := Jvm.LawKit.callS X1591 hx (y := (⟨"com/example/thyme/thyme/lang/ScopeInstancePinLaw", "same", "(Ljava/lang/String;Ljava/lang/String;)Z"⟩ : MethodName)) hown1406 (mvT hZ1406 (hw _ (List.mem_of_getElem? (i := 63) rfl))) (mvT hZ1406 (hw _ (List.mem_of_getElem? (i := 64) rfl))) (mvT hZ1406 (hw _ (List.mem_of_getElem? (i := 2) rfl))) (mvT hZ1406 (hw _ (List.mem_of_getElem? (i := 65) rfl))) (by decide) (backOf (W := 0) (own_rmPN l Z av hw []  T1568.heap n0 z1589 ) hZ1406 (hw _ (List.mem_of_getElem? (i := 65) rfl)) (hw _ (List.mem_of_getElem? (i := 2) rfl)) (by decide) (by decide)) (g := (mkF m 78 #[.val (.int p0), .val (.int p1), .val (.int p2), .val (.int p3), .val (.int p4), .val (.int p5), .val (.ref r961), .val (.ref b1407), .val (.ref b1472), .val .null, .val (.ref b1544), .unset, .unset] [.null, .null])) rfl (by rw [hml]; rfl) (argsL := [.null, .null]) (rest := []) (lenOf own_pd15 rfl) rfl (by show 2 * 0 + _ ≤ _; exact Nat.le_of_eq rfl) (hb hby at_78) (fun _ _ => ⟨rfl, e1593, (by decide : 17 + 0 ≤ _), (by decide : 80 + 0 ≤ _)⟩)
        dsimp only [Pt.U, Pt.locs, Pt.cells, Pt.slots] at X1594 l1594 y1594 z1594 st1594 hQ1594
        subst l1594 y1594 z1594
        obtain ⟨rfl, N1594q, e1596⟩ := hQ1594
        have N1595 := Fr.app N1592 N1594q
        have pre1597 : ∀ t, Steps p.tables e below (T1594.setTop (mkF m 92 #[.val (.int p0), .val (.int p1), .val (.int p2), .val (.int p3), .val (.int p4), .val (.int p5), .val (.ref r961), .val (.ref b1407), .val (.ref b1472), .val .null, .val (.ref b1544), .val (.int (1 : Int32)), .unset] [(.int (p5 &&& (4 : Int32)))])) t → Steps p.tables e below (s₁.setTop (entryFrame m #[(.int p0), (.int p1), (.int p2), (.int p3), (.int p4), (.int p5)] maxLocals)) t := fun t kk => pre1519 t (by
          show Steps p.tables e below (T1499.setTop (mkF m 40 #[.val (.int p0), .val (.int p1), .val (.int p2), .val (.int p3), .val (.int p4), .val (.int p5), .val (.ref r961), .val (.ref b1407), .val (.ref b1472), .val .null, .unset, .unset, .unset] [(.int p4), (.int p3)])) _
          refine st1521 _ ?_
          show Steps p.tables e below (T1521.setTop (mkF m 43 #[.val (.int p0), .val (.int p1), .val (.int p2), .val (.int p3), .val (.int p4), .val (.int p5), .val (.ref r961), .val (.ref b1407), .val (.ref b1472), .val .null, .unset, .unset, .unset] [.null])) _
          refine XS.astore X1521.here hx rfl (hb hby at_43) rfl rfl (l' := #[.val (.int p0), .val (.int p1), .val (.int p2), .val (.int p3), .val (.int p4), .val (.int p5), .val (.ref r961), .val (.ref b1407), .val (.ref b1472), .val .null, .val .null, .unset, .unset]) rfl ?_
          show Steps p.tables e below (T1521.setTop (mkF m 45 #[.val (.int p0), .val (.int p1), .val (.int p2), .val (.int p3), .val (.int p4), .val (.int p5), .val (.ref r961), .val (.ref b1407), .val (.ref b1472), .val .null, .val .null, .unset, .unset] [])) _
          refine XS.aload X1521.here hx rfl (hb hby at_45) rfl rfl ?_
          show Steps p.tables e below (T1521.setTop (mkF m 47 #[.val (.int p0), .val (.int p1), .val (.int p2), .val (.int p3), .val (.int p4), .val (.int p5), .val (.ref r961), .val (.ref b1407), .val (.ref b1472), .val .null, .val .null, .unset, .unset] [(.ref b1472)])) _
          refine XS.aload X1521.here hx rfl (hb hby at_47) rfl rfl ?_
          show Steps p.tables e below (T1521.setTop (mkF m 49 #[.val (.int p0), .val (.int p1), .val (.int p2), .val (.int p3), .val (.int p4), .val (.int p5), .val (.ref r961), .val (.ref b1407), .val (.ref b1472), .val .null, .val .null, .unset, .unset] [.null, (.ref b1472)])) _
          refine st1524 _ ?_
          show Steps p.tables e below (T1524.setTop (mkF m 52 #[.val (.int p0), .val (.int p1), .val (.int p2), .val (.int p3), .val (.int p4), .val (.int p5), .val (.ref r961), .val (.ref b1407), .val (.ref b1472), .val .null, .val .null, .unset, .unset] [])) _
          refine XS.aload X1524.here hx rfl (hb hby at_52) rfl rfl ?_
          show Steps p.tables e below (T1524.setTop (mkF m 54 #[.val (.int p0), .val (.int p1), .val (.int p2), .val (.int p3), .val (.int p4), .val (.int p5), .val (.ref r961), .val (.ref b1407), .val (.ref b1472), .val .null, .val .null, .unset, .unset] [.null])) _
          refine XS.astore X1524.here hx rfl (hb hby at_54) rfl rfl (l' := #[.val (.int p0), .val (.int p1), .val (.int p2), .val (.int p3), .val (.int p4), .val (.int p5), .val (.ref r961), .val (.ref b1407), .val (.ref b1472), .val .null, .val .null, .unset, .unset]) rfl ?_
          show Steps p.tables e below (T1524.setTop (mkF m 56 #[.val (.int p0), .val (.int p1), .val (.int p2), .val (.int p3), .val (.int p4), .val (.int p5), .val (.ref r961), .val (.ref b1407), .val (.ref b1472), .val .null, .val .null, .unset, .unset] [])) _
          refine st1544 _ ?_
          show Steps p.tables e below (T1544.setTop (mkF m 59 #[.val (.int p0), .val (.int p1), .val (.int p2), .val (.int p3), .val (.int p4), .val (.int p5), .val (.ref r961), .val (.ref b1407), .val (.ref b1472), .val .null, .val .null, .unset, .unset] [(.ref b1544)])) _
          refine XS.dup X1544.here hx rfl (hb hby at_59) rfl rfl ?_
          show Steps p.tables e below (T1544.setTop (mkF m 60 #[.val (.int p0), .val (.int p1), .val (.int p2), .val (.int p3), .val (.int p4), .val (.int p5), .val (.ref r961), .val (.ref b1407), .val (.ref b1472), .val .null, .val .null, .unset, .unset] [(.ref b1544), (.ref b1544)])) _
          refine XS.aload X1544.here hx rfl (hb hby at_60) rfl rfl ?_
          show Steps p.tables e below (T1544.setTop (mkF m 62 #[.val (.int p0), .val (.int p1), .val (.int p2), .val (.int p3), .val (.int p4), .val (.int p5), .val (.ref r961), .val (.ref b1407), .val (.ref b1472), .val .null, .val .null, .unset, .unset] [(.ref r961), (.ref b1544), (.ref b1544)])) _
          refine XS.aload X1544.here hx rfl (hb hby at_62) rfl rfl ?_
          show Steps p.tables e below (T1544.setTop (mkF m 64 #[.val (.int p0), .val (.int p1), .val (.int p2), .val (.int p3), .val (.int p4), .val (.int p5), .val (.ref r961), .val (.ref b1407), .val (.ref b1472), .val .null, .val .null, .unset, .unset] [(.ref b1407), (.ref r961), (.ref b1544), (.ref b1544)])) _
          refine XS.aload X1544.here hx rfl (hb hby at_64) rfl rfl ?_
          show Steps p.tables e below (T1544.setTop (mkF m 66 #[.val (.int p0), .val (.int p1), .val (.int p2), .val (.int p3), .val (.int p4), .val (.int p5), .val (.ref r961), .val (.ref b1407), .val (.ref b1472), .val .null, .val .null, .unset, .unset] [(.ref b1472), (.ref b1407), (.ref r961), (.ref b1544), (.ref b1544)])) _
          refine st1568.trans ?_
          show Steps p.tables e below (T1568.setTop (mkF m 69 #[.val (.int p0), .val (.int p1), .val (.int p2), .val (.int p3), .val (.int p4), .val (.int p5), .val (.ref r961), .val (.ref b1407), .val (.ref b1472), .val .null, .val .null, .unset, .unset] [(.ref b1544)])) _
          refine XS.astore X1568.here hx rfl (hb hby at_69) rfl rfl (l' := #[.val (.int p0), .val (.int p1), .val (.int p2), .val (.int p3), .val (.int p4), .val (.int p5), .val (.ref r961), .val (.ref b1407), .val (.ref b1472), .val .null, .val (.ref b1544), .unset, .unset]) rfl ?_
          show Steps p.tables e below (T1568.setTop (mkF m 71 #[.val (.int p0), .val (.int p1), .val (.int p2), .val (.int p3), .val (.int p4), .val (.int p5), .val (.ref r961), .val (.ref b1407), .val (.ref b1472), .val .null, .val (.ref b1544), .unset, .unset] [])) _
          refine XS.aload X1568.here hx rfl (hb hby at_71) rfl rfl ?_
          show Steps p.tables e below (T1568.setTop (mkF m 73 #[.val (.int p0), .val (.int p1), .val (.int p2), .val (.int p3), .val (.int p4), .val (.int p5), .val (.ref r961), .val (.ref b1407), .val (.ref b1472), .val .null, .val (.ref b1544), .unset, .unset] [(.ref b1544)])) _
          refine st1591.trans ?_
          show Steps p.tables e below (T1591.setTop (mkF m 76 #[.val (.int p0), .val (.int p1), .val (.int p2), .val (.int p3), .val (.int p4), .val (.int p5), .val (.ref r961), .val (.ref b1407), .val (.ref b1472), .val .null, .val (.ref b1544), .unset, .unset] [.null])) _
          refine XS.aload X1591.here hx rfl (hb hby at_76) rfl rfl ?_
          show Steps p.tables e below (T1591.setTop (mkF m 78 #[.val (.int p0), .val (.int p1), .val (.int p2), .val (.int p3), .val (.int p4), .val (.int p5), .val (.ref r961), .val (.ref b1407), .val (.ref b1472), .val .null, .val (.ref b1544), .unset, .unset] [.null, .null])) _
          refine st1594 _ ?_
          show Steps p.tables e below (T1594.setTop (mkF m 81 #[.val (.int p0), .val (.int p1), .val (.int p2), .val (.int p3), .val (.int p4), .val (.int p5), .val (.ref r961), .val (.ref b1407), .val (.ref b1472), .val .null, .val (.ref b1544), .unset, .unset] [(.int (1 : Int32))])) _
          refine XS.istore X1594.here hx rfl (hb hby at_81) rfl (l' := #[.val (.int p0), .val (.int p1), .val (.int p2), .val (.int p3), .val (.int p4), .val (.int p5), .val (.ref r961), .val (.ref b1407), .val (.ref b1472), .val .null, .val (.ref b1544), .val (.int (1 : Int32)), .unset]) rfl ?_
          show Steps p.tables e below (T1594.setTop (mkF m 83 #[.val (.int p0), .val (.int p1), .val (.int p2), .val (.int p3), .val (.int p4), .val (.int p5), .val (.ref r961), .val (.ref b1407), .val (.ref b1472), .val .null, .val (.ref b1544), .val (.int (1 : Int32)), .unset] [])) _
          refine XS.aload X1594.here hx rfl (hb hby at_83) rfl rfl ?_
          show Steps p.tables e below (T1594.setTop (mkF m 85 #[.val (.int p0), .val (.int p1), .val (.int p2), .val (.int p3), .val (.int p4), .val (.int p5), .val (.ref r961), .val (.ref b1407), .val (.ref b1472), .val .null, .val (.ref b1544), .val (.int (1 : Int32)), .unset] [(.ref b1472)])) _
          refine XS.ifnullNo X1594.here hx rfl (hb hby at_85) rfl ?_
          show Steps p.tables e below (T1594.setTop (mkF m 88 #[.val (.int p0), .val (.int p1), .val (.int p2), .val (.int p3), .val (.int p4), .val (.int p5), .val (.ref r961), .val (.ref b1407), .val (.ref b1472), .val .null, .val (.ref b1544), .val (.int (1 : Int32)), .unset] [])) _
          refine XS.iload X1594.here hx rfl (hb hby at_88) rfl ?_
          show Steps p.tables e below (T1594.setTop (mkF m 90 #[.val (.int p0), .val (.int p1), .val (.int p2), .val (.int p3), .val (.int p4), .val (.int p5), .val (.ref r961), .val (.ref b1407), .val (.ref b1472), .val .null, .val (.ref b1544), .val (.int (1 : Int32)), .unset] [(.int p5)])) _
          refine XS.iconst X1594.here hx rfl (hb hby at_90) ?_
          show Steps p.tables e below (T1594.setTop (mkF m 91 #[.val (.int p0), .val (.int p1), .val (.int p2), .val (.int p3), .val (.int p4), .val (.int p5), .val (.ref r961), .val (.ref b1407), .val (.ref b1472), .val .null, .val (.ref b1544), .val (.int (1 : Int32)), .unset] [(.int (4 : Int32)), (.int p5)])) _
          refine XS.iand X1594.here hx rfl (hb hby at_91) rfl ?_
          show Steps p.tables e below (T1594.setTop (mkF m 92 #[.val (.int p0), .val (.int p1), .val (.int p2), .val (.int p3), .val (.int p4), .val (.int p5), .val (.ref r961), .val (.ref b1407), .val (.ref b1472), .val .null, .val (.ref b1544), .val (.int (1 : Int32)), .unset] [(.int (p5 &&& (4 : Int32)))])) _
          exact kk)
        by_cases hc1598 : (p5 &&& (4 : Int32)) = (0 : Int32)
        · obtain ⟨fs, hr, hrun, hended, hR1, hR2, hR3, hR4⟩ := Stand.leaveW (s := s) (vm₁ := T1406.vm) X1594 hS1406 (by rw [e1596]; exact hk1590) (v := some (.int (1 : Int32))) (fun h => by rw [Bd.returns] at h; cases h)
          refine ⟨_, _, pre1597 _ ?_, hrun, hended, _, _, rfl, ?_, (by show CHr Z own_EL s.vm s.heap T1594.vm T1594.heap; rw [hh, e1596]; exact CHr.trans CH1587 (CHv.at (s := s) (vm0 := T1406.vm) X1594 hZ1406 hEL CH1587.1)), hR1, hR2, hR3, hR4.mono (by decide) (by decide)⟩
          · show Steps p.tables e below (T1594.setTop (mkF m 92 #[.val (.int p0), .val (.int p1), .val (.int p2), .val (.int p3), .val (.int p4), .val (.int p5), .val (.ref r961), .val (.ref b1407), .val (.ref b1472), .val .null, .val (.ref b1544), .val (.int (1 : Int32)), .unset] [(.int (p5 &&& (4 : Int32)))])) _
            refine XS.ifYes X1594.here hx rfl (pc0 := 92) (pc' := 139) rfl (hb hby at_92) rfl ((if0 _ _).trans (teq hc1598).1) (by decide) (by decide) ?_
            show Steps p.tables e below (T1594.setTop (mkF m 139 #[.val (.int p0), .val (.int p1), .val (.int p2), .val (.int p3), .val (.int p4), .val (.int p5), .val (.ref r961), .val (.ref b1407), .val (.ref b1472), .val .null, .val (.ref b1544), .val (.int (1 : Int32)), .unset] [])) _
            refine XS.iload X1594.here hx rfl (hb hby at_139) rfl ?_
            show Steps p.tables e below (T1594.setTop (mkF m 141 #[.val (.int p0), .val (.int p1), .val (.int p2), .val (.int p3), .val (.int p4), .val (.int p5), .val (.ref r961), .val (.ref b1407), .val (.ref b1472), .val .null, .val (.ref b1544), .val (.int (1 : Int32)), .unset] [(.int (1 : Int32))])) _
            exact retN X1594 hx (t := .boolean) Bd.returns (by simp) (hb hby at_141) hr
          · show own_Q0 Z p0 p1 p2 p3 p4 p5 x0 x1 x2 x3 x4 x5 x6 x7 cs ed h0 n0 _ T1594.heap _
            rw [e1596]
            exact ⟨rfl, N1595⟩
        · have pre1599 : ∀ t, Steps p.tables e below (T1594.setTop (mkF m 102 #[.val (.int p0), .val (.int p1), .val (.int p2), .val (.int p3), .val (.int p4), .val (.int p5), .val (.ref r961), .val (.ref b1407), .val (.ref b1472), .val .null, .val (.ref b1544), .val (.int (1 : Int32)), .unset] [(.int ((p4.toUInt32 >>> ((16 : Int32) &&& 31).toUInt32).toInt32)), (.int p5)])) t → Steps p.tables e below (s₁.setTop (entryFrame m #[(.int p0), (.int p1), (.int p2), (.int p3), (.int p4), (.int p5)] maxLocals)) t := fun t kk => pre1597 t (by
            show Steps p.tables e below (T1594.setTop (mkF m 92 #[.val (.int p0), .val (.int p1), .val (.int p2), .val (.int p3), .val (.int p4), .val (.int p5), .val (.ref r961), .val (.ref b1407), .val (.ref b1472), .val .null, .val (.ref b1544), .val (.int (1 : Int32)), .unset] [(.int (p5 &&& (4 : Int32)))])) _
            refine XS.ifNo X1594.here hx rfl (hb hby at_92) rfl ((if0 _ _).trans (feq hc1598).1) ?_
            show Steps p.tables e below (T1594.setTop (mkF m 95 #[.val (.int p0), .val (.int p1), .val (.int p2), .val (.int p3), .val (.int p4), .val (.int p5), .val (.ref r961), .val (.ref b1407), .val (.ref b1472), .val .null, .val (.ref b1544), .val (.int (1 : Int32)), .unset] [])) _
            refine XS.iload X1594.here hx rfl (hb hby at_95) rfl ?_
            show Steps p.tables e below (T1594.setTop (mkF m 97 #[.val (.int p0), .val (.int p1), .val (.int p2), .val (.int p3), .val (.int p4), .val (.int p5), .val (.ref r961), .val (.ref b1407), .val (.ref b1472), .val .null, .val (.ref b1544), .val (.int (1 : Int32)), .unset] [(.int p5)])) _
            refine XS.iload X1594.here hx rfl (hb hby at_97) rfl ?_
            show Steps p.tables e below (T1594.setTop (mkF m 99 #[.val (.int p0), .val (.int p1), .val (.int p2), .val (.int p3), .val (.int p4), .val (.int p5), .val (.ref r961), .val (.ref b1407), .val (.ref b1472), .val .null, .val (.ref b1544), .val (.int (1 : Int32)), .unset] [(.int p4), (.int p5)])) _
            refine XS.bipush X1594.here hx rfl (hb hby at_99) ?_
            show Steps p.tables e below (T1594.setTop (mkF m 101 #[.val (.int p0), .val (.int p1), .val (.int p2), .val (.int p3), .val (.int p4), .val (.int p5), .val (.ref r961), .val (.ref b1407), .val (.ref b1472), .val .null, .val (.ref b1544), .val (.int (1 : Int32)), .unset] [(.int (16 : Int32)), (.int p4), (.int p5)])) _
            refine XS.iushr X1594.here hx rfl (hb hby at_101) rfl ?_
            exact kk)
          by_cases hc1600 : (p5 &&& (3 : Int32)) = (0 : Int32)
          · obtain ⟨_, _, ⟨T1601, L1601, k1601, n1601⟩, -, X1601, ⟨Lc1601, hQ1601, l1601, y1601, z1601⟩, st1601⟩ := Jvm.LawKit.callS X1594 hx (y := (⟨"com/example/thyme/thyme/lang/ScopeInstancePinLaw", "str", "(II)Ljava/lang/String;"⟩ : MethodName)) hown1406 (mvT hZ1406 (hw _ (List.mem_of_getElem? (i := 7) rfl))) (mvT hZ1406 (hw _ (List.mem_of_getElem? (i := 8) rfl))) (mvT hZ1406 (hw _ (List.mem_of_getElem? (i := 2) rfl))) (mvT hZ1406 (hw _ (List.mem_of_getElem? (i := 9) rfl))) (by decide) (backOf (W := 0) (own_rmSN l Z av hw [] p5 ((p4.toUInt32 >>> ((16 : Int32) &&& 31).toUInt32).toInt32) T1568.heap n0 z1589 (hc1600)) hZ1406 (hw _ (List.mem_of_getElem? (i := 9) rfl)) (hw _ (List.mem_of_getElem? (i := 2) rfl)) (by decide) (by decide)) (g := (mkF m 102 #[.val (.int p0), .val (.int p1), .val (.int p2), .val (.int p3), .val (.int p4), .val (.int p5), .val (.ref r961), .val (.ref b1407), .val (.ref b1472), .val .null, .val (.ref b1544), .val (.int (1 : Int32)), .unset] [(.int ((p4.toUInt32 >>> ((16 : Int32) &&& 31).toUInt32).toInt32)), (.int p5)])) rfl (by rw [hml]; rfl) (argsL := [(.int p5), (.int ((p4.toUInt32 >>> ((16 : Int32) &&& 31).toUInt32).toInt32))]) (rest := []) (lenOf own_pd12 rfl) rfl (by show 2 * 0 + _ ≤ _; exact Nat.le_of_eq rfl) (hb hby at_102) (fun _ _ => ⟨rfl, e1596, (by decide : 17 + 0 ≤ _), (by decide : 80 + 0 ≤ _)⟩)
            dsimp only [Pt.U, Pt.locs, Pt.cells, Pt.slots] at X1601 l1601 y1601 z1601 st1601 hQ1601
            subst l1601 y1601 z1601
            obtain ⟨rfl, N1601q, e1603⟩ := hQ1601
            have N1602 := Fr.app N1595 N1601q
            obtain ⟨T1604, h1604, X1604, e1604, W1604, st1604⟩ := putF X1601 hx hZ1406 hown1406 (host := "") (Or.inl (hw _ (List.mem_of_getElem? (i := 164) rfl))) Via.refl e1603 f1585 f1584 (Or.inl (hw _ (List.mem_of_getElem? (i := 165) rfl))) (hw _ (List.mem_of_getElem? (i := 83) rfl)) (ty := (.object "java/lang/String")) (by decide) rfl rfl (g := (mkF m 111 #[.val (.int p0), .val (.int p1), .val (.int p2), .val (.int p3), .val (.int p4), .val (.int p5), .val (.ref r961), .val (.ref b1407), .val (.ref b1472), .val .null, .val (.ref b1544), .val (.int (1 : Int32)), .val .null] [.null, (.ref b1472)])) rfl rfl (hb hby at_111)
            have f1605 := f1572.wr W1604
            have f1606 := f1573.wr W1604
            have f1607 := f1574.wr W1604
            have f1608 := f1575.wr W1604
            have f1609 := f1576.wr W1604
            have f1610 := f1577.wr W1604
            have f1611 := f1578.wr W1604
            have f1612 := f1579.wr W1604
            have f1613 := f1580.wr W1604
            have f1614 := f1581.wr W1604
            have f1615 := f1582.wr W1604
            have f1616 := Safe.wr W1604 f1583 CH1587.1 f1583
            have f1617 := f1584.wr W1604
            have f1618 := Safe.wr W1604 f1583 CH1587.1 f1586
            have f1619 := f1570.wr W1604
            have f1620 := f1571.other W1604 (Or.inl (Ne.symm ne_b1472_b1544))
            have CH1621 := CHr.trans CH1587 (CHr.wr W1604 f1583 CH1587.1)
            have K1622 : Keep h0 h1604 [] := K1588.wr W1604 (Or.inr sz_b1472)
            have z1623 : n0 ≤ h1604.size := Nat.le_trans z1589 (Keep.of_wr W1604).1
            have hk1624 := Nat.le_trans hk1590 (Keep.of_wr W1604).1
            have N1625 := Fr.snoc X1604 N1602 g_b1472
            have f1626 : Fld Z h1604 b1472 "com/example/thyme/thyme/lang/Symbols$Locals" "instance" "Ljava/lang/String;" .null := f1585.same W1604
            obtain ⟨cq1627, kq1627, q1627a, q1627b, q1627c⟩ := isOf hZ1406 e1604 f1619
            obtain ⟨_, _, ⟨T1627, L1627, k1627, n1627⟩, -, X1627, ⟨Lc1627, hQ1627, l1627, y1627, z1627⟩, st1627⟩ := X1604.virtualBack hx (y := (⟨"com/example/thyme/thyme/lang/ExpressionResolver$Scope", "instance", "()Ljava/lang/String;"⟩ : MethodName)) (z := (⟨"com/example/thyme/thyme/lang/ExpressionResolver$Scope", "instance", "()Ljava/lang/String;"⟩ : MethodName)) hown1406 (mvT hZ1406 (hw _ (List.mem_of_getElem? (i := 58) rfl))) (mvT hZ1406 (hw _ (List.mem_of_getElem? (i := 59) rfl))) (notFace_of_selects (args := #[]) (mvT hZ1406 (hw _ (List.mem_of_getElem? (i := 61) rfl)))) (mvT hZ1406 (hw _ (List.mem_of_getElem? (i := 61) rfl))) (mvT hZ1406 (hw _ (List.mem_of_getElem? (i := 60) rfl))) (by decide) (backOf (W := 0) (own_rmSi1 l Z av hw [] b1544 (b1472) h1604 n0 z1623 f1620 f1626) hZ1406 (hw _ (List.mem_of_getElem? (i := 62) rfl)) (hw _ (List.mem_of_getElem? (i := 42) rfl)) (by decide) (by decide)) q1627a q1627c (g := (mkF m 121 #[.val (.int p0), .val (.int p1), .val (.int p2), .val (.int p3), .val (.int p4), .val (.int p5), .val (.ref r961), .val (.ref b1407), .val (.ref b1472), .val .null, .val (.ref b1544), .val (.int (1 : Int32)), .val .null] [(.ref b1544)])) rfl (by rw [hml]; rfl) (Steps.refl _) (argsL := []) (rest := []) (lenOf own_pd14 rfl) rfl (by show 2 * 0 + _ ≤ _; exact Nat.le_of_eq rfl) (hb hby at_121) (fun _ _ => ⟨rfl, e1604, (by decide : 17 + 0 ≤ _), (by decide : 80 + 0 ≤ _)⟩)
            dsimp only [Pt.U, Pt.locs, Pt.cells, Pt.slots] at X1627 l1627 y1627 z1627 st1627 hQ1627
            subst l1627 y1627 z1627
            obtain ⟨rfl, N1627q, e1629⟩ := hQ1627
            have N1628 := Fr.app N1625 N1627q
            obtain ⟨_, _, ⟨T1630, L1630, k1630, n1630⟩, -, X1630, ⟨Lc1630, hQ1630, l1630, y1630, z1630⟩, st1630⟩ := Jvm.LawKit.callS X1627 hx (y := (⟨"com/example/thyme/thyme/lang/ScopeInstancePinLaw", "same", "(Ljava/lang/String;Ljava/lang/String;)Z"⟩ : MethodName)) hown1406 (mvT hZ1406 (hw _ (List.mem_of_getElem? (i := 63) rfl))) (mvT hZ1406 (hw _ (List.mem_of_getElem? (i := 64) rfl))) (mvT hZ1406 (hw _ (List.mem_of_getElem? (i := 2) rfl))) (mvT hZ1406 (hw _ (List.mem_of_getElem? (i := 65) rfl))) (by decide) (backOf (W := 0) (own_rmPN l Z av hw []  h1604 n0 z1623 ) hZ1406 (hw _ (List.mem_of_getElem? (i := 65) rfl)) (hw _ (List.mem_of_getElem? (i := 2) rfl)) (by decide) (by decide)) (g := (mkF m 126 #[.val (.int p0), .val (.int p1), .val (.int p2), .val (.int p3), .val (.int p4), .val (.int p5), .val (.ref r961), .val (.ref b1407), .val (.ref b1472), .val .null, .val (.ref b1544), .val (.int (1 : Int32)), .val .null] [.null, .null])) rfl (by rw [hml]; rfl) (argsL := [.null, .null]) (rest := []) (lenOf own_pd15 rfl) rfl (by show 2 * 0 + _ ≤ _; exact Nat.le_of_eq rfl) (hb hby at_126) (fun _ _ => ⟨rfl, e1629, (by decide : 17 + 0 ≤ _), (by decide : 80 + 0 ≤ _)⟩)
            dsimp only [Pt.U, Pt.locs, Pt.cells, Pt.slots] at X1630 l1630 y1630 z1630 st1630 hQ1630
            subst l1630 y1630 z1630
            obtain ⟨rfl, N1630q, e1632⟩ := hQ1630
            have N1631 := Fr.app N1628 N1630q
            obtain ⟨fs, hr, hrun, hended, hR1, hR2, hR3, hR4⟩ := Stand.leaveW (s := s) (vm₁ := T1406.vm) X1630 hS1406 (by rw [e1632]; exact hk1624) (v := some (.int (1 : Int32))) (fun h => by rw [Bd.returns] at h; cases h)
            refine ⟨_, _, pre1599 _ ?_, hrun, hended, _, _, rfl, ?_, (by show CHr Z own_EL s.vm s.heap T1630.vm T1630.heap; rw [hh, e1632]; exact CHr.trans CH1621 (CHv.at (s := s) (vm0 := T1406.vm) X1630 hZ1406 hEL CH1621.1)), hR1, hR2, hR3, hR4.mono (by decide) (by decide)⟩
            · show Steps p.tables e below (T1594.setTop (mkF m 102 #[.val (.int p0), .val (.int p1), .val (.int p2), .val (.int p3), .val (.int p4), .val (.int p5), .val (.ref r961), .val (.ref b1407), .val (.ref b1472), .val .null, .val (.ref b1544), .val (.int (1 : Int32)), .unset] [(.int ((p4.toUInt32 >>> ((16 : Int32) &&& 31).toUInt32).toInt32)), (.int p5)])) _
              refine st1601 _ ?_
              show Steps p.tables e below (T1601.setTop (mkF m 105 #[.val (.int p0), .val (.int p1), .val (.int p2), .val (.int p3), .val (.int p4), .val (.int p5), .val (.ref r961), .val (.ref b1407), .val (.ref b1472), .val .null, .val (.ref b1544), .val (.int (1 : Int32)), .unset] [.null])) _
              refine XS.astore X1601.here hx rfl (hb hby at_105) rfl rfl (l' := #[.val (.int p0), .val (.int p1), .val (.int p2), .val (.int p3), .val (.int p4), .val (.int p5), .val (.ref r961), .val (.ref b1407), .val (.ref b1472), .val .null, .val (.ref b1544), .val (.int (1 : Int32)), .val .null]) rfl ?_
              show Steps p.tables e below (T1601.setTop (mkF m 107 #[.val (.int p0), .val (.int p1), .val (.int p2), .val (.int p3), .val (.int p4), .val (.int p5), .val (.ref r961), .val (.ref b1407), .val (.ref b1472), .val .null, .val (.ref b1544), .val (.int (1 : Int32)), .val .null] [])) _
              refine XS.aload X1601.here hx rfl (hb hby at_107) rfl rfl ?_
              show Steps p.tables e below (T1601.setTop (mkF m 109 #[.val (.int p0), .val (.int p1), .val (.int p2), .val (.int p3), .val (.int p4), .val (.int p5), .val (.ref r961), .val (.ref b1407), .val (.ref b1472), .val .null, .val (.ref b1544), .val (.int (1 : Int32)), .val .null] [(.ref b1472)])) _
              refine XS.aload X1601.here hx rfl (hb hby at_109) rfl rfl ?_
              show Steps p.tables e below (T1601.setTop (mkF m 111 #[.val (.int p0), .val (.int p1), .val (.int p2), .val (.int p3), .val (.int p4), .val (.int p5), .val (.ref r961), .val (.ref b1407), .val (.ref b1472), .val .null, .val (.ref b1544), .val (.int (1 : Int32)), .val .null] [.null, (.ref b1472)])) _
              refine st1604 _ ?_
              show Steps p.tables e below (T1604.setTop (mkF m 114 #[.val (.int p0), .val (.int p1), .val (.int p2), .val (.int p3), .val (.int p4), .val (.int p5), .val (.ref r961), .val (.ref b1407), .val (.ref b1472), .val .null, .val (.ref b1544), .val (.int (1 : Int32)), .val .null] [])) _
              refine XS.iload X1604.here hx rfl (hb hby at_114) rfl ?_
              show Steps p.tables e below (T1604.setTop (mkF m 116 #[.val (.int p0), .val (.int p1), .val (.int p2), .val (.int p3), .val (.int p4), .val (.int p5), .val (.ref r961), .val (.ref b1407), .val (.ref b1472), .val .null, .val (.ref b1544), .val (.int (1 : Int32)), .val .null] [(.int (1 : Int32))])) _
              refine XS.ifNo X1604.here hx rfl (hb hby at_116) rfl ((if0 _ _).trans (feq (by decide : ¬ ((1 : Int32) = (0 : Int32)))).1) ?_
              show Steps p.tables e below (T1604.setTop (mkF m 119 #[.val (.int p0), .val (.int p1), .val (.int p2), .val (.int p3), .val (.int p4), .val (.int p5), .val (.ref r961), .val (.ref b1407), .val (.ref b1472), .val .null, .val (.ref b1544), .val (.int (1 : Int32)), .val .null] [])) _
              refine XS.aload X1604.here hx rfl (hb hby at_119) rfl rfl ?_
              show Steps p.tables e below (T1604.setTop (mkF m 121 #[.val (.int p0), .val (.int p1), .val (.int p2), .val (.int p3), .val (.int p4), .val (.int p5), .val (.ref r961), .val (.ref b1407), .val (.ref b1472), .val .null, .val (.ref b1544), .val (.int (1 : Int32)), .val .null] [(.ref b1544)])) _
              refine st1627.trans ?_
              show Steps p.tables e below (T1627.setTop (mkF m 124 #[.val (.int p0), .val (.int p1), .val (.int p2), .val (.int p3), .val (.int p4), .val (.int p5), .val (.ref r961), .val (.ref b1407), .val (.ref b1472), .val .null, .val (.ref b1544), .val (.int (1 : Int32)), .val .null] [.null])) _
              refine XS.aload X1627.here hx rfl (hb hby at_124) rfl rfl ?_
              show Steps p.tables e below (T1627.setTop (mkF m 126 #[.val (.int p0), .val (.int p1), .val (.int p2), .val (.int p3), .val (.int p4), .val (.int p5), .val (.ref r961), .val (.ref b1407), .val (.ref b1472), .val .null, .val (.ref b1544), .val (.int (1 : Int32)), .val .null] [.null, .null])) _
              refine st1630 _ ?_
              show Steps p.tables e below (T1630.setTop (mkF m 129 #[.val (.int p0), .val (.int p1), .val (.int p2), .val (.int p3), .val (.int p4), .val (.int p5), .val (.ref r961), .val (.ref b1407), .val (.ref b1472), .val .null, .val (.ref b1544), .val (.int (1 : Int32)), .val .null] [(.int (1 : Int32))])) _
              refine XS.ifNo X1630.here hx rfl (hb hby at_129) rfl ((if0 _ _).trans (feq (by decide : ¬ ((1 : Int32) = (0 : Int32)))).1) ?_
              show Steps p.tables e below (T1630.setTop (mkF m 132 #[.val (.int p0), .val (.int p1), .val (.int p2), .val (.int p3), .val (.int p4), .val (.int p5), .val (.ref r961), .val (.ref b1407), .val (.ref b1472), .val .null, .val (.ref b1544), .val (.int (1 : Int32)), .val .null] [])) _
              refine XS.iconst X1630.here hx rfl (hb hby at_132) ?_
              show Steps p.tables e below (T1630.setTop (mkF m 133 #[.val (.int p0), .val (.int p1), .val (.int p2), .val (.int p3), .val (.int p4), .val (.int p5), .val (.ref r961), .val (.ref b1407), .val (.ref b1472), .val .null, .val (.ref b1544), .val (.int (1 : Int32)), .val .null] [(.int (1 : Int32))])) _
              refine XS.goto X1630.here hx rfl (pc0 := 133) (pc' := 137) rfl (hb hby at_133) (by decide) (by decide) ?_
              show Steps p.tables e below (T1630.setTop (mkF m 137 #[.val (.int p0), .val (.int p1), .val (.int p2), .val (.int p3), .val (.int p4), .val (.int p5), .val (.ref r961), .val (.ref b1407), .val (.ref b1472), .val .null, .val (.ref b1544), .val (.int (1 : Int32)), .val .null] [(.int (1 : Int32))])) _
              refine XS.istore X1630.here hx rfl (hb hby at_137) rfl (l' := #[.val (.int p0), .val (.int p1), .val (.int p2), .val (.int p3), .val (.int p4), .val (.int p5), .val (.ref r961), .val (.ref b1407), .val (.ref b1472), .val .null, .val (.ref b1544), .val (.int (1 : Int32)), .val .null]) rfl ?_
              show Steps p.tables e below (T1630.setTop (mkF m 139 #[.val (.int p0), .val (.int p1), .val (.int p2), .val (.int p3), .val (.int p4), .val (.int p5), .val (.ref r961), .val (.ref b1407), .val (.ref b1472), .val .null, .val (.ref b1544), .val (.int (1 : Int32)), .val .null] [])) _
              refine XS.iload X1630.here hx rfl (hb hby at_139) rfl ?_
              show Steps p.tables e below (T1630.setTop (mkF m 141 #[.val (.int p0), .val (.int p1), .val (.int p2), .val (.int p3), .val (.int p4), .val (.int p5), .val (.ref r961), .val (.ref b1407), .val (.ref b1472), .val .null, .val (.ref b1544), .val (.int (1 : Int32)), .val .null] [(.int (1 : Int32))])) _
              exact retN X1630 hx (t := .boolean) Bd.returns (by simp) (hb hby at_141) hr
            · show own_Q0 Z p0 p1 p2 p3 p4 p5 x0 x1 x2 x3 x4 x5 x6 x7 cs ed h0 n0 _ T1630.heap _
              rw [e1632]
              exact ⟨rfl, N1631⟩
          · obtain ⟨_, _, ⟨T1633, L1633, k1633, n1633⟩, -, Y1633, hSa1633, gle1633, ⟨Lc1633, hQ1633, l1633, y1633, z1633, A1633⟩, st1633⟩ := callSS X1594 hx (y := (⟨"com/example/thyme/thyme/lang/ScopeInstancePinLaw", "str", "(II)Ljava/lang/String;"⟩ : MethodName)) hown1406 (mvT hZ1406 (hw _ (List.mem_of_getElem? (i := 7) rfl))) (mvT hZ1406 (hw _ (List.mem_of_getElem? (i := 8) rfl))) (mvT hZ1406 (hw _ (List.mem_of_getElem? (i := 2) rfl))) (mvT hZ1406 (hw _ (List.mem_of_getElem? (i := 9) rfl))) (by decide) (own_backSH (s := s) (vm0 := T1406.vm) (W := 0) (xs := []) (own_rmSS l Z av hw [] p5 ((p4.toUInt32 >>> ((16 : Int32) &&& 31).toUInt32).toInt32) (cs) T1568.heap n0 z1589 f1580 (hc1600) (hcs)) hZ1406 (hw _ (List.mem_of_getElem? (i := 9) rfl)) (hw _ (List.mem_of_getElem? (i := 2) rfl)) (by decide) (by decide) hEL CH1587.1 own_sl0) (g := (mkF m 102 #[.val (.int p0), .val (.int p1), .val (.int p2), .val (.int p3), .val (.int p4), .val (.int p5), .val (.ref r961), .val (.ref b1407), .val (.ref b1472), .val .null, .val (.ref b1544), .val (.int (1 : Int32)), .unset] [(.int ((p4.toUInt32 >>> ((16 : Int32) &&& 31).toUInt32).toInt32)), (.int p5)])) rfl (by rw [hml]; rfl) (argsL := [(.int p5), (.int ((p4.toUInt32 >>> ((16 : Int32) &&& 31).toUInt32).toInt32))]) (rest := []) (lenOf own_pd12 rfl) rfl (by show 2 * 0 + _ ≤ _; exact Nat.le_of_eq rfl) (hb hby at_102) (fun _ _ => ⟨rfl, e1596, (by decide : 17 + 6 ≤ _), (by decide : 80 + 12 ≤ _)⟩)
            dsimp only [Pt.U, Pt.locs, Pt.cells, Pt.slots] at Y1633 hSa1633 gle1633 l1633 y1633 z1633 st1633 hQ1633 A1633
            subst l1633 y1633 z1633
            obtain ⟨X1633, hS1633, hZ1633, hown1633⟩ := rebS (s := s) (vm0 := T1406.vm) hS1406 (show _ ≤ T1594.heap.size from (by rw [e1596]; exact hk1590)) Y1633 hSa1633 gle1633 hZ1406 hown1406
            obtain ⟨b1634, rfl, N1633q, K1633, g_b1634, sz1633_b1634, f1636⟩ := hQ1633
            have ne_b1407_b1634 : b1407 ≠ b1634 := Nat.ne_of_lt (Nat.lt_of_lt_of_le f1582.lt sz1633_b1634)
            have ne_b1472_b1634 : b1472 ≠ b1634 := Nat.ne_of_lt (Nat.lt_of_lt_of_le f1584.lt sz1633_b1634)
            have ne_b1544_b1634 : b1544 ≠ b1634 := Nat.ne_of_lt (Nat.lt_of_lt_of_le f1570.lt sz1633_b1634)
            have sz_b1634 : h0.size ≤ b1634 := Nat.le_trans K1588.1 sz1633_b1634
            have f1637 := own_staKeep f1572 K1633 all0
            have f1638 := own_staKeep f1573 K1633 all0
            have f1639 := own_staKeep f1574 K1633 all0
            have f1640 := own_staKeep f1575 K1633 all0
            have f1641 := own_staKeep f1576 K1633 all0
            have f1642 := own_staKeep f1577 K1633 all0
            have f1643 := own_staKeep f1578 K1633 all0
            have f1644 := own_staKeep f1579 K1633 all0
            have f1645 := own_staKeep f1580 K1633 all0
            have f1646 := own_staKeep f1581 K1633 all0
            have f1647 := f1582.keep K1633
            have f1648 := CHr.safe A1633 f1584.lt f1583
            have f1649 := f1584.keep K1633
            have f1650 := f1585.keep K1633 nin0
            have f1651 := CHr.safe A1633 f1570.lt f1586
            have f1652 := f1570.keep K1633
            have f1653 := f1571.keep K1633 nin0
            have CH1654 := CHr.trans CH1587 A1633
            have K1655 : Keep h0 T1633.heap [] := K1588.trans K1633 all0
            have z1656 : n0 ≤ T1633.heap.size := Nat.le_trans z1589 K1633.1
            have N1635 := Fr.app N1595 N1633q
            obtain ⟨T1657, h1657, X1657, e1657, W1657, st1657⟩ := putF X1633 hx hZ1633 hown1633 (host := "") (Or.inl (hw _ (List.mem_of_getElem? (i := 164) rfl))) Via.refl rfl f1650 f1649 (Or.inl (hw _ (List.mem_of_getElem? (i := 165) rfl))) (hw _ (List.mem_of_getElem? (i := 83) rfl)) (ty := (.object "java/lang/String")) (by decide) rfl rfl (g := (mkF m 111 #[.val (.int p0), .val (.int p1), .val (.int p2), .val (.int p3), .val (.int p4), .val (.int p5), .val (.ref r961), .val (.ref b1407), .val (.ref b1472), .val .null, .val (.ref b1544), .val (.int (1 : Int32)), .val (.ref b1634)] [(.ref b1634), (.ref b1472)])) rfl rfl (hb hby at_111)
            have f1658 := f1637.wr W1657
            have f1659 := f1638.wr W1657
            have f1660 := f1639.wr W1657
            have f1661 := f1640.wr W1657
            have f1662 := f1641.wr W1657
            have f1663 := f1642.wr W1657
            have f1664 := f1643.wr W1657
            have f1665 := f1644.wr W1657
            have f1666 := f1645.wr W1657
            have f1667 := f1646.wr W1657
            have f1668 := f1647.wr W1657
            have f1669 := Safe.wr W1657 f1648 CH1654.1 f1648
            have f1670 := f1649.wr W1657
            have f1671 := Safe.wr W1657 f1648 CH1654.1 f1651
            have f1672 := f1652.wr W1657
            have f1673 := f1653.other W1657 (Or.inl (Ne.symm ne_b1472_b1544))
            have f1674 := f1636.wr W1657
            have CH1675 := CHr.trans CH1654 (CHr.wr W1657 f1648 CH1654.1)
            have K1676 : Keep h0 h1657 [] := K1655.wr W1657 (Or.inr sz_b1472)
            have z1677 : n0 ≤ h1657.size := Nat.le_trans z1656 (Keep.of_wr W1657).1
            have hk1678 := Nat.le_trans (Nat.le_refl T1633.heap.size) (Keep.of_wr W1657).1
            have N1679 := Fr.snoc X1657 N1635 g_b1472
            have f1680 : Fld Z h1657 b1472 "com/example/thyme/thyme/lang/Symbols$Locals" "instance" "Ljava/lang/String;" (.ref b1634) := f1650.same W1657
            obtain ⟨cq1681, kq1681, q1681a, q1681b, q1681c⟩ := isOf hZ1633 e1657 f1672
            obtain ⟨_, _, ⟨T1681, L1681, k1681, n1681⟩, -, X1681, ⟨Lc1681, hQ1681, l1681, y1681, z1681⟩, st1681⟩ := X1657.virtualBack hx (y := (⟨"com/example/thyme/thyme/lang/ExpressionResolver$Scope", "instance", "()Ljava/lang/String;"⟩ : MethodName)) (z := (⟨"com/example/thyme/thyme/lang/ExpressionResolver$Scope", "instance", "()Ljava/lang/String;"⟩ : MethodName)) hown1633 (mvT hZ1633 (hw _ (List.mem_of_getElem? (i := 58) rfl))) (mvT hZ1633 (hw _ (List.mem_of_getElem? (i := 59) rfl))) (notFace_of_selects (args := #[]) (mvT hZ1633 (hw _ (List.mem_of_getElem? (i := 61) rfl)))) (mvT hZ1633 (hw _ (List.mem_of_getElem? (i := 61) rfl))) (mvT hZ1633 (hw _ (List.mem_of_getElem? (i := 60) rfl))) (by decide) (backOf (W := 0) (own_rmSi2 l Z av hw [] b1544 (b1472) (b1634) h1657 n0 z1677 f1673 f1680) hZ1633 (hw _ (List.mem_of_getElem? (i := 62) rfl)) (hw _ (List.mem_of_getElem? (i := 42) rfl)) (by decide) (by decide)) q1681a q1681c (g := (mkF m 121 #[.val (.int p0), .val (.int p1), .val (.int p2), .val (.int p3), .val (.int p4), .val (.int p5), .val (.ref r961), .val (.ref b1407), .val (.ref b1472), .val .null, .val (.ref b1544), .val (.int (1 : Int32)), .val (.ref b1634)] [(.ref b1544)])) rfl (by rw [hml]; rfl) (Steps.refl _) (argsL := []) (rest := []) (lenOf own_pd14 rfl) rfl (by show 2 * 0 + _ ≤ _; exact Nat.le_of_eq rfl) (hb hby at_121) (fun _ _ => ⟨rfl, e1657, (by decide : 23 + 0 ≤ _), (by decide : 92 + 0 ≤ _)⟩)
            dsimp only [Pt.U, Pt.locs, Pt.cells, Pt.slots] at X1681 l1681 y1681 z1681 st1681 hQ1681
            subst l1681 y1681 z1681
            obtain ⟨rfl, N1681q, e1683⟩ := hQ1681
            have N1682 := Fr.app N1679 N1681q
            obtain ⟨_, _, ⟨T1684, L1684, k1684, n1684⟩, -, X1684, ⟨Lc1684, hQ1684, l1684, y1684, z1684⟩, st1684⟩ := Jvm.LawKit.callS X1681 hx (y := (⟨"com/example/thyme/thyme/lang/ScopeInstancePinLaw", "same", "(Ljava/lang/String;Ljava/lang/String;)Z"⟩ : MethodName)) hown1633 (mvT hZ1633 (hw _ (List.mem_of_getElem? (i := 63) rfl))) (mvT hZ1633 (hw _ (List.mem_of_getElem? (i := 64) rfl))) (mvT hZ1633 (hw _ (List.mem_of_getElem? (i := 2) rfl))) (mvT hZ1633 (hw _ (List.mem_of_getElem? (i := 65) rfl))) (by decide) (backOf (W := 0) (own_rmPS l Z av hw [] b1634 b1634 h1657 n0 z1677 f1674 (rfl)) hZ1633 (hw _ (List.mem_of_getElem? (i := 65) rfl)) (hw _ (List.mem_of_getElem? (i := 2) rfl)) (by decide) (by decide)) (g := (mkF m 126 #[.val (.int p0), .val (.int p1), .val (.int p2), .val (.int p3), .val (.int p4), .val (.int p5), .val (.ref r961), .val (.ref b1407), .val (.ref b1472), .val .null, .val (.ref b1544), .val (.int (1 : Int32)), .val (.ref b1634)] [(.ref b1634), (.ref b1634)])) rfl (by rw [hml]; rfl) (argsL := [(.ref b1634), (.ref b1634)]) (rest := []) (lenOf own_pd15 rfl) rfl (by show 2 * 0 + _ ≤ _; exact Nat.le_of_eq rfl) (hb hby at_126) (fun _ _ => ⟨rfl, e1683, (by decide : 23 + 0 ≤ _), (by decide : 92 + 0 ≤ _)⟩)
            dsimp only [Pt.U, Pt.locs, Pt.cells, Pt.slots] at X1684 l1684 y1684 z1684 st1684 hQ1684
            subst l1684 y1684 z1684
            obtain ⟨rfl, N1684q, e1686⟩ := hQ1684
            have N1685 := Fr.app N1682 N1684q
            obtain ⟨fs, hr, hrun, hended, hR1, hR2, hR3, hR4⟩ := Stand.leaveW (s := s) (vm₁ := T1633.vm) X1684 hS1633 (by rw [e1686]; exact hk1678) (v := some (.int (1 : Int32))) (fun h => by rw [Bd.returns] at h; cases h)
            refine ⟨_, _, pre1599 _ ?_, hrun, hended, _, _, rfl, ?_, (by show CHr Z own_EL s.vm s.heap T1684.vm T1684.heap; rw [hh, e1686]; exact CHr.trans CH1675 (CHv.at (s := s) (vm0 := T1633.vm) X1684 hZ1633 hEL CH1675.1)), hR1, hR2, hR3, hR4.mono (by decide) (by decide)⟩
            · show Steps p.tables e below (T1594.setTop (mkF m 102 #[.val (.int p0), .val (.int p1), .val (.int p2), .val (.int p3), .val (.int p4), .val (.int p5), .val (.ref r961), .val (.ref b1407), .val (.ref b1472), .val .null, .val (.ref b1544), .val (.int (1 : Int32)), .unset] [(.int ((p4.toUInt32 >>> ((16 : Int32) &&& 31).toUInt32).toInt32)), (.int p5)])) _
              refine st1633.trans ?_
              show Steps p.tables e below (T1633.setTop (mkF m 105 #[.val (.int p0), .val (.int p1), .val (.int p2), .val (.int p3), .val (.int p4), .val (.int p5), .val (.ref r961), .val (.ref b1407), .val (.ref b1472), .val .null, .val (.ref b1544), .val (.int (1 : Int32)), .unset] [(.ref b1634)])) _
              refine XS.astore X1633.here hx rfl (hb hby at_105) rfl rfl (l' := #[.val (.int p0), .val (.int p1), .val (.int p2), .val (.int p3), .val (.int p4), .val (.int p5), .val (.ref r961), .val (.ref b1407), .val (.ref b1472), .val .null, .val (.ref b1544), .val (.int (1 : Int32)), .val (.ref b1634)]) rfl ?_
              show Steps p.tables e below (T1633.setTop (mkF m 107 #[.val (.int p0), .val (.int p1), .val (.int p2), .val (.int p3), .val (.int p4), .val (.int p5), .val (.ref r961), .val (.ref b1407), .val (.ref b1472), .val .null, .val (.ref b1544), .val (.int (1 : Int32)), .val (.ref b1634)] [])) _
              refine XS.aload X1633.here hx rfl (hb hby at_107) rfl rfl ?_
              show Steps p.tables e below (T1633.setTop (mkF m 109 #[.val (.int p0), .val (.int p1), .val (.int p2), .val (.int p3), .val (.int p4), .val (.int p5), .val (.ref r961), .val (.ref b1407), .val (.ref b1472), .val .null, .val (.ref b1544), .val (.int (1 : Int32)), .val (.ref b1634)] [(.ref b1472)])) _
              refine XS.aload X1633.here hx rfl (hb hby at_109) rfl rfl ?_
              show Steps p.tables e below (T1633.setTop (mkF m 111 #[.val (.int p0), .val (.int p1), .val (.int p2), .val (.int p3), .val (.int p4), .val (.int p5), .val (.ref r961), .val (.ref b1407), .val (.ref b1472), .val .null, .val (.ref b1544), .val (.int (1 : Int32)), .val (.ref b1634)] [(.ref b1634), (.ref b1472)])) _
              refine st1657 _ ?_
              show Steps p.tables e below (T1657.setTop (mkF m 114 #[.val (.int p0), .val (.int p1), .val (.int p2), .val (.int p3), .val (.int p4), .val (.int p5), .val (.ref r961), .val (.ref b1407), .val (.ref b1472), .val .null, .val (.ref b1544), .val (.int (1 : Int32)), .val (.ref b1634)] [])) _
              refine XS.iload X1657.here hx rfl (hb hby at_114) rfl ?_
              show Steps p.tables e below (T1657.setTop (mkF m 116 #[.val (.int p0), .val (.int p1), .val (.int p2), .val (.int p3), .val (.int p4), .val (.int p5), .val (.ref r961), .val (.ref b1407), .val (.ref b1472), .val .null, .val (.ref b1544), .val (.int (1 : Int32)), .val (.ref b1634)] [(.int (1 : Int32))])) _
              refine XS.ifNo X1657.here hx rfl (hb hby at_116) rfl ((if0 _ _).trans (feq (by decide : ¬ ((1 : Int32) = (0 : Int32)))).1) ?_
              show Steps p.tables e below (T1657.setTop (mkF m 119 #[.val (.int p0), .val (.int p1), .val (.int p2), .val (.int p3), .val (.int p4), .val (.int p5), .val (.ref r961), .val (.ref b1407), .val (.ref b1472), .val .null, .val (.ref b1544), .val (.int (1 : Int32)), .val (.ref b1634)] [])) _
              refine XS.aload X1657.here hx rfl (hb hby at_119) rfl rfl ?_
              show Steps p.tables e below (T1657.setTop (mkF m 121 #[.val (.int p0), .val (.int p1), .val (.int p2), .val (.int p3), .val (.int p4), .val (.int p5), .val (.ref r961), .val (.ref b1407), .val (.ref b1472), .val .null, .val (.ref b1544), .val (.int (1 : Int32)), .val (.ref b1634)] [(.ref b1544)])) _
              refine st1681.trans ?_
              show Steps p.tables e below (T1681.setTop (mkF m 124 #[.val (.int p0), .val (.int p1), .val (.int p2), .val (.int p3), .val (.int p4), .val (.int p5), .val (.ref r961), .val (.ref b1407), .val (.ref b1472), .val .null, .val (.ref b1544), .val (.int (1 : Int32)), .val (.ref b1634)] [(.ref b1634)])) _
              refine XS.aload X1681.here hx rfl (hb hby at_124) rfl rfl ?_
              show Steps p.tables e below (T1681.setTop (mkF m 126 #[.val (.int p0), .val (.int p1), .val (.int p2), .val (.int p3), .val (.int p4), .val (.int p5), .val (.ref r961), .val (.ref b1407), .val (.ref b1472), .val .null, .val (.ref b1544), .val (.int (1 : Int32)), .val (.ref b1634)] [(.ref b1634), (.ref b1634)])) _
              refine st1684 _ ?_
              show Steps p.tables e below (T1684.setTop (mkF m 129 #[.val (.int p0), .val (.int p1), .val (.int p2), .val (.int p3), .val (.int p4), .val (.int p5), .val (.ref r961), .val (.ref b1407), .val (.ref b1472), .val .null, .val (.ref b1544), .val (.int (1 : Int32)), .val (.ref b1634)] [(.int (1 : Int32))])) _
              refine XS.ifNo X1684.here hx rfl (hb hby at_129) rfl ((if0 _ _).trans (feq (by decide : ¬ ((1 : Int32) = (0 : Int32)))).1) ?_
              show Steps p.tables e below (T1684.setTop (mkF m 132 #[.val (.int p0), .val (.int p1), .val (.int p2), .val (.int p3), .val (.int p4), .val (.int p5), .val (.ref r961), .val (.ref b1407), .val (.ref b1472), .val .null, .val (.ref b1544), .val (.int (1 : Int32)), .val (.ref b1634)] [])) _
              refine XS.iconst X1684.here hx rfl (hb hby at_132) ?_
              show Steps p.tables e below (T1684.setTop (mkF m 133 #[.val (.int p0), .val (.int p1), .val (.int p2), .val (.int p3), .val (.int p4), .val (.int p5), .val (.ref r961), .val (.ref b1407), .val (.ref b1472), .val .null, .val (.ref b1544), .val (.int (1 : Int32)), .val (.ref b1634)] [(.int (1 : Int32))])) _
              refine XS.goto X1684.here hx rfl (pc0 := 133) (pc' := 137) rfl (hb hby at_133) (by decide) (by decide) ?_
              show Steps p.tables e below (T1684.setTop (mkF m 137 #[.val (.int p0), .val (.int p1), .val (.int p2), .val (.int p3), .val (.int p4), .val (.int p5), .val (.ref r961), .val (.ref b1407), .val (.ref b1472), .val .null, .val (.ref b1544), .val (.int (1 : Int32)), .val (.ref b1634)] [(.int (1 : Int32))])) _
              refine XS.istore X1684.here hx rfl (hb hby at_137) rfl (l' := #[.val (.int p0), .val (.int p1), .val (.int p2), .val (.int p3), .val (.int p4), .val (.int p5), .val (.ref r961), .val (.ref b1407), .val (.ref b1472), .val .null, .val (.ref b1544), .val (.int (1 : Int32)), .val (.ref b1634)]) rfl ?_
              show Steps p.tables e below (T1684.setTop (mkF m 139 #[.val (.int p0), .val (.int p1), .val (.int p2), .val (.int p3), .val (.int p4), .val (.int p5), .val (.ref r961), .val (.ref b1407), .val (.ref b1472), .val .null, .val (.ref b1544), .val (.int (1 : Int32)), .val (.ref b1634)] [])) _
              refine XS.iload X1684.here hx rfl (hb hby at_139) rfl ?_
              show Steps p.tables e below (T1684.setTop (mkF m 141 #[.val (.int p0), .val (.int p1), .val (.int p2), .val (.int p3), .val (.int p4), .val (.int p5), .val (.ref r961), .val (.ref b1407), .val (.ref b1472), .val .null, .val (.ref b1544), .val (.int (1 : Int32)), .val (.ref b1634)] [(.int (1 : Int32))])) _
              exact retN X1684 hx (t := .boolean) Bd.returns (by simp) (hb hby at_141) hr
            · show own_Q0 Z p0 p1 p2 p3 p4 p5 x0 x1 x2 x3 x4 x5 x6 x7 cs ed h0 n0 _ T1684.heap _
              rw [e1686]
              exact ⟨rfl, N1685⟩
      · obtain ⟨_, _, ⟨T1687, L1687, k1687, n1687⟩, -, Y1687, hSa1687, gle1687, ⟨Lc1687, hQ1687, l1687, y1687, z1687, A1687⟩, st1687⟩ := callSS X1499 hx (y := (⟨"com/example/thyme/thyme/lang/ScopeInstancePinLaw", "str", "(II)Ljava/lang/String;"⟩ : MethodName)) hown1406 (mvT hZ1406 (hw _ (List.mem_of_getElem? (i := 7) rfl))) (mvT hZ1406 (hw _ (List.mem_of_getElem? (i := 8) rfl))) (mvT hZ1406 (hw _ (List.mem_of_getElem? (i := 2) rfl))) (mvT hZ1406 (hw _ (List.mem_of_getElem? (i := 9) rfl))) (by decide) (own_backSH (s := s) (vm0 := T1406.vm) (W := 0) (xs := []) (own_rmSS l Z av hw [] p3 p4 (cs) T1499.heap n0 z1517 f1511 (hc1520) (hcs)) hZ1406 (hw _ (List.mem_of_getElem? (i := 9) rfl)) (hw _ (List.mem_of_getElem? (i := 2) rfl)) (by decide) (by decide) hEL CH1515.1 own_sl0) (g := (mkF m 40 #[.val (.int p0), .val (.int p1), .val (.int p2), .val (.int p3), .val (.int p4), .val (.int p5), .val (.ref r961), .val (.ref b1407), .val (.ref b1472), .val .null, .unset, .unset, .unset] [(.int p4), (.int p3)])) rfl (by rw [hml]; rfl) (argsL := [(.int p3), (.int p4)]) (rest := []) (lenOf own_pd12 rfl) rfl (by show 2 * 0 + _ ≤ _; exact Nat.le_of_eq rfl) (hb hby at_40) (fun _ _ => ⟨rfl, rfl, (by decide : 16 + 6 ≤ _), (by decide : 77 + 12 ≤ _)⟩)
        dsimp only [Pt.U, Pt.locs, Pt.cells, Pt.slots] at Y1687 hSa1687 gle1687 l1687 y1687 z1687 st1687 hQ1687 A1687
        subst l1687 y1687 z1687
        obtain ⟨X1687, hS1687, hZ1687, hown1687⟩ := rebS (s := s) (vm0 := T1406.vm) hS1406 (show _ ≤ T1499.heap.size from hk1518) Y1687 hSa1687 gle1687 hZ1406 hown1406
        obtain ⟨b1688, rfl, N1687q, K1687, g_b1688, sz1687_b1688, f1690⟩ := hQ1687
        have ne_b1407_b1688 : b1407 ≠ b1688 := Nat.ne_of_lt (Nat.lt_of_lt_of_le f1513.lt sz1687_b1688)
        have ne_b1472_b1688 : b1472 ≠ b1688 := Nat.ne_of_lt (Nat.lt_of_lt_of_le f1501.lt sz1687_b1688)
        have sz_b1688 : h0.size ≤ b1688 := Nat.le_trans K1516.1 sz1687_b1688
        have f1691 := own_staKeep f1503 K1687 all0
        have f1692 := own_staKeep f1504 K1687 all0
        have f1693 := own_staKeep f1505 K1687 all0
        have f1694 := own_staKeep f1506 K1687 all0
        have f1695 := own_staKeep f1507 K1687 all0
        have f1696 := own_staKeep f1508 K1687 all0
        have f1697 := own_staKeep f1509 K1687 all0
        have f1698 := own_staKeep f1510 K1687 all0
        have f1699 := own_staKeep f1511 K1687 all0
        have f1700 := own_staKeep f1512 K1687 all0
        have f1701 := f1513.keep K1687
        have f1702 := CHr.safe A1687 f1501.lt f1514
        have f1703 := f1501.keep K1687
        have f1704 := f1502.keep K1687 nin0
        have CH1705 := CHr.trans CH1515 A1687
        have K1706 : Keep h0 T1687.heap [] := K1516.trans K1687 all0
        have z1707 : n0 ≤ T1687.heap.size := Nat.le_trans z1517 K1687.1
        have N1689 := Fr.app N1500 N1687q
        obtain ⟨T1708, h1708, X1708, e1708, W1708, st1708⟩ := putF X1687 hx hZ1687 hown1687 (host := "") (Or.inl (hw _ (List.mem_of_getElem? (i := 164) rfl))) Via.refl rfl f1704 f1703 (Or.inl (hw _ (List.mem_of_getElem? (i := 165) rfl))) (hw _ (List.mem_of_getElem? (i := 83) rfl)) (ty := (.object "java/lang/String")) (by decide) rfl rfl (g := (mkF m 49 #[.val (.int p0), .val (.int p1), .val (.int p2), .val (.int p3), .val (.int p4), .val (.int p5), .val (.ref r961), .val (.ref b1407), .val (.ref b1472), .val .null, .val (.ref b1688), .unset, .unset] [(.ref b1688), (.ref b1472)])) rfl rfl (hb hby at_49)
        have f1709 := f1691.wr W1708
        have f1710 := f1692.wr W1708
        have f1711 := f1693.wr W1708
        have f1712 := f1694.wr W1708
        have f1713 := f1695.wr W1708
        have f1714 := f1696.wr W1708
        have f1715 := f1697.wr W1708
        have f1716 := f1698.wr W1708
        have f1717 := f1699.wr W1708
        have f1718 := f1700.wr W1708
        have f1719 := f1701.wr W1708
        have f1720 := Safe.wr W1708 f1702 CH1705.1 f1702
        have f1721 := f1703.wr W1708
        have f1722 := f1690.wr W1708
        have CH1723 := CHr.trans CH1705 (CHr.wr W1708 f1702 CH1705.1)
        have K1724 : Keep h0 h1708 [] := K1706.wr W1708 (Or.inr sz_b1472)
        have z1725 : n0 ≤ h1708.size := Nat.le_trans z1707 (Keep.of_wr W1708).1
        have hk1726 := Nat.le_trans (Nat.le_refl T1687.heap.size) (Keep.of_wr W1708).1
        have N1727 := Fr.snoc X1708 N1689 g_b1472
        have f1728 : Fld Z h1708 b1472 "com/example/thyme/thyme/lang/Symbols$Locals" "instance" "Ljava/lang/String;" (.ref b1688) := f1704.same W1708
        obtain ⟨T1729, h1729, X1729, e1729, E1729, A1729, D1729, -, st1729⟩ := newO X1708 hx hZ1687 hown1687 (hw _ (List.mem_of_getElem? (i := 40) rfl)) (hw _ (List.mem_of_getElem? (i := 41) rfl)) (hw _ (List.mem_of_getElem? (i := 42) rfl)) e1708 (g := (mkF m 56 #[.val (.int p0), .val (.int p1), .val (.int p2), .val (.int p3), .val (.int p4), .val (.int p5), .val (.ref r961), .val (.ref b1407), .val (.ref b1472), .val (.ref b1688), .val (.ref b1688), .unset, .unset] [])) rfl (hb hby at_56) (by decide) (by decide)
        obtain ⟨b1729, g1729⟩ : ∃ z, z = h1708.size := ⟨_, rfl⟩
        have ne_b1407_b1729 : b1407 ≠ b1729 := Nat.ne_of_lt (Nat.lt_of_lt_of_le f1719.lt (Nat.le_of_eq g1729.symm))
        have ne_b1472_b1729 : b1472 ≠ b1729 := Nat.ne_of_lt (Nat.lt_of_lt_of_le f1721.lt (Nat.le_of_eq g1729.symm))
        have ne_b1688_b1729 : b1688 ≠ b1729 := Nat.ne_of_lt (Nat.lt_of_lt_of_le f1722.lt (Nat.le_of_eq g1729.symm))
        have g_b1729 : n0 ≤ b1729 := Nat.le_trans z1725 (Nat.le_of_eq g1729.symm)
        have sz_b1729 : h0.size ≤ b1729 := Nat.le_trans K1724.1 (Nat.le_of_eq g1729.symm)
        have sf1730 : Safe Z own_EL (T1687.vm) h1708 b1729 := Safe.new (Nat.le_of_eq g1729.symm)
        rw [← g1729] at A1729 D1729 st1729
        have f1731 := f1709.ext E1729
        have f1732 := f1710.ext E1729
        have f1733 := f1711.ext E1729
        have f1734 := f1712.ext E1729
        have f1735 := f1713.ext E1729
        have f1736 := f1714.ext E1729
        have f1737 := f1715.ext E1729
        have f1738 := f1716.ext E1729
        have f1739 := f1717.ext E1729
        have f1740 := f1718.ext E1729
        have f1741 := f1719.ext E1729
        have f1742 := Safe.ext E1729 CH1723.1 f1720
        have f1743 := f1721.ext E1729
        have f1744 := f1728.ext E1729
        have f1745 := f1722.ext E1729
        have f1746 := Safe.ext E1729 CH1723.1 sf1730
        have CH1747 := CHr.trans CH1723 (CHr.ext E1729 CH1723.1)
        have z1748 : n0 ≤ h1729.size := Nat.le_trans z1725 E1729.1
        have hk1749 := Nat.le_trans hk1726 E1729.1
        have K1750 : Keep h0 h1729 [] := K1724.ext E1729
        have f1751 : Fld Z h1729 b1729 "com/example/thyme/thyme/lang/ExpressionResolver$Scope" "context" "Lcom/example/thyme/thyme/lang/ExpressionResolver$Context;" .null := D1729 (Or.inr (hw _ (List.mem_of_getElem? (i := 53) rfl))) (ty := (.object "com/example/thyme/thyme/lang/ExpressionResolver$Context")) (by decide)
        have f1752 : Fld Z h1729 b1729 "com/example/thyme/thyme/lang/ExpressionResolver$Scope" "constant" "Ljava/lang/String;" .null := D1729 (Or.inr (hw _ (List.mem_of_getElem? (i := 55) rfl))) (ty := (.object "java/lang/String")) (by decide)
        have f1753 : Fld Z h1729 b1729 "com/example/thyme/thyme/lang/ExpressionResolver$Scope" "locals" "Lcom/example/thyme/thyme/lang/Symbols$Locals;" .null := D1729 (Or.inr (hw _ (List.mem_of_getElem? (i := 57) rfl))) (ty := (.object "com/example/thyme/thyme/lang/Symbols$Locals")) (by decide)
        obtain ⟨_, _, ⟨T1754, L1754, k1754, n1754⟩, -, X1754, ⟨Lc1754, hQ1754, l1754, y1754, z1754⟩, st1754⟩ := X1729.specialBack hx (y := (⟨"com/example/thyme/thyme/lang/ExpressionResolver$Scope", "<init>", "(Lcom/example/thyme/thyme/lang/ExpressionResolver$Context;Ljava/lang/String;Lcom/example/thyme/thyme/lang/Symbols$Locals;)V"⟩ : MethodName)) rfl hown1687 (mvT hZ1687 (hw _ (List.mem_of_getElem? (i := 43) rfl))) (mvT hZ1687 (hw _ (List.mem_of_getElem? (i := 44) rfl))) (mvT hZ1687 (hw _ (List.mem_of_getElem? (i := 45) rfl))) (by decide) (backOf (W := 1) (own_rmSc11 l Z av hw [] b1729 r961 b1407 b1472 h1729 n0 z1748 A1729 f1751 f1752 f1753 g_b1729) hZ1687 (hw _ (List.mem_of_getElem? (i := 45) rfl)) (hw _ (List.mem_of_getElem? (i := 42) rfl)) (by decide) (by decide)) (g := (mkF m 66 #[.val (.int p0), .val (.int p1), .val (.int p2), .val (.int p3), .val (.int p4), .val (.int p5), .val (.ref r961), .val (.ref b1407), .val (.ref b1472), .val (.ref b1688), .val (.ref b1688), .unset, .unset] [(.ref b1472), (.ref b1407), (.ref r961), (.ref b1729), (.ref b1729)])) rfl (by rw [hml]; rfl) (Steps.refl _) (a := b1729) (argsL := [(.ref r961), (.ref b1407), (.ref b1472)]) (rest := [(.ref b1729)]) (lenOf own_pd13 rfl) rfl (by show 2 * 0 + _ ≤ _; exact Nat.le_of_eq rfl) (hb hby at_66) (fun _ _ => ⟨rfl, e1729, (by decide : 23 + 0 ≤ _), (by decide : 92 + 0 ≤ _)⟩)
        dsimp only [Pt.U, Pt.locs, Pt.cells, Pt.slots] at X1754 l1754 y1754 z1754 st1754 hQ1754
        subst l1754 y1754 z1754
        obtain ⟨rfl, N1754q, K1754, f1756, f1757⟩ := hQ1754
        have f1758 := own_staKeep f1731 K1754 (allS (own_nsE A1729) all0)
        have f1759 := own_staKeep f1732 K1754 (allS (own_nsE A1729) all0)
        have f1760 := own_staKeep f1733 K1754 (allS (own_nsE A1729) all0)
        have f1761 := own_staKeep f1734 K1754 (allS (own_nsE A1729) all0)
        have f1762 := own_staKeep f1735 K1754 (allS (own_nsE A1729) all0)
        have f1763 := own_staKeep f1736 K1754 (allS (own_nsE A1729) all0)
        have f1764 := own_staKeep f1737 K1754 (allS (own_nsE A1729) all0)
        have f1765 := own_staKeep f1738 K1754 (allS (own_nsE A1729) all0)
        have f1766 := own_staKeep f1739 K1754 (allS (own_nsE A1729) all0)
        have f1767 := own_staKeep f1740 K1754 (allS (own_nsE A1729) all0)
        have f1768 := f1741.keep K1754
        have f1769 := Safe.keep K1754 (sfS f1746 sf0) CH1747.1 f1742
        have f1770 := f1743.keep K1754
        have f1771 := f1744.keep K1754 (ninS ne_b1472_b1729 nin0)
        have f1772 := f1745.keep K1754
        have f1773 := Safe.keep K1754 (sfS f1746 sf0) CH1747.1 f1746
        have CH1774 := CHr.trans CH1747 (CHr.keep K1754 (sfS f1746 sf0) CH1747.1)
        have K1775 : Keep h0 T1754.heap [] := K1750.trans K1754 (allS (Or.inr sz_b1729) all0)
        have z1776 : n0 ≤ T1754.heap.size := Nat.le_trans z1748 K1754.1
        have hk1777 := Nat.le_trans hk1749 K1754.1
        have N1755 := Fr.app N1727 N1754q
        obtain ⟨cq1778, kq1778, q1778a, q1778b, q1778c⟩ := isOf hZ1687 rfl f1756
        obtain ⟨_, _, ⟨T1778, L1778, k1778, n1778⟩, -, X1778, ⟨Lc1778, hQ1778, l1778, y1778, z1778⟩, st1778⟩ := X1754.virtualBack hx (y := (⟨"com/example/thyme/thyme/lang/ExpressionResolver$Scope", "instance", "()Ljava/lang/String;"⟩ : MethodName)) (z := (⟨"com/example/thyme/thyme/lang/ExpressionResolver$Scope", "instance", "()Ljava/lang/String;"⟩ : MethodName)) hown1687 (mvT hZ1687 (hw _ (List.mem_of_getElem? (i := 58) rfl))) (mvT hZ1687 (hw _ (List.mem_of_getElem? (i := 59) rfl))) (notFace_of_selects (args := #[]) (mvT hZ1687 (hw _ (List.mem_of_getElem? (i := 61) rfl)))) (mvT hZ1687 (hw _ (List.mem_of_getElem? (i := 61) rfl))) (mvT hZ1687 (hw _ (List.mem_of_getElem? (i := 60) rfl))) (by decide) (backOf (W := 0) (own_rmSi2 l Z av hw [] b1729 (b1472) (b1688) T1754.heap n0 z1776 f1757 f1771) hZ1687 (hw _ (List.mem_of_getElem? (i := 62) rfl)) (hw _ (List.mem_of_getElem? (i := 42) rfl)) (by decide) (by decide)) q1778a q1778c (g := (mkF m 73 #[.val (.int p0), .val (.int p1), .val (.int p2), .val (.int p3), .val (.int p4), .val (.int p5), .val (.ref r961), .val (.ref b1407), .val (.ref b1472), .val (.ref b1688), .val (.ref b1729), .unset, .unset] [(.ref b1729)])) rfl (by rw [hml]; rfl) (Steps.refl _) (argsL := []) (rest := []) (lenOf own_pd14 rfl) rfl (by show 2 * 0 + _ ≤ _; exact Nat.le_of_eq rfl) (hb hby at_73) (fun _ _ => ⟨rfl, rfl, (by decide : 23 + 0 ≤ _), (by decide : 92 + 0 ≤ _)⟩)
        dsimp only [Pt.U, Pt.locs, Pt.cells, Pt.slots] at X1778 l1778 y1778 z1778 st1778 hQ1778
        subst l1778 y1778 z1778
        obtain ⟨rfl, N1778q, e1780⟩ := hQ1778
        have N1779 := Fr.app N1755 N1778q
        obtain ⟨_, _, ⟨T1781, L1781, k1781, n1781⟩, -, X1781, ⟨Lc1781, hQ1781, l1781, y1781, z1781⟩, st1781⟩ := Jvm.LawKit.callS X1778 hx (y := (⟨"com/example/thyme/thyme/lang/ScopeInstancePinLaw", "same", "(Ljava/lang/String;Ljava/lang/String;)Z"⟩ : MethodName)) hown1687 (mvT hZ1687 (hw _ (List.mem_of_getElem? (i := 63) rfl))) (mvT hZ1687 (hw _ (List.mem_of_getElem? (i := 64) rfl))) (mvT hZ1687 (hw _ (List.mem_of_getElem? (i := 2) rfl))) (mvT hZ1687 (hw _ (List.mem_of_getElem? (i := 65) rfl))) (by decide) (backOf (W := 0) (own_rmPS l Z av hw [] b1688 b1688 T1754.heap n0 z1776 f1772 (rfl)) hZ1687 (hw _ (List.mem_of_getElem? (i := 65) rfl)) (hw _ (List.mem_of_getElem? (i := 2) rfl)) (by decide) (by decide)) (g := (mkF m 78 #[.val (.int p0), .val (.int p1), .val (.int p2), .val (.int p3), .val (.int p4), .val (.int p5), .val (.ref r961), .val (.ref b1407), .val (.ref b1472), .val (.ref b1688), .val (.ref b1729), .unset, .unset] [(.ref b1688), (.ref b1688)])) rfl (by rw [hml]; rfl) (argsL := [(.ref b1688), (.ref b1688)]) (rest := []) (lenOf own_pd15 rfl) rfl (by show 2 * 0 + _ ≤ _; exact Nat.le_of_eq rfl) (hb hby at_78) (fun _ _ => ⟨rfl, e1780, (by decide : 23 + 0 ≤ _), (by decide : 92 + 0 ≤ _)⟩)
        dsimp only [Pt.U, Pt.locs, Pt.cells, Pt.slots] at X1781 l1781 y1781 z1781 st1781 hQ1781
        subst l1781 y1781 z1781
        obtain ⟨rfl, N1781q, e1783⟩ := hQ1781
        have N1782 := Fr.app N1779 N1781q
        have pre1784 : ∀ t, Steps p.tables e below (T1781.setTop (mkF m 92 #[.val (.int p0), .val (.int p1), .val (.int p2), .val (.int p3), .val (.int p4), .val (.int p5), .val (.ref r961), .val (.ref b1407), .val (.ref b1472), .val (.ref b1688), .val (.ref b1729), .val (.int (1 : Int32)), .unset] [(.int (p5 &&& (4 : Int32)))])) t → Steps p.tables e below (s₁.setTop (entryFrame m #[(.int p0), (.int p1), (.int p2), (.int p3), (.int p4), (.int p5)] maxLocals)) t := fun t kk => pre1519 t (by
          show Steps p.tables e below (T1499.setTop (mkF m 40 #[.val (.int p0), .val (.int p1), .val (.int p2), .val (.int p3), .val (.int p4), .val (.int p5), .val (.ref r961), .val (.ref b1407), .val (.ref b1472), .val .null, .unset, .unset, .unset] [(.int p4), (.int p3)])) _
          refine st1687.trans ?_
          show Steps p.tables e below (T1687.setTop (mkF m 43 #[.val (.int p0), .val (.int p1), .val (.int p2), .val (.int p3), .val (.int p4), .val (.int p5), .val (.ref r961), .val (.ref b1407), .val (.ref b1472), .val .null, .unset, .unset, .unset] [(.ref b1688)])) _
          refine XS.astore X1687.here hx rfl (hb hby at_43) rfl rfl (l' := #[.val (.int p0), .val (.int p1), .val (.int p2), .val (.int p3), .val (.int p4), .val (.int p5), .val (.ref r961), .val (.ref b1407), .val (.ref b1472), .val .null, .val (.ref b1688), .unset, .unset]) rfl ?_
          show Steps p.tables e below (T1687.setTop (mkF m 45 #[.val (.int p0), .val (.int p1), .val (.int p2), .val (.int p3), .val (.int p4), .val (.int p5), .val (.ref r961), .val (.ref b1407), .val (.ref b1472), .val .null, .val (.ref b1688), .unset, .unset] [])) _
          refine XS.aload X1687.here hx rfl (hb hby at_45) rfl rfl ?_
          show Steps p.tables e below (T1687.setTop (mkF m 47 #[.val (.int p0), .val (.int p1), .val (.int p2), .val (.int p3), .val (.int p4), .val (.int p5), .val (.ref r961), .val (.ref b1407), .val (.ref b1472), .val .null, .val (.ref b1688), .unset, .unset] [(.ref b1472)])) _
          refine XS.aload X1687.here hx rfl (hb hby at_47) rfl rfl ?_
          show Steps p.tables e below (T1687.setTop (mkF m 49 #[.val (.int p0), .val (.int p1), .val (.int p2), .val (.int p3), .val (.int p4), .val (.int p5), .val (.ref r961), .val (.ref b1407), .val (.ref b1472), .val .null, .val (.ref b1688), .unset, .unset] [(.ref b1688), (.ref b1472)])) _
          refine st1708 _ ?_
          show Steps p.tables e below (T1708.setTop (mkF m 52 #[.val (.int p0), .val (.int p1), .val (.int p2), .val (.int p3), .val (.int p4), .val (.int p5), .val (.ref r961), .val (.ref b1407), .val (.ref b1472), .val .null, .val (.ref b1688), .unset, .unset] [])) _
          refine XS.aload X1708.here hx rfl (hb hby at_52) rfl rfl ?_
          show Steps p.tables e below (T1708.setTop (mkF m 54 #[.val (.int p0), .val (.int p1), .val (.int p2), .val (.int p3), .val (.int p4), .val (.int p5), .val (.ref r961), .val (.ref b1407), .val (.ref b1472), .val .null, .val (.ref b1688), .unset, .unset] [(.ref b1688)])) _
          refine XS.astore X1708.here hx rfl (hb hby at_54) rfl rfl (l' := #[.val (.int p0), .val (.int p1), .val (.int p2), .val (.int p3), .val (.int p4), .val (.int p5), .val (.ref r961), .val (.ref b1407), .val (.ref b1472), .val (.ref b1688), .val (.ref b1688), .unset, .unset]) rfl ?_
          show Steps p.tables e below (T1708.setTop (mkF m 56 #[.val (.int p0), .val (.int p1), .val (.int p2), .val (.int p3), .val (.int p4), .val (.int p5), .val (.ref r961), .val (.ref b1407), .val (.ref b1472), .val (.ref b1688), .val (.ref b1688), .unset, .unset] [])) _
          refine st1729 _ ?_
          show Steps p.tables e below (T1729.setTop (mkF m 59 #[.val (.int p0), .val (.int p1), .val (.int p2), .val (.int p3), .val (.int p4), .val (.int p5), .val (.ref r961), .val (.ref b1407), .val (.ref b1472), .val (.ref b1688), .val (.ref b1688), .unset, .unset] [(.ref b1729)])) _
          refine XS.dup X1729.here hx rfl (hb hby at_59) rfl rfl ?_
          show Steps p.tables e below (T1729.setTop (mkF m 60 #[.val (.int p0), .val (.int p1), .val (.int p2), .val (.int p3), .val (.int p4), .val (.int p5), .val (.ref r961), .val (.ref b1407), .val (.ref b1472), .val (.ref b1688), .val (.ref b1688), .unset, .unset] [(.ref b1729), (.ref b1729)])) _
          refine XS.aload X1729.here hx rfl (hb hby at_60) rfl rfl ?_
          show Steps p.tables e below (T1729.setTop (mkF m 62 #[.val (.int p0), .val (.int p1), .val (.int p2), .val (.int p3), .val (.int p4), .val (.int p5), .val (.ref r961), .val (.ref b1407), .val (.ref b1472), .val (.ref b1688), .val (.ref b1688), .unset, .unset] [(.ref r961), (.ref b1729), (.ref b1729)])) _
          refine XS.aload X1729.here hx rfl (hb hby at_62) rfl rfl ?_
          show Steps p.tables e below (T1729.setTop (mkF m 64 #[.val (.int p0), .val (.int p1), .val (.int p2), .val (.int p3), .val (.int p4), .val (.int p5), .val (.ref r961), .val (.ref b1407), .val (.ref b1472), .val (.ref b1688), .val (.ref b1688), .unset, .unset] [(.ref b1407), (.ref r961), (.ref b1729), (.ref b1729)])) _
          refine XS.aload X1729.here hx rfl (hb hby at_64) rfl rfl ?_
          show Steps p.tables e below (T1729.setTop (mkF m 66 #[.val (.int p0), .val (.int p1), .val (.int p2), .val (.int p3), .val (.int p4), .val (.int p5), .val (.ref r961), .val (.ref b1407), .val (.ref b1472), .val (.ref b1688), .val (.ref b1688), .unset, .unset] [(.ref b1472), (.ref b1407), (.ref r961), (.ref b1729), (.ref b1729)])) _
          refine st1754.trans ?_
          show Steps p.tables e below (T1754.setTop (mkF m 69 #[.val (.int p0), .val (.int p1), .val (.int p2), .val (.int p3), .val (.int p4), .val (.int p5), .val (.ref r961), .val (.ref b1407), .val (.ref b1472), .val (.ref b1688), .val (.ref b1688), .unset, .unset] [(.ref b1729)])) _
          refine XS.astore X1754.here hx rfl (hb hby at_69) rfl rfl (l' := #[.val (.int p0), .val (.int p1), .val (.int p2), .val (.int p3), .val (.int p4), .val (.int p5), .val (.ref r961), .val (.ref b1407), .val (.ref b1472), .val (.ref b1688), .val (.ref b1729), .unset, .unset]) rfl ?_
          show Steps p.tables e below (T1754.setTop (mkF m 71 #[.val (.int p0), .val (.int p1), .val (.int p2), .val (.int p3), .val (.int p4), .val (.int p5), .val (.ref r961), .val (.ref b1407), .val (.ref b1472), .val (.ref b1688), .val (.ref b1729), .unset, .unset] [])) _
          refine XS.aload X1754.here hx rfl (hb hby at_71) rfl rfl ?_
          show Steps p.tables e below (T1754.setTop (mkF m 73 #[.val (.int p0), .val (.int p1), .val (.int p2), .val (.int p3), .val (.int p4), .val (.int p5), .val (.ref r961), .val (.ref b1407), .val (.ref b1472), .val (.ref b1688), .val (.ref b1729), .unset, .unset] [(.ref b1729)])) _
          refine st1778.trans ?_
          show Steps p.tables e below (T1778.setTop (mkF m 76 #[.val (.int p0), .val (.int p1), .val (.int p2), .val (.int p3), .val (.int p4), .val (.int p5), .val (.ref r961), .val (.ref b1407), .val (.ref b1472), .val (.ref b1688), .val (.ref b1729), .unset, .unset] [(.ref b1688)])) _
          refine XS.aload X1778.here hx rfl (hb hby at_76) rfl rfl ?_
          show Steps p.tables e below (T1778.setTop (mkF m 78 #[.val (.int p0), .val (.int p1), .val (.int p2), .val (.int p3), .val (.int p4), .val (.int p5), .val (.ref r961), .val (.ref b1407), .val (.ref b1472), .val (.ref b1688), .val (.ref b1729), .unset, .unset] [(.ref b1688), (.ref b1688)])) _
          refine st1781 _ ?_
          show Steps p.tables e below (T1781.setTop (mkF m 81 #[.val (.int p0), .val (.int p1), .val (.int p2), .val (.int p3), .val (.int p4), .val (.int p5), .val (.ref r961), .val (.ref b1407), .val (.ref b1472), .val (.ref b1688), .val (.ref b1729), .unset, .unset] [(.int (1 : Int32))])) _
          refine XS.istore X1781.here hx rfl (hb hby at_81) rfl (l' := #[.val (.int p0), .val (.int p1), .val (.int p2), .val (.int p3), .val (.int p4), .val (.int p5), .val (.ref r961), .val (.ref b1407), .val (.ref b1472), .val (.ref b1688), .val (.ref b1729), .val (.int (1 : Int32)), .unset]) rfl ?_
          show Steps p.tables e below (T1781.setTop (mkF m 83 #[.val (.int p0), .val (.int p1), .val (.int p2), .val (.int p3), .val (.int p4), .val (.int p5), .val (.ref r961), .val (.ref b1407), .val (.ref b1472), .val (.ref b1688), .val (.ref b1729), .val (.int (1 : Int32)), .unset] [])) _
          refine XS.aload X1781.here hx rfl (hb hby at_83) rfl rfl ?_
          show Steps p.tables e below (T1781.setTop (mkF m 85 #[.val (.int p0), .val (.int p1), .val (.int p2), .val (.int p3), .val (.int p4), .val (.int p5), .val (.ref r961), .val (.ref b1407), .val (.ref b1472), .val (.ref b1688), .val (.ref b1729), .val (.int (1 : Int32)), .unset] [(.ref b1472)])) _
          refine XS.ifnullNo X1781.here hx rfl (hb hby at_85) rfl ?_
          show Steps p.tables e below (T1781.setTop (mkF m 88 #[.val (.int p0), .val (.int p1), .val (.int p2), .val (.int p3), .val (.int p4), .val (.int p5), .val (.ref r961), .val (.ref b1407), .val (.ref b1472), .val (.ref b1688), .val (.ref b1729), .val (.int (1 : Int32)), .unset] [])) _
          refine XS.iload X1781.here hx rfl (hb hby at_88) rfl ?_
          show Steps p.tables e below (T1781.setTop (mkF m 90 #[.val (.int p0), .val (.int p1), .val (.int p2), .val (.int p3), .val (.int p4), .val (.int p5), .val (.ref r961), .val (.ref b1407), .val (.ref b1472), .val (.ref b1688), .val (.ref b1729), .val (.int (1 : Int32)), .unset] [(.int p5)])) _
          refine XS.iconst X1781.here hx rfl (hb hby at_90) ?_
          show Steps p.tables e below (T1781.setTop (mkF m 91 #[.val (.int p0), .val (.int p1), .val (.int p2), .val (.int p3), .val (.int p4), .val (.int p5), .val (.ref r961), .val (.ref b1407), .val (.ref b1472), .val (.ref b1688), .val (.ref b1729), .val (.int (1 : Int32)), .unset] [(.int (4 : Int32)), (.int p5)])) _
          refine XS.iand X1781.here hx rfl (hb hby at_91) rfl ?_
          show Steps p.tables e below (T1781.setTop (mkF m 92 #[.val (.int p0), .val (.int p1), .val (.int p2), .val (.int p3), .val (.int p4), .val (.int p5), .val (.ref r961), .val (.ref b1407), .val (.ref b1472), .val (.ref b1688), .val (.ref b1729), .val (.int (1 : Int32)), .unset] [(.int (p5 &&& (4 : Int32)))])) _
          exact kk)
        by_cases hc1785 : (p5 &&& (4 : Int32)) = (0 : Int32)
        · obtain ⟨fs, hr, hrun, hended, hR1, hR2, hR3, hR4⟩ := Stand.leaveW (s := s) (vm₁ := T1687.vm) X1781 hS1687 (by rw [e1783]; exact hk1777) (v := some (.int (1 : Int32))) (fun h => by rw [Bd.returns] at h; cases h)
          refine ⟨_, _, pre1784 _ ?_, hrun, hended, _, _, rfl, ?_, (by show CHr Z own_EL s.vm s.heap T1781.vm T1781.heap; rw [hh, e1783]; exact CHr.trans CH1774 (CHv.at (s := s) (vm0 := T1687.vm) X1781 hZ1687 hEL CH1774.1)), hR1, hR2, hR3, hR4.mono (by decide) (by decide)⟩
          · show Steps p.tables e below (T1781.setTop (mkF m 92 #[.val (.int p0), .val (.int p1), .val (.int p2), .val (.int p3), .val (.int p4), .val (.int p5), .val (.ref r961), .val (.ref b1407), .val (.ref b1472), .val (.ref b1688), .val (.ref b1729), .val (.int (1 : Int32)), .unset] [(.int (p5 &&& (4 : Int32)))])) _
            refine XS.ifYes X1781.here hx rfl (pc0 := 92) (pc' := 139) rfl (hb hby at_92) rfl ((if0 _ _).trans (teq hc1785).1) (by decide) (by decide) ?_
            show Steps p.tables e below (T1781.setTop (mkF m 139 #[.val (.int p0), .val (.int p1), .val (.int p2), .val (.int p3), .val (.int p4), .val (.int p5), .val (.ref r961), .val (.ref b1407), .val (.ref b1472), .val (.ref b1688), .val (.ref b1729), .val (.int (1 : Int32)), .unset] [])) _
            refine XS.iload X1781.here hx rfl (hb hby at_139) rfl ?_
            show Steps p.tables e below (T1781.setTop (mkF m 141 #[.val (.int p0), .val (.int p1), .val (.int p2), .val (.int p3), .val (.int p4), .val (.int p5), .val (.ref r961), .val (.ref b1407), .val (.ref b1472), .val (.ref b1688), .val (.ref b1729), .val (.int (1 : Int32)), .unset] [(.int (1 : Int32))])) _
            exact retN X1781 hx (t := .boolean) Bd.returns (by simp) (hb hby at_141) hr
          · show own_Q0 Z p0 p1 p2 p3 p4 p5 x0 x1 x2 x3 x4 x5 x6 x7 cs ed h0 n0 _ T1781.heap _
            rw [e1783]
            exact ⟨rfl, N1782⟩
        · have pre1786 : ∀ t, Steps p.tables e below (T1781.setTop (mkF m 102 #[.val (.int p0), .val (.int p1), .val (.int p2), .val (.int p3), .val (.int p4), .val (.int p5), .val (.ref r961), .val (.ref b1407), .val (.ref b1472), .val (.ref b1688), .val (.ref b1729), .val (.int (1 : Int32)), .unset] [(.int ((p4.toUInt32 >>> ((16 : Int32) &&& 31).toUInt32).toInt32)), (.int p5)])) t → Steps p.tables e below (s₁.setTop (entryFrame m #[(.int p0), (.int p1), (.int p2), (.int p3), (.int p4), (.int p5)] maxLocals)) t := fun t kk => pre1784 t (by
            show Steps p.tables e below (T1781.setTop (mkF m 92 #[.val (.int p0), .val (.int p1), .val (.int p2), .val (.int p3), .val (.int p4), .val (.int p5), .val (.ref r961), .val (.ref b1407), .val (.ref b1472), .val (.ref b1688), .val (.ref b1729), .val (.int (1 : Int32)), .unset] [(.int (p5 &&& (4 : Int32)))])) _
            refine XS.ifNo X1781.here hx rfl (hb hby at_92) rfl ((if0 _ _).trans (feq hc1785).1) ?_
            show Steps p.tables e below (T1781.setTop (mkF m 95 #[.val (.int p0), .val (.int p1), .val (.int p2), .val (.int p3), .val (.int p4), .val (.int p5), .val (.ref r961), .val (.ref b1407), .val (.ref b1472), .val (.ref b1688), .val (.ref b1729), .val (.int (1 : Int32)), .unset] [])) _
            refine XS.iload X1781.here hx rfl (hb hby at_95) rfl ?_
            show Steps p.tables e below (T1781.setTop (mkF m 97 #[.val (.int p0), .val (.int p1), .val (.int p2), .val (.int p3), .val (.int p4), .val (.int p5), .val (.ref r961), .val (.ref b1407), .val (.ref b1472), .val (.ref b1688), .val (.ref b1729), .val (.int (1 : Int32)), .unset] [(.int p5)])) _
            refine XS.iload X1781.here hx rfl (hb hby at_97) rfl ?_
            show Steps p.tables e below (T1781.setTop (mkF m 99 #[.val (.int p0), .val (.int p1), .val (.int p2), .val (.int p3), .val (.int p4), .val (.int p5), .val (.ref r961), .val (.ref b1407), .val (.ref b1472), .val (.ref b1688), .val (.ref b1729), .val (.int (1 : Int32)), .unset] [(.int p4), (.int p5)])) _
            refine XS.bipush X1781.here hx rfl (hb hby at_99) ?_
            show Steps p.tables e below (T1781.setTop (mkF m 101 #[.val (.int p0), .val (.int p1), .val (.int p2), .val (.int p3), .val (.int p4), .val (.int p5), .val (.ref r961), .val (.ref b1407), .val (.ref b1472), .val (.ref b1688), .val (.ref b1729), .val (.int (1 : Int32)), .unset] [(.int (16 : Int32)), (.int p4), (.int p5)])) _
            refine XS.iushr X1781.here hx rfl (hb hby at_101) rfl ?_
            exact kk)
          by_cases hc1787 : (p5 &&& (3 : Int32)) = (0 : Int32)
          · obtain ⟨_, _, ⟨T1788, L1788, k1788, n1788⟩, -, X1788, ⟨Lc1788, hQ1788, l1788, y1788, z1788⟩, st1788⟩ := Jvm.LawKit.callS X1781 hx (y := (⟨"com/example/thyme/thyme/lang/ScopeInstancePinLaw", "str", "(II)Ljava/lang/String;"⟩ : MethodName)) hown1687 (mvT hZ1687 (hw _ (List.mem_of_getElem? (i := 7) rfl))) (mvT hZ1687 (hw _ (List.mem_of_getElem? (i := 8) rfl))) (mvT hZ1687 (hw _ (List.mem_of_getElem? (i := 2) rfl))) (mvT hZ1687 (hw _ (List.mem_of_getElem? (i := 9) rfl))) (by decide) (backOf (W := 0) (own_rmSN l Z av hw [] p5 ((p4.toUInt32 >>> ((16 : Int32) &&& 31).toUInt32).toInt32) T1754.heap n0 z1776 (hc1787)) hZ1687 (hw _ (List.mem_of_getElem? (i := 9) rfl)) (hw _ (List.mem_of_getElem? (i := 2) rfl)) (by decide) (by decide)) (g := (mkF m 102 #[.val (.int p0), .val (.int p1), .val (.int p2), .val (.int p3), .val (.int p4), .val (.int p5), .val (.ref r961), .val (.ref b1407), .val (.ref b1472), .val (.ref b1688), .val (.ref b1729), .val (.int (1 : Int32)), .unset] [(.int ((p4.toUInt32 >>> ((16 : Int32) &&& 31).toUInt32).toInt32)), (.int p5)])) rfl (by rw [hml]; rfl) (argsL := [(.int p5), (.int ((p4.toUInt32 >>> ((16 : Int32) &&& 31).toUInt32).toInt32))]) (rest := []) (lenOf own_pd12 rfl) rfl (by show 2 * 0 + _ ≤ _; exact Nat.le_of_eq rfl) (hb hby at_102) (fun _ _ => ⟨rfl, e1783, (by decide : 23 + 0 ≤ _), (by decide : 92 + 0 ≤ _)⟩)
            dsimp only [Pt.U, Pt.locs, Pt.cells, Pt.slots] at X1788 l1788 y1788 z1788 st1788 hQ1788
            subst l1788 y1788 z1788
            obtain ⟨rfl, N1788q, e1790⟩ := hQ1788
            have N1789 := Fr.app N1782 N1788q
            obtain ⟨T1791, h1791, X1791, e1791, W1791, st1791⟩ := putF X1788 hx hZ1687 hown1687 (host := "") (Or.inl (hw _ (List.mem_of_getElem? (i := 164) rfl))) Via.refl e1790 f1771 f1770 (Or.inl (hw _ (List.mem_of_getElem? (i := 165) rfl))) (hw _ (List.mem_of_getElem? (i := 83) rfl)) (ty := (.object "java/lang/String")) (by decide) rfl rfl (g := (mkF m 111 #[.val (.int p0), .val (.int p1), .val (.int p2), .val (.int p3), .val (.int p4), .val (.int p5), .val (.ref r961), .val (.ref b1407), .val (.ref b1472), .val (.ref b1688), .val (.ref b1729), .val (.int (1 : Int32)), .val .null] [.null, (.ref b1472)])) rfl rfl (hb hby at_111)
            have f1792 := f1758.wr W1791
            have f1793 := f1759.wr W1791
            have f1794 := f1760.wr W1791
            have f1795 := f1761.wr W1791
            have f1796 := f1762.wr W1791
            have f1797 := f1763.wr W1791
            have f1798 := f1764.wr W1791
            have f1799 := f1765.wr W1791
            have f1800 := f1766.wr W1791
            have f1801 := f1767.wr W1791
            have f1802 := f1768.wr W1791
            have f1803 := Safe.wr W1791 f1769 CH1774.1 f1769
            have f1804 := f1770.wr W1791
            have f1805 := f1772.wr W1791
            have f1806 := Safe.wr W1791 f1769 CH1774.1 f1773
            have f1807 := f1756.wr W1791
            have f1808 := f1757.other W1791 (Or.inl (Ne.symm ne_b1472_b1729))
            have CH1809 := CHr.trans CH1774 (CHr.wr W1791 f1769 CH1774.1)
            have K1810 : Keep h0 h1791 [] := K1775.wr W1791 (Or.inr sz_b1472)
            have z1811 : n0 ≤ h1791.size := Nat.le_trans z1776 (Keep.of_wr W1791).1
            have hk1812 := Nat.le_trans hk1777 (Keep.of_wr W1791).1
            have N1813 := Fr.snoc X1791 N1789 g_b1472
            have f1814 : Fld Z h1791 b1472 "com/example/thyme/thyme/lang/Symbols$Locals" "instance" "Ljava/lang/String;" .null := f1771.same W1791
            obtain ⟨cq1815, kq1815, q1815a, q1815b, q1815c⟩ := isOf hZ1687 e1791 f1807
            obtain ⟨_, _, ⟨T1815, L1815, k1815, n1815⟩, -, X1815, ⟨Lc1815, hQ1815, l1815, y1815, z1815⟩, st1815⟩ := X1791.virtualBack hx (y := (⟨"com/example/thyme/thyme/lang/ExpressionResolver$Scope", "instance", "()Ljava/lang/String;"⟩ : MethodName)) (z := (⟨"com/example/thyme/thyme/lang/ExpressionResolver$Scope", "instance", "()Ljava/lang/String;"⟩ : MethodName)) hown1687 (mvT hZ1687 (hw _ (List.mem_of_getElem? (i := 58) rfl))) (mvT hZ1687 (hw _ (List.mem_of_getElem? (i := 59) rfl))) (notFace_of_selects (args := #[]) (mvT hZ1687 (hw _ (List.mem_of_getElem? (i := 61) rfl)))) (mvT hZ1687 (hw _ (List.mem_of_getElem? (i := 61) rfl))) (mvT hZ1687 (hw _ (List.mem_of_getElem? (i := 60) rfl))) (by decide) (backOf (W := 0) (own_rmSi1 l Z av hw [] b1729 (b1472) h1791 n0 z1811 f1808 f1814) hZ1687 (hw _ (List.mem_of_getElem? (i := 62) rfl)) (hw _ (List.mem_of_getElem? (i := 42) rfl)) (by decide) (by decide)) q1815a q1815c (g := (mkF m 121 #[.val (.int p0), .val (.int p1), .val (.int p2), .val (.int p3), .val (.int p4), .val (.int p5), .val (.ref r961), .val (.ref b1407), .val (.ref b1472), .val (.ref b1688), .val (.ref b1729), .val (.int (1 : Int32)), .val .null] [(.ref b1729)])) rfl (by rw [hml]; rfl) (Steps.refl _) (argsL := []) (rest := []) (lenOf own_pd14 rfl) rfl (by show 2 * 0 + _ ≤ _; exact Nat.le_of_eq rfl) (hb hby at_121) (fun _ _ => ⟨rfl, e1791, (by decide : 23 + 0 ≤ _), (by decide : 92 + 0 ≤ _)⟩)
            dsimp only [Pt.U, Pt.locs, Pt.cells, Pt.slots] at X1815 l1815 y1815 z1815 st1815 hQ1815
            subst l1815 y1815 z1815
            obtain ⟨rfl, N1815q, e1817⟩ := hQ1815
            have N1816 := Fr.app N1813 N1815q
            obtain ⟨_, _, ⟨T1818, L1818, k1818, n1818⟩, -, X1818, ⟨Lc1818, hQ1818, l1818, y1818, z1818⟩, st1818⟩ := Jvm.LawKit.callS X1815 hx (y := (⟨"com/example/thyme/thyme/lang/ScopeInstancePinLaw", "same", "(Ljava/lang/String;Ljava/lang/String;)Z"⟩ : MethodName)) hown1687 (mvT hZ1687 (hw _ (List.mem_of_getElem? (i := 63) rfl))) (mvT hZ1687 (hw _ (List.mem_of_getElem? (i := 64) rfl))) (mvT hZ1687 (hw _ (List.mem_of_getElem? (i := 2) rfl))) (mvT hZ1687 (hw _ (List.mem_of_getElem? (i := 65) rfl))) (by decide) (backOf (W := 0) (own_rmPN l Z av hw []  h1791 n0 z1811 ) hZ1687 (hw _ (List.mem_of_getElem? (i := 65) rfl)) (hw _ (List.mem_of_getElem? (i := 2) rfl)) (by decide) (by decide)) (g := (mkF m 126 #[.val (.int p0), .val (.int p1), .val (.int p2), .val (.int p3), .val (.int p4), .val (.int p5), .val (.ref r961), .val (.ref b1407), .val (.ref b1472), .val (.ref b1688), .val (.ref b1729), .val (.int (1 : Int32)), .val .null] [.null, .null])) rfl (by rw [hml]; rfl) (argsL := [.null, .null]) (rest := []) (lenOf own_pd15 rfl) rfl (by show 2 * 0 + _ ≤ _; exact Nat.le_of_eq rfl) (hb hby at_126) (fun _ _ => ⟨rfl, e1817, (by decide : 23 + 0 ≤ _), (by decide : 92 + 0 ≤ _)⟩)
            dsimp only [Pt.U, Pt.locs, Pt.cells, Pt.slots] at X1818 l1818 y1818 z1818 st1818 hQ1818
            subst l1818 y1818 z1818
            obtain ⟨rfl, N1818q, e1820⟩ := hQ1818
            have N1819 := Fr.app N1816 N1818q
            obtain ⟨fs, hr, hrun, hended, hR1, hR2, hR3, hR4⟩ := Stand.leaveW (s := s) (vm₁ := T1687.vm) X1818 hS1687 (by rw [e1820]; exact hk1812) (v := some (.int (1 : Int32))) (fun h => by rw [Bd.returns] at h; cases h)
            refine ⟨_, _, pre1786 _ ?_, hrun, hended, _, _, rfl, ?_, (by show CHr Z own_EL s.vm s.heap T1818.vm T1818.heap; rw [hh, e1820]; exact CHr.trans CH1809 (CHv.at (s := s) (vm0 := T1687.vm) X1818 hZ1687 hEL CH1809.1)), hR1, hR2, hR3, hR4.mono (by decide) (by decide)⟩
            · show Steps p.tables e below (T1781.setTop (mkF m 102 #[.val (.int p0), .val (.int p1), .val (.int p2), .val (.int p3), .val (.int p4), .val (.int p5), .val (.ref r961), .val (.ref b1407), .val (.ref b1472), .val (.ref b1688), .val (.ref b1729), .val (.int (1 : Int32)), .unset] [(.int ((p4.toUInt32 >>> ((16 : Int32) &&& 31).toUInt32).toInt32)), (.int p5)])) _
              refine st1788 _ ?_
              show Steps p.tables e below (T1788.setTop (mkF m 105 #[.val (.int p0), .val (.int p1), .val (.int p2), .val (.int p3), .val (.int p4), .val (.int p5), .val (.ref r961), .val (.ref b1407), .val (.ref b1472), .val (.ref b1688), .val (.ref b1729), .val (.int (1 : Int32)), .unset] [.null])) _
              refine XS.astore X1788.here hx rfl (hb hby at_105) rfl rfl (l' := #[.val (.int p0), .val (.int p1), .val (.int p2), .val (.int p3), .val (.int p4), .val (.int p5), .val (.ref r961), .val (.ref b1407), .val (.ref b1472), .val (.ref b1688), .val (.ref b1729), .val (.int (1 : Int32)), .val .null]) rfl ?_
              show Steps p.tables e below (T1788.setTop (mkF m 107 #[.val (.int p0), .val (.int p1), .val (.int p2), .val (.int p3), .val (.int p4), .val (.int p5), .val (.ref r961), .val (.ref b1407), .val (.ref b1472), .val (.ref b1688), .val (.ref b1729), .val (.int (1 : Int32)), .val .null] [])) _
              refine XS.aload X1788.here hx rfl (hb hby at_107) rfl rfl ?_
              show Steps p.tables e below (T1788.setTop (mkF m 109 #[.val (.int p0), .val (.int p1), .val (.int p2), .val (.int p3), .val (.int p4), .val (.int p5), .val (.ref r961), .val (.ref b1407), .val (.ref b1472), .val (.ref b1688), .val (.ref b1729), .val (.int (1 : Int32)), .val .null] [(.ref b1472)])) _
              refine XS.aload X1788.here hx rfl (hb hby at_109) rfl rfl ?_
              show Steps p.tables e below (T1788.setTop (mkF m 111 #[.val (.int p0), .val (.int p1), .val (.int p2), .val (.int p3), .val (.int p4), .val (.int p5), .val (.ref r961), .val (.ref b1407), .val (.ref b1472), .val (.ref b1688), .val (.ref b1729), .val (.int (1 : Int32)), .val .null] [.null, (.ref b1472)])) _
              refine st1791 _ ?_
              show Steps p.tables e below (T1791.setTop (mkF m 114 #[.val (.int p0), .val (.int p1), .val (.int p2), .val (.int p3), .val (.int p4), .val (.int p5), .val (.ref r961), .val (.ref b1407), .val (.ref b1472), .val (.ref b1688), .val (.ref b1729), .val (.int (1 : Int32)), .val .null] [])) _
              refine XS.iload X1791.here hx rfl (hb hby at_114) rfl ?_
              show Steps p.tables e below (T1791.setTop (mkF m 116 #[.val (.int p0), .val (.int p1), .val (.int p2), .val (.int p3), .val (.int p4), .val (.int p5), .val (.ref r961), .val (.ref b1407), .val (.ref b1472), .val (.ref b1688), .val (.ref b1729), .val (.int (1 : Int32)), .val .null] [(.int (1 : Int32))])) _
              refine XS.ifNo X1791.here hx rfl (hb hby at_116) rfl ((if0 _ _).trans (feq (by decide : ¬ ((1 : Int32) = (0 : Int32)))).1) ?_
              show Steps p.tables e below (T1791.setTop (mkF m 119 #[.val (.int p0), .val (.int p1), .val (.int p2), .val (.int p3), .val (.int p4), .val (.int p5), .val (.ref r961), .val (.ref b1407), .val (.ref b1472), .val (.ref b1688), .val (.ref b1729), .val (.int (1 : Int32)), .val .null] [])) _
              refine XS.aload X1791.here hx rfl (hb hby at_119) rfl rfl ?_
              show Steps p.tables e below (T1791.setTop (mkF m 121 #[.val (.int p0), .val (.int p1), .val (.int p2), .val (.int p3), .val (.int p4), .val (.int p5), .val (.ref r961), .val (.ref b1407), .val (.ref b1472), .val (.ref b1688), .val (.ref b1729), .val (.int (1 : Int32)), .val .null] [(.ref b1729)])) _
              refine st1815.trans ?_
              show Steps p.tables e below (T1815.setTop (mkF m 124 #[.val (.int p0), .val (.int p1), .val (.int p2), .val (.int p3), .val (.int p4), .val (.int p5), .val (.ref r961), .val (.ref b1407), .val (.ref b1472), .val (.ref b1688), .val (.ref b1729), .val (.int (1 : Int32)), .val .null] [.null])) _
              refine XS.aload X1815.here hx rfl (hb hby at_124) rfl rfl ?_
              show Steps p.tables e below (T1815.setTop (mkF m 126 #[.val (.int p0), .val (.int p1), .val (.int p2), .val (.int p3), .val (.int p4), .val (.int p5), .val (.ref r961), .val (.ref b1407), .val (.ref b1472), .val (.ref b1688), .val (.ref b1729), .val (.int (1 : Int32)), .val .null] [.null, .null])) _
              refine st1818 _ ?_
              show Steps p.tables e below (T1818.setTop (mkF m 129 #[.val (.int p0), .val (.int p1), .val (.int p2), .val (.int p3), .val (.int p4), .val (.int p5), .val (.ref r961), .val (.ref b1407), .val (.ref b1472), .val (.ref b1688), .val (.ref b1729), .val (.int (1 : Int32)), .val .null] [(.int (1 : Int32))])) _
              refine XS.ifNo X1818.here hx rfl (hb hby at_129) rfl ((if0 _ _).trans (feq (by decide : ¬ ((1 : Int32) = (0 : Int32)))).1) ?_
              show Steps p.tables e below (T1818.setTop (mkF m 132 #[.val (.int p0), .val (.int p1), .val (.int p2), .val (.int p3), .val (.int p4), .val (.int p5), .val (.ref r961), .val (.ref b1407), .val (.ref b1472), .val (.ref b1688), .val (.ref b1729), .val (.int (1 : Int32)), .val .null] [])) _
              refine XS.iconst X1818.here hx rfl (hb hby at_132) ?_
              show Steps p.tables e below (T1818.setTop (mkF m 133 #[.val (.int p0), .val (.int p1), .val (.int p2), .val (.int p3), .val (.int p4), .val (.int p5), .val (.ref r961), .val (.ref b1407), .val (.ref b1472), .val (.ref b1688), .val (.ref b1729), .val (.int (1 : Int32)), .val .null] [(.int (1 : Int32))])) _
              refine XS.goto X1818.here hx rfl (pc0 := 133) (pc' := 137) rfl (hb hby at_133) (by decide) (by decide) ?_
              show Steps p.tables e below (T1818.setTop (mkF m 137 #[.val (.int p0), .val (.int p1), .val (.int p2), .val (.int p3), .val (.int p4), .val (.int p5), .val (.ref r961), .val (.ref b1407), .val (.ref b1472), .val (.ref b1688), .val (.ref b1729), .val (.int (1 : Int32)), .val .null] [(.int (1 : Int32))])) _
              refine XS.istore X1818.here hx rfl (hb hby at_137) rfl (l' := #[.val (.int p0), .val (.int p1), .val (.int p2), .val (.int p3), .val (.int p4), .val (.int p5), .val (.ref r961), .val (.ref b1407), .val (.ref b1472), .val (.ref b1688), .val (.ref b1729), .val (.int (1 : Int32)), .val .null]) rfl ?_
              show Steps p.tables e below (T1818.setTop (mkF m 139 #[.val (.int p0), .val (.int p1), .val (.int p2), .val (.int p3), .val (.int p4), .val (.int p5), .val (.ref r961), .val (.ref b1407), .val (.ref b1472), .val (.ref b1688), .val (.ref b1729), .val (.int (1 : Int32)), .val .null] [])) _
              refine XS.iload X1818.here hx rfl (hb hby at_139) rfl ?_
              show Steps p.tables e below (T1818.setTop (mkF m 141 #[.val (.int p0), .val (.int p1), .val (.int p2), .val (.int p3), .val (.int p4), .val (.int p5), .val (.ref r961), .val (.ref b1407), .val (.ref b1472), .val (.ref b1688), .val (.ref b1729), .val (.int (1 : Int32)), .val .null] [(.int (1 : Int32))])) _
              exact retN X1818 hx (t := .boolean) Bd.returns (by simp) (hb hby at_141) hr
            · show own_Q0 Z p0 p1 p2 p3 p4 p5 x0 x1 x2 x3 x4 x5 x6 x7 cs ed h0 n0 _ T1818.heap _
              rw [e1820]
              exact ⟨rfl, N1819⟩
          · obtain ⟨_, _, ⟨T1821, L1821, k1821, n1821⟩, -, Y1821, hSa1821, gle1821, ⟨Lc1821, hQ1821, l1821, y1821, z1821, A1821⟩, st1821⟩ := callSS X1781 hx (y := (⟨"com/example/thyme/thyme/lang/ScopeInstancePinLaw", "str", "(II)Ljava/lang/String;"⟩ : MethodName)) hown1687 (mvT hZ1687 (hw _ (List.mem_of_getElem? (i := 7) rfl))) (mvT hZ1687 (hw _ (List.mem_of_getElem? (i := 8) rfl))) (mvT hZ1687 (hw _ (List.mem_of_getElem? (i := 2) rfl))) (mvT hZ1687 (hw _ (List.mem_of_getElem? (i := 9) rfl))) (by decide) (own_backSH (s := s) (vm0 := T1687.vm) (W := 0) (xs := []) (own_rmSS l Z av hw [] p5 ((p4.toUInt32 >>> ((16 : Int32) &&& 31).toUInt32).toInt32) (cs) T1754.heap n0 z1776 f1766 (hc1787) (hcs)) hZ1687 (hw _ (List.mem_of_getElem? (i := 9) rfl)) (hw _ (List.mem_of_getElem? (i := 2) rfl)) (by decide) (by decide) hEL CH1774.1 own_sl0) (g := (mkF m 102 #[.val (.int p0), .val (.int p1), .val (.int p2), .val (.int p3), .val (.int p4), .val (.int p5), .val (.ref r961), .val (.ref b1407), .val (.ref b1472), .val (.ref b1688), .val (.ref b1729), .val (.int (1 : Int32)), .unset] [(.int ((p4.toUInt32 >>> ((16 : Int32) &&& 31).toUInt32).toInt32)), (.int p5)])) rfl (by rw [hml]; rfl) (argsL := [(.int p5), (.int ((p4.toUInt32 >>> ((16 : Int32) &&& 31).toUInt32).toInt32))]) (rest := []) (lenOf own_pd12 rfl) rfl (by show 2 * 0 + _ ≤ _; exact Nat.le_of_eq rfl) (hb hby at_102) (fun _ _ => ⟨rfl, e1783, (by decide : 23 + 6 ≤ _), (by decide : 92 + 12 ≤ _)⟩)
            dsimp only [Pt.U, Pt.locs, Pt.cells, Pt.slots] at Y1821 hSa1821 gle1821 l1821 y1821 z1821 st1821 hQ1821 A1821
            subst l1821 y1821 z1821
            obtain ⟨X1821, hS1821, hZ1821, hown1821⟩ := rebS (s := s) (vm0 := T1687.vm) hS1687 (show _ ≤ T1781.heap.size from (by rw [e1783]; exact hk1777)) Y1821 hSa1821 gle1821 hZ1687 hown1687
            obtain ⟨b1822, rfl, N1821q, K1821, g_b1822, sz1821_b1822, f1824⟩ := hQ1821
            have ne_b1407_b1822 : b1407 ≠ b1822 := Nat.ne_of_lt (Nat.lt_of_lt_of_le f1768.lt sz1821_b1822)
            have ne_b1472_b1822 : b1472 ≠ b1822 := Nat.ne_of_lt (Nat.lt_of_lt_of_le f1770.lt sz1821_b1822)
            have ne_b1688_b1822 : b1688 ≠ b1822 := Nat.ne_of_lt (Nat.lt_of_lt_of_le f1772.lt sz1821_b1822)
            have ne_b1729_b1822 : b1729 ≠ b1822 := Nat.ne_of_lt (Nat.lt_of_lt_of_le f1756.lt sz1821_b1822)
            have sz_b1822 : h0.size ≤ b1822 := Nat.le_trans K1775.1 sz1821_b1822
            have f1825 := own_staKeep f1758 K1821 all0
            have f1826 := own_staKeep f1759 K1821 all0
            have f1827 := own_staKeep f1760 K1821 all0
            have f1828 := own_staKeep f1761 K1821 all0
            have f1829 := own_staKeep f1762 K1821 all0
            have f1830 := own_staKeep f1763 K1821 all0
            have f1831 := own_staKeep f1764 K1821 all0
            have f1832 := own_staKeep f1765 K1821 all0
            have f1833 := own_staKeep f1766 K1821 all0
            have f1834 := own_staKeep f1767 K1821 all0
            have f1835 := f1768.keep K1821
            have f1836 := CHr.safe A1821 f1770.lt f1769
            have f1837 := f1770.keep K1821
            have f1838 := f1771.keep K1821 nin0
            have f1839 := f1772.keep K1821
            have f1840 := CHr.safe A1821 f1756.lt f1773
            have f1841 := f1756.keep K1821
            have f1842 := f1757.keep K1821 nin0
            have CH1843 := CHr.trans CH1774 A1821
            have K1844 : Keep h0 T1821.heap [] := K1775.trans K1821 all0
            have z1845 : n0 ≤ T1821.heap.size := Nat.le_trans z1776 K1821.1
            have N1823 := Fr.app N1782 N1821q
            obtain ⟨T1846, h1846, X1846, e1846, W1846, st1846⟩ := putF X1821 hx hZ1821 hown1821 (host := "") (Or.inl (hw _ (List.mem_of_getElem? (i := 164) rfl))) Via.refl rfl f1838 f1837 (Or.inl (hw _ (List.mem_of_getElem? (i := 165) rfl))) (hw _ (List.mem_of_getElem? (i := 83) rfl)) (ty := (.object "java/lang/String")) (by decide) rfl rfl (g := (mkF m 111 #[.val (.int p0), .val (.int p1), .val (.int p2), .val (.int p3), .val (.int p4), .val (.int p5), .val (.ref r961), .val (.ref b1407), .val (.ref b1472), .val (.ref b1688), .val (.ref b1729), .val (.int (1 : Int32)), .val (.ref b1822)] [(.ref b1822), (.ref b1472)])) rfl rfl (hb hby at_111)
            have f1847 := f1825.wr W1846
            have f1848 := f1826.wr W1846
            have f1849 := f1827.wr W1846
            have f1850 := f1828.wr W1846
            have f1851 := f1829.wr W1846
            have f1852 := f1830.wr W1846
            have f1853 := f1831.wr W1846
            have f1854 := f1832.wr W1846
            have f1855 := f1833.wr W1846
            have f1856 := f1834.wr W1846
            have f1857 := f1835.wr W1846
            have f1858 := Safe.wr W1846 f1836 CH1843.1 f1836
            have f1859 := f1837.wr W1846
            have f1860 := f1839.wr W1846
            have f1861 := Safe.wr W1846 f1836 CH1843.1 f1840
            have f1862 := f1841.wr W1846
            have f1863 := f1842.other W1846 (Or.inl (Ne.symm ne_b1472_b1729))
            have f1864 := f1824.wr W1846
            have CH1865 := CHr.trans CH1843 (CHr.wr W1846 f1836 CH1843.1)
            have K1866 : Keep h0 h1846 [] := K1844.wr W1846 (Or.inr sz_b1472)
            have z1867 : n0 ≤ h1846.size := Nat.le_trans z1845 (Keep.of_wr W1846).1
            have hk1868 := Nat.le_trans (Nat.le_refl T1821.heap.size) (Keep.of_wr W1846).1
            have N1869 := Fr.snoc X1846 N1823 g_b1472
            have f1870 : Fld Z h1846 b1472 "com/example/thyme/thyme/lang/Symbols$Locals" "instance" "Ljava/lang/String;" (.ref b1822) := f1838.same W1846
            obtain ⟨cq1871, kq1871, q1871a, q1871b, q1871c⟩ := isOf hZ1821 e1846 f1862
            obtain ⟨_, _, ⟨T1871, L1871, k1871, n1871⟩, -, X1871, ⟨Lc1871, hQ1871, l1871, y1871, z1871⟩, st1871⟩ := X1846.virtualBack hx (y := (⟨"com/example/thyme/thyme/lang/ExpressionResolver$Scope", "instance", "()Ljava/lang/String;"⟩ : MethodName)) (z := (⟨"com/example/thyme/thyme/lang/ExpressionResolver$Scope", "instance", "()Ljava/lang/String;"⟩ : MethodName)) hown1821 (mvT hZ1821 (hw _ (List.mem_of_getElem? (i := 58) rfl))) (mvT hZ1821 (hw _ (List.mem_of_getElem? (i := 59) rfl))) (notFace_of_selects (args := #[]) (mvT hZ1821 (hw _ (List.mem_of_getElem? (i := 61) rfl)))) (mvT hZ1821 (hw _ (List.mem_of_getElem? (i := 61) rfl))) (mvT hZ1821 (hw _ (List.mem_of_getElem? (i := 60) rfl))) (by decide) (backOf (W := 0) (own_rmSi2 l Z av hw [] b1729 (b1472) (b1822) h1846 n0 z1867 f1863 f1870) hZ1821 (hw _ (List.mem_of_getElem? (i := 62) rfl)) (hw _ (List.mem_of_getElem? (i := 42) rfl)) (by decide) (by decide)) q1871a q1871c (g := (mkF m 121 #[.val (.int p0), .val (.int p1), .val (.int p2), .val (.int p3), .val (.int p4), .val (.int p5), .val (.ref r961), .val (.ref b1407), .val (.ref b1472), .val (.ref b1688), .val (.ref b1729), .val (.int (1 : Int32)), .val (.ref b1822)] [(.ref b1729)])) rfl (by rw [hml]; rfl) (Steps.refl _) (argsL := []) (rest := []) (lenOf own_pd14 rfl) rfl (by show 2 * 0 + _ ≤ _; exact Nat.le_of_eq rfl) (hb hby at_121) (fun _ _ => ⟨rfl, e1846, (by decide : 29 + 0 ≤ _), (by decide : 104 + 0 ≤ _)⟩)
            dsimp only [Pt.U, Pt.locs, Pt.cells, Pt.slots] at X1871 l1871 y1871 z1871 st1871 hQ1871
            subst l1871 y1871 z1871
            obtain ⟨rfl, N1871q, e1873⟩ := hQ1871
            have N1872 := Fr.app N1869 N1871q
            obtain ⟨_, _, ⟨T1874, L1874, k1874, n1874⟩, -, X1874, ⟨Lc1874, hQ1874, l1874, y1874, z1874⟩, st1874⟩ := Jvm.LawKit.callS X1871 hx (y := (⟨"com/example/thyme/thyme/lang/ScopeInstancePinLaw", "same", "(Ljava/lang/String;Ljava/lang/String;)Z"⟩ : MethodName)) hown1821 (mvT hZ1821 (hw _ (List.mem_of_getElem? (i := 63) rfl))) (mvT hZ1821 (hw _ (List.mem_of_getElem? (i := 64) rfl))) (mvT hZ1821 (hw _ (List.mem_of_getElem? (i := 2) rfl))) (mvT hZ1821 (hw _ (List.mem_of_getElem? (i := 65) rfl))) (by decide) (backOf (W := 0) (own_rmPS l Z av hw [] b1822 b1822 h1846 n0 z1867 f1864 (rfl)) hZ1821 (hw _ (List.mem_of_getElem? (i := 65) rfl)) (hw _ (List.mem_of_getElem? (i := 2) rfl)) (by decide) (by decide)) (g := (mkF m 126 #[.val (.int p0), .val (.int p1), .val (.int p2), .val (.int p3), .val (.int p4), .val (.int p5), .val (.ref r961), .val (.ref b1407), .val (.ref b1472), .val (.ref b1688), .val (.ref b1729), .val (.int (1 : Int32)), .val (.ref b1822)] [(.ref b1822), (.ref b1822)])) rfl (by rw [hml]; rfl) (argsL := [(.ref b1822), (.ref b1822)]) (rest := []) (lenOf own_pd15 rfl) rfl (by show 2 * 0 + _ ≤ _; exact Nat.le_of_eq rfl) (hb hby at_126) (fun _ _ => ⟨rfl, e1873, (by decide : 29 + 0 ≤ _), (by decide : 104 + 0 ≤ _)⟩)
            dsimp only [Pt.U, Pt.locs, Pt.cells, Pt.slots] at X1874 l1874 y1874 z1874 st1874 hQ1874
            subst l1874 y1874 z1874
            obtain ⟨rfl, N1874q, e1876⟩ := hQ1874
            have N1875 := Fr.app N1872 N1874q
            obtain ⟨fs, hr, hrun, hended, hR1, hR2, hR3, hR4⟩ := Stand.leaveW (s := s) (vm₁ := T1821.vm) X1874 hS1821 (by rw [e1876]; exact hk1868) (v := some (.int (1 : Int32))) (fun h => by rw [Bd.returns] at h; cases h)
            refine ⟨_, _, pre1786 _ ?_, hrun, hended, _, _, rfl, ?_, (by show CHr Z own_EL s.vm s.heap T1874.vm T1874.heap; rw [hh, e1876]; exact CHr.trans CH1865 (CHv.at (s := s) (vm0 := T1821.vm) X1874 hZ1821 hEL CH1865.1)), hR1, hR2, hR3, hR4.mono (by decide) (by decide)⟩
            · show Steps p.tables e below (T1781.setTop (mkF m 102 #[.val (.int p0), .val (.int p1), .val (.int p2), .val (.int p3), .val (.int p4), .val (.int p5), .val (.ref r961), .val (.ref b1407), .val (.ref b1472), .val (.ref b1688), .val (.ref b1729), .val (.int (1 : Int32)), .unset] [(.int ((p4.toUInt32 >>> ((16 : Int32) &&& 31).toUInt32).toInt32)), (.int p5)])) _
              refine st1821.trans ?_
              show Steps p.tables e below (T1821.setTop (mkF m 105 #[.val (.int p0), .val (.int p1), .val (.int p2), .val (.int p3), .val (.int p4), .val (.int p5), .val (.ref r961), .val (.ref b1407), .val (.ref b1472), .val (.ref b1688), .val (.ref b1729), .val (.int (1 : Int32)), .unset] [(.ref b1822)])) _
              refine XS.astore X1821.here hx rfl (hb hby at_105) rfl rfl (l' := #[.val (.int p0), .val (.int p1), .val (.int p2), .val (.int p3), .val (.int p4), .val (.int p5), .val (.ref r961), .val (.ref b1407), .val (.ref b1472), .val (.ref b1688), .val (.ref b1729), .val (.int (1 : Int32)), .val (.ref b1822)]) rfl ?_
              show Steps p.tables e below (T1821.setTop (mkF m 107 #[.val (.int p0), .val (.int p1), .val (.int p2), .val (.int p3), .val (.int p4), .val (.int p5), .val (.ref r961), .val (.ref b1407), .val (.ref b1472), .val (.ref b1688), .val (.ref b1729), .val (.int (1 : Int32)), .val (.ref b1822)] [])) _
              refine XS.aload X1821.here hx rfl (hb hby at_107) rfl rfl ?_
              show Steps p.tables e below (T1821.setTop (mkF m 109 #[.val (.int p0), .val (.int p1), .val (.int p2), .val (.int p3), .val (.int p4), .val (.int p5), .val (.ref r961), .val (.ref b1407), .val (.ref b1472), .val (.ref b1688), .val (.ref b1729), .val (.int (1 : Int32)), .val (.ref b1822)] [(.ref b1472)])) _
              refine XS.aload X1821.here hx rfl (hb hby at_109) rfl rfl ?_
              show Steps p.tables e below (T1821.setTop (mkF m 111 #[.val (.int p0), .val (.int p1), .val (.int p2), .val (.int p3), .val (.int p4), .val (.int p5), .val (.ref r961), .val (.ref b1407), .val (.ref b1472), .val (.ref b1688), .val (.ref b1729), .val (.int (1 : Int32)), .val (.ref b1822)] [(.ref b1822), (.ref b1472)])) _
              refine st1846 _ ?_
              show Steps p.tables e below (T1846.setTop (mkF m 114 #[.val (.int p0), .val (.int p1), .val (.int p2), .val (.int p3), .val (.int p4), .val (.int p5), .val (.ref r961), .val (.ref b1407), .val (.ref b1472), .val (.ref b1688), .val (.ref b1729), .val (.int (1 : Int32)), .val (.ref b1822)] [])) _
              refine XS.iload X1846.here hx rfl (hb hby at_114) rfl ?_
              show Steps p.tables e below (T1846.setTop (mkF m 116 #[.val (.int p0), .val (.int p1), .val (.int p2), .val (.int p3), .val (.int p4), .val (.int p5), .val (.ref r961), .val (.ref b1407), .val (.ref b1472), .val (.ref b1688), .val (.ref b1729), .val (.int (1 : Int32)), .val (.ref b1822)] [(.int (1 : Int32))])) _
              refine XS.ifNo X1846.here hx rfl (hb hby at_116) rfl ((if0 _ _).trans (feq (by decide : ¬ ((1 : Int32) = (0 : Int32)))).1) ?_
              show Steps p.tables e below (T1846.setTop (mkF m 119 #[.val (.int p0), .val (.int p1), .val (.int p2), .val (.int p3), .val (.int p4), .val (.int p5), .val (.ref r961), .val (.ref b1407), .val (.ref b1472), .val (.ref b1688), .val (.ref b1729), .val (.int (1 : Int32)), .val (.ref b1822)] [])) _
              refine XS.aload X1846.here hx rfl (hb hby at_119) rfl rfl ?_
              show Steps p.tables e below (T1846.setTop (mkF m 121 #[.val (.int p0), .val (.int p1), .val (.int p2), .val (.int p3), .val (.int p4), .val (.int p5), .val (.ref r961), .val (.ref b1407), .val (.ref b1472), .val (.ref b1688), .val (.ref b1729), .val (.int (1 : Int32)), .val (.ref b1822)] [(.ref b1729)])) _
              refine st1871.trans ?_
              show Steps p.tables e below (T1871.setTop (mkF m 124 #[.val (.int p0), .val (.int p1), .val (.int p2), .val (.int p3), .val (.int p4), .val (.int p5), .val (.ref r961), .val (.ref b1407), .val (.ref b1472), .val (.ref b1688), .val (.ref b1729), .val (.int (1 : Int32)), .val (.ref b1822)] [(.ref b1822)])) _
              refine XS.aload X1871.here hx rfl (hb hby at_124) rfl rfl ?_
              show Steps p.tables e below (T1871.setTop (mkF m 126 #[.val (.int p0), .val (.int p1), .val (.int p2), .val (.int p3), .val (.int p4), .val (.int p5), .val (.ref r961), .val (.ref b1407), .val (.ref b1472), .val (.ref b1688), .val (.ref b1729), .val (.int (1 : Int32)), .val (.ref b1822)] [(.ref b1822), (.ref b1822)])) _
              refine st1874 _ ?_
              show Steps p.tables e below (T1874.setTop (mkF m 129 #[.val (.int p0), .val (.int p1), .val (.int p2), .val (.int p3), .val (.int p4), .val (.int p5), .val (.ref r961), .val (.ref b1407), .val (.ref b1472), .val (.ref b1688), .val (.ref b1729), .val (.int (1 : Int32)), .val (.ref b1822)] [(.int (1 : Int32))])) _
              refine XS.ifNo X1874.here hx rfl (hb hby at_129) rfl ((if0 _ _).trans (feq (by decide : ¬ ((1 : Int32) = (0 : Int32)))).1) ?_
              show Steps p.tables e below (T1874.setTop (mkF m 132 #[.val (.int p0), .val (.int p1), .val (.int p2), .val (.int p3), .val (.int p4), .val (.int p5), .val (.ref r961), .val (.ref b1407), .val (.ref b1472), .val (.ref b1688), .val (.ref b1729), .val (.int (1 : Int32)), .val (.ref b1822)] [])) _
              refine XS.iconst X1874.here hx rfl (hb hby at_132) ?_
              show Steps p.tables e below (T1874.setTop (mkF m 133 #[.val (.int p0), .val (.int p1), .val (.int p2), .val (.int p3), .val (.int p4), .val (.int p5), .val (.ref r961), .val (.ref b1407), .val (.ref b1472), .val (.ref b1688), .val (.ref b1729), .val (.int (1 : Int32)), .val (.ref b1822)] [(.int (1 : Int32))])) _
              refine XS.goto X1874.here hx rfl (pc0 := 133) (pc' := 137) rfl (hb hby at_133) (by decide) (by decide) ?_
              show Steps p.tables e below (T1874.setTop (mkF m 137 #[.val (.int p0), .val (.int p1), .val (.int p2), .val (.int p3), .val (.int p4), .val (.int p5), .val (.ref r961), .val (.ref b1407), .val (.ref b1472), .val (.ref b1688), .val (.ref b1729), .val (.int (1 : Int32)), .val (.ref b1822)] [(.int (1 : Int32))])) _
              refine XS.istore X1874.here hx rfl (hb hby at_137) rfl (l' := #[.val (.int p0), .val (.int p1), .val (.int p2), .val (.int p3), .val (.int p4), .val (.int p5), .val (.ref r961), .val (.ref b1407), .val (.ref b1472), .val (.ref b1688), .val (.ref b1729), .val (.int (1 : Int32)), .val (.ref b1822)]) rfl ?_
              show Steps p.tables e below (T1874.setTop (mkF m 139 #[.val (.int p0), .val (.int p1), .val (.int p2), .val (.int p3), .val (.int p4), .val (.int p5), .val (.ref r961), .val (.ref b1407), .val (.ref b1472), .val (.ref b1688), .val (.ref b1729), .val (.int (1 : Int32)), .val (.ref b1822)] [])) _
              refine XS.iload X1874.here hx rfl (hb hby at_139) rfl ?_
              show Steps p.tables e below (T1874.setTop (mkF m 141 #[.val (.int p0), .val (.int p1), .val (.int p2), .val (.int p3), .val (.int p4), .val (.int p5), .val (.ref r961), .val (.ref b1407), .val (.ref b1472), .val (.ref b1688), .val (.ref b1729), .val (.int (1 : Int32)), .val (.ref b1822)] [(.int (1 : Int32))])) _
              exact retN X1874 hx (t := .boolean) Bd.returns (by simp) (hb hby at_141) hr
            · show own_Q0 Z p0 p1 p2 p3 p4 p5 x0 x1 x2 x3 x4 x5 x6 x7 cs ed h0 n0 _ T1874.heap _
              rw [e1876]
              exact ⟨rfl, N1875⟩
set_option maxRecDepth 65536 in
set_option maxHeartbeats 40000000 in
theorem comes_1 {Post : Tables → Env → Array Value → State → Outcome → State → Prop} (hpost : ∀ tb e args s v u, (limb_1_1.after args s (.returned v) u = true ∧ limb_1_2.after args s (.returned v) u = true ∧ True) → ReturnedEndW s (.returned v) u (Jvm.fieldLocs frame_1_writes args s ++ Jvm.arrayLocs frame_1_arrays args s ++ Jvm.staticLocs frame_1_statics s) 56 1280 → Post tb e args s (.returned v) u) :
    ArmFor flags0 classFile x code maxLocals ret World_1 tables_1 room_1 Calls_1 rest_1 Pre_1 Post := by
  intro l hfl _ _ p e ha hc hk s m args below hf hA hF happ hP
  obtain ⟨hcalls, hrest, hpre⟩ := hP
  obtain ⟨-, -, -, hnamed, -, -, -, hat⟩ := (Spec.applies_iff hf).mp happ
  obtain ⟨hg, hn⟩ := and_e (Cond.before_iff.mp (show (Jvm.Cond.and given_1 narrow_1).before args s = true from hpre))
  obtain ⟨gg1, gg2⟩ := and_e hg
  obtain ⟨gg3, gg4⟩ := and_e gg2
  obtain ⟨gg5, gg6⟩ := and_e gg4
  obtain ⟨gg7, gg8⟩ := and_e gg6
  obtain ⟨gg9, gg10⟩ := and_e gg8
  obtain ⟨gg11, gg12⟩ := and_e gg10
  obtain ⟨w0, w1, w2, w3, w4, w5, rfl⟩ : ∃ w0 w1 w2 w3 w4 w5 : Value, args = #[w0, w1, w2, w3, w4, w5] := by
    have hs : args.size = 6 := by simpa [Cond.value, given_1] using gg1
    obtain ⟨L⟩ := args
    match L, hs with
    | [w0, w1, w2, w3, w4, w5], _ => exact ⟨w0, w1, w2, w3, w4, w5, rfl⟩
  have hw := fun d (hd : d ∈ tables_1) => atoms_spec (ws := Jvm.Cond.code x code maxLocals ret :: tables_1) hat d (List.mem_cons_of_mem _ hd)
  have hfit : Fit s := fun {y c} hc i hi => by
    obtain ⟨ha, rfl⟩ := Array.getElem?_eq_some_iff.mp hc
    have q := List.all_eq_true.mp ((Array.all_eq_true_iff_forall_mem.mp hF) _ (Array.getElem_mem ha)) i (List.mem_range.mpr hi)
    simpa [Array.getElem?_eq_getElem hi] using q
  obtain ⟨hsets, hown0⟩ := atoms_of _ (rest_1_c_eq ▸ (show rest_1_c.before _ s = true from hrest))
  have hr0 := Cond.before_iff.mp hown0
  obtain ⟨i0, ei0⟩ := is_v gg3
  obtain rfl : w0 = (.int i0) := Option.some.inj ei0
  obtain ⟨i1, ei1⟩ := is_v gg5
  obtain rfl : w1 = (.int i1) := Option.some.inj ei1
  obtain ⟨i2, ei2⟩ := is_v gg7
  obtain rfl : w2 = (.int i2) := Option.some.inj ei2
  obtain ⟨i3, ei3⟩ := is_v gg9
  obtain rfl : w3 = (.int i3) := Option.some.inj ei3
  obtain ⟨i4, ei4⟩ := is_v gg11
  obtain rfl : w4 = (.int i4) := Option.some.inj ei4
  obtain ⟨i5, ei5⟩ := is_v gg12
  obtain rfl : w5 = (.int i5) := Option.some.inj ei5
  obtain ⟨nn1, nn2⟩ := and_e hn
  obtain ⟨nn3, nn4⟩ := and_e nn2
  obtain ⟨nn5, nn6⟩ := and_e nn4
  obtain ⟨nn7, nn8⟩ := and_e nn6
  obtain ⟨nn9, nn10⟩ := and_e nn8
  obtain ⟨nn11, nn12⟩ := and_e nn10
  obtain ⟨nn13, nn14⟩ := and_e nn12
  obtain ⟨x0, ev_x0⟩ := exa_v nn1
  have St_x0 := Sta.start ev_x0 (Or.inr ⟨(hw _ (List.mem_of_getElem? (i := 5) rfl)), (hw _ (List.mem_of_getElem? (i := 6) rfl))⟩)
  obtain ⟨x4, ev_x4⟩ := exa_v nn3
  have St_x4 := Sta.start ev_x4 (Or.inr ⟨(hw _ (List.mem_of_getElem? (i := 5) rfl)), (hw _ (List.mem_of_getElem? (i := 67) rfl))⟩)
  obtain ⟨x5, ev_x5⟩ := exa_v nn5
  have St_x5 := Sta.start ev_x5 (Or.inr ⟨(hw _ (List.mem_of_getElem? (i := 5) rfl)), (hw _ (List.mem_of_getElem? (i := 173) rfl))⟩)
  obtain ⟨x7, ev_x7⟩ := exa_v nn7
  have St_x7 := Sta.start ev_x7 (Or.inr ⟨(hw _ (List.mem_of_getElem? (i := 5) rfl)), (hw _ (List.mem_of_getElem? (i := 175) rfl))⟩)
  obtain ⟨x2, ev_x2⟩ := exa_v nn9
  have St_x2 := Sta.start ev_x2 (Or.inr ⟨(hw _ (List.mem_of_getElem? (i := 5) rfl)), (hw _ (List.mem_of_getElem? (i := 177) rfl))⟩)
  obtain ⟨x6, ev_x6⟩ := exa_v nn11
  have St_x6 := Sta.start ev_x6 (Or.inr ⟨(hw _ (List.mem_of_getElem? (i := 5) rfl)), (hw _ (List.mem_of_getElem? (i := 179) rfl))⟩)
  obtain ⟨x3, ev_x3⟩ := exa_v nn13
  have St_x3 := Sta.start ev_x3 (Or.inr ⟨(hw _ (List.mem_of_getElem? (i := 5) rfl)), (hw _ (List.mem_of_getElem? (i := 184) rfl))⟩)
  obtain ⟨x1, ev_x1⟩ := exa_v nn14
  have St_x1 := Sta.start ev_x1 (Or.inr ⟨(hw _ (List.mem_of_getElem? (i := 5) rfl)), (hw _ (List.mem_of_getElem? (i := 186) rfl))⟩)
  obtain ⟨cs, ev_cs⟩ := is_v (Cond.before_iff.mp (hsets _ (List.mem_of_getElem? (i := 1) rfl)))
  have St_cs := Sta.start ev_cs (Or.inl (hsets _ (List.mem_of_getElem? (i := 0) rfl)))
  have hcs := own_ne0 (Cond.before_iff.mp (hsets _ (List.mem_of_getElem? (i := 2) rfl))) ev_cs
  obtain ⟨ed, ev_ed⟩ := exa_v (Cond.before_iff.mp (hsets _ (List.mem_of_getElem? (i := 16) rfl)))
  have St_ed := Sta.start ev_ed (Or.inr ⟨(hw _ (List.mem_of_getElem? (i := 139) rfl)), (hsets _ (List.mem_of_getElem? (i := 11) rfl))⟩)
  obtain ⟨n, o, h1, h2, h3, _, L, rfl, ⟨rfl, N⟩, -, hq⟩ := own_rm0 l s _ hw tables_1 i0 i1 i2 i3 i4 i5 x0 x1 x2 x3 x4 x5 x6 x7 cs ed s.heap s.heap.size (Nat.le_refl _) St_x0 St_x1 St_x2 St_x3 St_x4 St_x5 St_x6 St_x7 St_cs St_ed hcs p e ha hc hk s m _ below hf ((Spec.applies_iff_loose hf).mp happ).1 ⟨rfl, State.Warmed39.refl s, rfl, CHv.start (own_hEL hw) hcalls.1 (hsets _ (List.mem_of_getElem? (i := 2) rfl)) (hw _ (List.mem_of_getElem? (i := 29) rfl)) (hw _ (List.mem_of_getElem? (i := 12) rfl)), fun _ q => nomatch q⟩ trivial
  refine ⟨n, _, h1, h2, h3, hpost _ _ _ _ _ _ ⟨Cond.after_iff.mpr rfl, Cond.after_iff.mpr (eq_i res_at (Term.int_eval (1)) rfl), trivial⟩ ⟨hq.1, hq.2.1, hq.2.2.1, (hq.2.2.2.sift fun y hy => Or.inr (N y hy)).mono (by decide) (by decide)⟩⟩
theorem main_1_1 : Claimed_1_1 := comes_1 fun _ _ _ _ _ _ h hF => ⟨h.1, hF⟩
theorem main_1_2 : Claimed_1_2 := comes_1 fun _ _ _ _ _ _ h hF => ⟨h.2.1, hF⟩
end Jvm.Pilot.@@N@@
namespace Jvm.Pilot.@@N@@
open Jvm Jvm.ClassFile Sem Op Lib Jvm.Free Jvm.Stand Jvm.Pilot.@@N@@.Jvm.D
/-! MADE BY PROGRAM (witnessworld.py) out of the Statement's table words and the real class files: 39 classes; the members and pool entries that the words name. The judged class is class 1, her method 1. -/
namespace start1
open Jvm.ClassFile
def u (s : String) : CpInfo := .utf8 (stringToUtf16 s)
/-- a pool by its gaps: so many unusable entries, then the entry; so many at the end -/
def gap : Nat → List CpInfo → List CpInfo
  | 0, r => r
  | n + 1, r => .unusable :: gap n r
def poolList (es : List (Nat × CpInfo)) (last : Nat) : List CpInfo := es.foldr (fun e r => gap e.1 (e.2 :: r)) (gap last [])
def pool (es : List (Nat × CpInfo)) (last : Nat) : Array CpInfo := ⟨poolList es last⟩
def fileOf (pool : Array CpInfo) (this : Nat) (attrs : Array Attribute := #[]) (ms : Array MethodInfo := #[]) (fl : Nat := 33) (sup : Nat := 0) (ifs : Array Nat := #[]) (fds : Array FieldInfo := #[]) : ClassFile where
  minorVersion := 0
  majorVersion := 65
  constantPool := pool
  accessFlags := fl
  thisClass := this
  superClass := sup
  interfaces := ifs
  fields := fds
  methods := ms
  attributes := attrs
def plain (name : String) (sup : Option ClassId) : Class where
  name := name
  kind := .ordinary
  loader := none
  accessFlags := 33
  super := sup
  interfaces := #[]
  cf := none
  fields := #[]
  methods := #[]
  instanceTypes := #[]
  staticTypes := #[]
  resolved := #[]
  callSites := []
  init := .initialized
  statics := none
  mirror := none

def pool0 : Array CpInfo := pool [(5, u "<init>"), (0, u "()V"), (1, .class_ 10), (1, u "java/lang/Object")] 113

def k0c0 : Code := { maxStack := 0, maxLocals := 1, code := object_method_1_code, exceptionTable := #[], attributes := #[] }
def k0m0 : Method := { name := "<init>", desc := "()V", sig := { parameters := [], returnType := none }, accessFlags := 1, code := some k0c0 }
/-- java/lang/Object -/
def k0 : Class := { plain "java/lang/Object" none with
  accessFlags := 33
  interfaces := #[]
  cf := some (fileOf pool0 8 #[] #[{ accessFlags := 1, nameIndex := 5, descriptorIndex := 6, attributes := #[] }] 33 0 #[] #[])
  fields := #[]
  methods := #[k0m0]
  instanceTypes := #[]
  staticTypes := #[]
  resolved := Array.replicate 124 none
  statics := none }

def pool1 : Array CpInfo := pool [(2, .class_ 4), (0, .nameAndType 5 6), (0, u "java/lang/Object"), (0, u "<init>"), (0, u "()V"), (0, .methodref 8 9), (0, .class_ 10), (0, .nameAndType 11 12), (0, u "com/example/thyme/thyme/lang/ScopeInstancePinLaw"), (0, u "context"), (0, u "(I)Lcom/example/thyme/thyme/lang/ExpressionResolver$Context;"), (0, .methodref 8 14), (0, .nameAndType 15 16), (0, u "str"), (0, u "(II)Ljava/lang/String;"), (0, .class_ 18), (0, u "com/example/thyme/thyme/lang/Symbols$Locals"), (0, .methodref 17 3), (0, .fieldref 17 21), (0, .nameAndType 22 23), (0, u "instance"), (0, u "Ljava/lang/String;"), (0, .class_ 25), (0, u "com/example/thyme/thyme/lang/ExpressionResolver$Scope"), (0, .methodref 24 27), (0, .nameAndType 5 28), (0, u "(Lcom/example/thyme/thyme/lang/ExpressionResolver$Context;Ljava/lang/String;Lcom/example/thyme/thyme/lang/Symbols$Locals;)V"), (0, .methodref 24 30), (0, .nameAndType 22 31), (0, u "()Ljava/lang/String;"), (0, .methodref 8 33), (0, .nameAndType 34 35), (0, u "same"), (0, u "(Ljava/lang/String;Ljava/lang/String;)Z"), (0, .methodref 37 38), (0, .class_ 39), (0, .nameAndType 40 41), (0, u "java/lang/String"), (0, u "equals"), (0, u "(Ljava/lang/Object;)Z"), (0, .methodref 37 43), (0, .nameAndType 5 44), (0, u "([C)V"), (0, .methodref 37 46), (0, .nameAndType 47 48), (0, u "valueOf"), (0, u "(C)Ljava/lang/String;"), (0, .fieldref 50 51), (0, .class_ 52), (0, .nameAndType 53 54), (0, u "com/example/thyme/thyme/lang/ExpressionResolver$Context"), (0, u "CONSTANT"), (0, u "Lcom/example/thyme/thyme/lang/ExpressionResolver$Context;"), (0, .fieldref 50 56), (0, .nameAndType 57 54), (0, u "STATIC"), (0, .fieldref 50 59), (0, .nameAndType 60 54), (0, u "CLOCK_CONSTANT"), (0, .fieldref 50 62), (0, .nameAndType 63 54), (0, u "SIZE"), (0, .fieldref 50 65), (0, .nameAndType 66 54), (0, u "INDEX"), (0, .fieldref 50 68), (0, .nameAndType 69 54), (0, u "ARGUMENT"), (0, .fieldref 50 71), (0, .nameAndType 72 54), (0, u "AUTOMATON"), (0, .fieldref 50 74), (0, .nameAndType 75 54), (0, u "CHECK"), (2, u "law"), (0, u "(IIIIII)Z")] 11

def k1m0 : Method := { name := "<init>", desc := "()V", sig := { parameters := [], returnType := none }, accessFlags := 1, code := none }
def k1c1 : Code := { maxStack := 5, maxLocals := 13, code := code, exceptionTable := #[], attributes := #[] }
def k1m1 : Method := { name := "law", desc := "(IIIIII)Z", sig := { parameters := [.int, .int, .int, .int, .int, .int], returnType := some .boolean }, accessFlags := 9, code := some k1c1 }
def k1c2 : Code := { maxStack := 2, maxLocals := 2, code := method_3_code, exceptionTable := #[], attributes := #[] }
def k1m2 : Method := { name := "same", desc := "(Ljava/lang/String;Ljava/lang/String;)Z", sig := { parameters := [(.object "java/lang/String"), (.object "java/lang/String")], returnType := some .boolean }, accessFlags := 10, code := some k1c2 }
def k1c3 : Code := { maxStack := 4, maxLocals := 5, code := method_4_code, exceptionTable := #[], attributes := #[] }
def k1m3 : Method := { name := "str", desc := "(II)Ljava/lang/String;", sig := { parameters := [.int, .int], returnType := some (.object "java/lang/String") }, accessFlags := 10, code := some k1c3 }
def k1c4 : Code := { maxStack := 2, maxLocals := 1, code := method_5_code, exceptionTable := #[], attributes := #[] }
def k1m4 : Method := { name := "context", desc := "(I)Lcom/example/thyme/thyme/lang/ExpressionResolver$Context;", sig := { parameters := [.int], returnType := some (.object "com/example/thyme/thyme/lang/ExpressionResolver$Context") }, accessFlags := 10, code := some k1c4 }
/-- com/example/thyme/thyme/lang/ScopeInstancePinLaw -/
def k1 : Class := { plain "com/example/thyme/thyme/lang/ScopeInstancePinLaw" (some 0) with
  accessFlags := 49
  interfaces := #[]
  cf := some (fileOf pool1 8 #[] #[{ accessFlags := 1, nameIndex := 5, descriptorIndex := 6, attributes := #[] }, { accessFlags := 9, nameIndex := 78, descriptorIndex := 79, attributes := #[] }, { accessFlags := 10, nameIndex := 34, descriptorIndex := 35, attributes := #[] }, { accessFlags := 10, nameIndex := 15, descriptorIndex := 16, attributes := #[] }, { accessFlags := 10, nameIndex := 11, descriptorIndex := 12, attributes := #[] }] 49 2 #[] #[])
  fields := #[]
  methods := #[k1m0, k1m1, k1m2, k1m3, k1m4]
  instanceTypes := #[]
  staticTypes := #[]
  resolved := Array.replicate 91 none
  statics := none }

def pool2 : Array CpInfo := pool [(1, .class_ 2), (0, u "java/lang/constant/Constable"), (0, .class_ 4), (0, u "java/lang/Object")] 6

/-- java/lang/constant/Constable -/
def k2 : Class := { plain "java/lang/constant/Constable" (some 0) with
  accessFlags := 1537
  interfaces := #[]
  cf := some (fileOf pool2 1 #[] #[] 1537 3 #[] #[])
  fields := #[]
  methods := #[]
  instanceTypes := #[]
  staticTypes := #[]
  resolved := Array.replicate 11 none
  statics := none }

def pool3 : Array CpInfo := pool [(1, .class_ 2), (0, u "java/lang/Comparable"), (0, .class_ 4), (0, u "java/lang/Object")] 7

/-- java/lang/Comparable -/
def k3 : Class := { plain "java/lang/Comparable" (some 0) with
  accessFlags := 1537
  interfaces := #[]
  cf := some (fileOf pool3 1 #[] #[] 1537 3 #[] #[])
  fields := #[]
  methods := #[]
  instanceTypes := #[]
  staticTypes := #[]
  resolved := Array.replicate 12 none
  statics := none }

def pool4 : Array CpInfo := pool [(1, .class_ 2), (0, u "java/io/Serializable"), (0, .class_ 4), (0, u "java/lang/Object")] 2

/-- java/io/Serializable -/
def k4 : Class := { plain "java/io/Serializable" (some 0) with
  accessFlags := 1537
  interfaces := #[]
  cf := some (fileOf pool4 1 #[] #[] 1537 3 #[] #[])
  fields := #[]
  methods := #[]
  instanceTypes := #[]
  staticTypes := #[]
  resolved := Array.replicate 7 none
  statics := none }

def pool5 : Array CpInfo := pool [(2, .class_ 4), (1, u "java/lang/Enum"), (0, u "name"), (0, u "Ljava/lang/String;"), (2, u "ordinal"), (0, u "I"), (1, .class_ 14), (1, u "java/lang/Object"), (4, u "hash"), (86, .class_ 108), (1, u "java/lang/Enum$EnumDesc"), (2, .class_ 112), (0, u "java/lang/constant/Constable"), (0, .class_ 114), (0, u "java/lang/Comparable"), (0, .class_ 116), (0, u "java/io/Serializable")] 87

/-- java/lang/Enum -/
def k5 : Class := { plain "java/lang/Enum" (some 0) with
  accessFlags := 1057
  interfaces := #[2, 3, 4]
  cf := some (fileOf pool5 2 #[.nestMembers #[106]] #[] 1057 12 #[111, 113, 115] #[{ accessFlags := 18, nameIndex := 5, descriptorIndex := 6, attributes := #[] }, { accessFlags := 18, nameIndex := 9, descriptorIndex := 10, attributes := #[] }, { accessFlags := 2, nameIndex := 19, descriptorIndex := 10, attributes := #[] }])
  fields := #[{ name := "name", type := (.object "java/lang/String"), accessFlags := 18, slot := 0, constantValue := 0 }, { name := "ordinal", type := .int, accessFlags := 18, slot := 1, constantValue := 0 }, { name := "hash", type := .int, accessFlags := 2, slot := 2, constantValue := 0 }]
  methods := #[]
  instanceTypes := #[(.object "java/lang/String"), .int, .int]
  staticTypes := #[]
  resolved := Array.replicate 204 none
  statics := none }

def pool6 : Array CpInfo := pool [(1, .class_ 2), (0, u "com/example/thyme/thyme/lang/ExpressionResolver$Context"), (2, u "CONSTANT"), (0, u "Lcom/example/thyme/thyme/lang/ExpressionResolver$Context;"), (2, u "STATIC"), (2, u "CLOCK_CONSTANT"), (2, u "SIZE"), (2, u "INDEX"), (2, u "ARGUMENT"), (2, u "AUTOMATON"), (2, u "CHECK"), (2, u "$VALUES"), (0, u "[Lcom/example/thyme/thyme/lang/ExpressionResolver$Context;"), (6, .class_ 40), (1, u "java/lang/Enum"), (8, u "rule"), (0, u "Ljava/lang/String;"), (43, .class_ 95), (0, u "com/example/thyme/thyme/lang/ExpressionResolver")] 2

/-- com/example/thyme/thyme/lang/ExpressionResolver$Context -/
def k6 : Class := { plain "com/example/thyme/thyme/lang/ExpressionResolver$Context" (some 5) with
  accessFlags := 16432
  interfaces := #[]
  cf := some (fileOf pool6 1 #[.nestHost 94] #[] 16432 38 #[] #[{ accessFlags := 16409, nameIndex := 5, descriptorIndex := 6, attributes := #[] }, { accessFlags := 16409, nameIndex := 9, descriptorIndex := 6, attributes := #[] }, { accessFlags := 16409, nameIndex := 12, descriptorIndex := 6, attributes := #[] }, { accessFlags := 16409, nameIndex := 15, descriptorIndex := 6, attributes := #[] }, { accessFlags := 16409, nameIndex := 18, descriptorIndex := 6, attributes := #[] }, { accessFlags := 16409, nameIndex := 21, descriptorIndex := 6, attributes := #[] }, { accessFlags := 16409, nameIndex := 24, descriptorIndex := 6, attributes := #[] }, { accessFlags := 16409, nameIndex := 27, descriptorIndex := 6, attributes := #[] }, { accessFlags := 18, nameIndex := 49, descriptorIndex := 50, attributes := #[] }, { accessFlags := 4122, nameIndex := 30, descriptorIndex := 31, attributes := #[] }])
  fields := #[{ name := "CONSTANT", type := (.object "com/example/thyme/thyme/lang/ExpressionResolver$Context"), accessFlags := 16409, slot := 0, constantValue := 0 }, { name := "STATIC", type := (.object "com/example/thyme/thyme/lang/ExpressionResolver$Context"), accessFlags := 16409, slot := 1, constantValue := 0 }, { name := "CLOCK_CONSTANT", type := (.object "com/example/thyme/thyme/lang/ExpressionResolver$Context"), accessFlags := 16409, slot := 2, constantValue := 0 }, { name := "SIZE", type := (.object "com/example/thyme/thyme/lang/ExpressionResolver$Context"), accessFlags := 16409, slot := 3, constantValue := 0 }, { name := "INDEX", type := (.object "com/example/thyme/thyme/lang/ExpressionResolver$Context"), accessFlags := 16409, slot := 4, constantValue := 0 }, { name := "ARGUMENT", type := (.object "com/example/thyme/thyme/lang/ExpressionResolver$Context"), accessFlags := 16409, slot := 5, constantValue := 0 }, { name := "AUTOMATON", type := (.object "com/example/thyme/thyme/lang/ExpressionResolver$Context"), accessFlags := 16409, slot := 6, constantValue := 0 }, { name := "CHECK", type := (.object "com/example/thyme/thyme/lang/ExpressionResolver$Context"), accessFlags := 16409, slot := 7, constantValue := 0 }, { name := "rule", type := (.object "java/lang/String"), accessFlags := 18, slot := 3, constantValue := 0 }, { name := "$VALUES", type := (.array (.object "com/example/thyme/thyme/lang/ExpressionResolver$Context")), accessFlags := 4122, slot := 8, constantValue := 0 }]
  methods := #[]
  instanceTypes := #[(.object "java/lang/String"), .int, .int, (.object "java/lang/String")]
  staticTypes := #[(.object "com/example/thyme/thyme/lang/ExpressionResolver$Context"), (.object "com/example/thyme/thyme/lang/ExpressionResolver$Context"), (.object "com/example/thyme/thyme/lang/ExpressionResolver$Context"), (.object "com/example/thyme/thyme/lang/ExpressionResolver$Context"), (.object "com/example/thyme/thyme/lang/ExpressionResolver$Context"), (.object "com/example/thyme/thyme/lang/ExpressionResolver$Context"), (.object "com/example/thyme/thyme/lang/ExpressionResolver$Context"), (.object "com/example/thyme/thyme/lang/ExpressionResolver$Context"), (.array (.object "com/example/thyme/thyme/lang/ExpressionResolver$Context"))]
  resolved := Array.replicate 98 none
  statics := some 0 }

def pool7 : Array CpInfo := pool [(2, .class_ 4), (1, u "java/lang/CharSequence"), (42, .class_ 48), (0, u "java/lang/CharSequence$1CodePointIterator"), (10, .class_ 60), (0, u "java/lang/CharSequence$1CharIterator"), (5, .class_ 67), (0, u "java/lang/Object")] 63

/-- java/lang/CharSequence -/
def k7 : Class := { plain "java/lang/CharSequence" (some 0) with
  accessFlags := 1537
  interfaces := #[]
  cf := some (fileOf pool7 2 #[.nestMembers #[47, 59]] #[] 1537 66 #[] #[])
  fields := #[]
  methods := #[]
  instanceTypes := #[]
  staticTypes := #[]
  resolved := Array.replicate 131 none
  statics := none }

def pool8 : Array CpInfo := pool [(1, .class_ 2), (0, u "java/lang/constant/ConstantDesc"), (0, .class_ 4), (0, u "java/lang/Object")] 32

/-- java/lang/constant/ConstantDesc -/
def k8 : Class := { plain "java/lang/constant/ConstantDesc" (some 0) with
  accessFlags := 1537
  interfaces := #[]
  cf := some (fileOf pool8 1 #[] #[] 1537 3 #[] #[])
  fields := #[]
  methods := #[]
  instanceTypes := #[]
  staticTypes := #[]
  resolved := Array.replicate 37 none
  statics := none }

def pool9 : Array CpInfo := pool [(1, .methodref 2 3), (0, .class_ 4), (0, .nameAndType 5 6), (0, u "java/lang/Object"), (0, u "<init>"), (0, u "()V"), (0, .string 8), (0, u ""), (0, .fieldref 10 11), (0, .class_ 12), (0, .nameAndType 13 14), (0, u "java/lang/String"), (0, u "value"), (0, u "[B"), (0, .fieldref 10 16), (0, .nameAndType 17 18), (0, u "coder"), (0, u "B"), (2, u "hash"), (0, u "I"), (2, u "hashIsZero"), (0, u "Z"), (0, .methodref 10 28), (0, .nameAndType 5 29), (0, u "([CIILjava/lang/Void;)V"), (8, .fieldref 10 39), (0, .nameAndType 40 26), (0, u "COMPACT_STRINGS"), (1, .class_ 44), (1, u "java/lang/StringUTF16"), (0, u "compress"), (1, .methodref 42 48), (0, .nameAndType 49 50), (0, u "coderFromArrayLen"), (0, u "([BI)B"), (2, u "toBytes"), (53, .class_ 109), (1, u "java/lang/StringLatin1"), (67, .methodref 42 178), (0, .nameAndType 45 179), (0, u "([CII)[B"), (29, .methodref 10 210), (0, .nameAndType 5 211), (0, u "([BB)V"), (157, u "(C)Z"), (173, u "equals"), (29, u "(Ljava/lang/Object;)Z"), (1, .class_ 576), (0, u "java/lang/CharSequence"), (22, u "CASE_INSENSITIVE_ORDER"), (0, u "Ljava/util/Comparator;"), (181, u "valueOf"), (0, u "(C)Ljava/lang/String;"), (226, u "([C)V"), (4, .methodref 107 1016), (0, .nameAndType 1017 369), (0, u "canEncode"), (0, .methodref 107 1019), (0, .nameAndType 53 1020), (0, u "(C)[B"), (80, u "serialPersistentFields"), (0, u "[Ljava/io/ObjectStreamField;"), (0, .class_ 1104), (0, u "java/lang/String$CaseInsensitiveComparator"), (1, .class_ 1107), (0, u "java/io/Serializable"), (0, .class_ 1109), (0, u "java/lang/Comparable"), (0, .class_ 1111), (0, u "java/lang/constant/Constable"), (0, .class_ 1113), (0, u "java/lang/constant/ConstantDesc"), (2, u "serialVersionUID"), (0, u "J"), (3, u "REPL"), (0, u "C"), (2, u "LATIN1"), (1, u "UTF16")] 323

def k9m0 : Method := { name := "<init>", desc := "()V", sig := { parameters := [], returnType := none }, accessFlags := 1, code := none }
def k9c1 : Code := { maxStack := 5, maxLocals := 2, code := jdk_42_method_3_code, exceptionTable := #[], attributes := #[] }
def k9m1 : Method := { name := "<init>", desc := "([C)V", sig := { parameters := [(.array .char)], returnType := none }, accessFlags := 1, code := some k9c1 }
def k9c2 : Code := { maxStack := 2, maxLocals := 3, code := jdk_42_method_66_code, exceptionTable := #[], attributes := #[] }
def k9m2 : Method := { name := "equals", desc := "(Ljava/lang/Object;)Z", sig := { parameters := [(.object "java/lang/Object")], returnType := some .boolean }, accessFlags := 1, code := some k9c2 }
def k9c3 : Code := { maxStack := 4, maxLocals := 1, code := jdk_42_method_139_code, exceptionTable := #[], attributes := #[] }
def k9m3 : Method := { name := "valueOf", desc := "(C)Ljava/lang/String;", sig := { parameters := [.char], returnType := some (.object "java/lang/String") }, accessFlags := 9, code := some k9c3 }
def k9c4 : Code := { maxStack := 4, maxLocals := 6, code := jdk_42_method_149_code, exceptionTable := #[], attributes := #[] }
def k9m4 : Method := { name := "<init>", desc := "([CIILjava/lang/Void;)V", sig := { parameters := [(.array .char), .int, .int, (.object "java/lang/Void")], returnType := none }, accessFlags := 2, code := some k9c4 }
def k9c5 : Code := { maxStack := 2, maxLocals := 3, code := jdk_42_method_151_code, exceptionTable := #[], attributes := #[] }
def k9m5 : Method := { name := "<init>", desc := "([BB)V", sig := { parameters := [(.array .byte), .byte], returnType := none }, accessFlags := 0, code := some k9c5 }
/-- java/lang/String -/
def k9 : Class := { plain "java/lang/String" (some 0) with
  accessFlags := 49
  interfaces := #[4, 3, 7, 2, 8]
  cf := some (fileOf pool9 10 #[.nestMembers #[1103]] #[{ accessFlags := 1, nameIndex := 5, descriptorIndex := 6, attributes := #[] }, { accessFlags := 1, nameIndex := 5, descriptorIndex := 1010, attributes := #[] }, { accessFlags := 1, nameIndex := 543, descriptorIndex := 573, attributes := #[] }, { accessFlags := 9, nameIndex := 782, descriptorIndex := 783, attributes := #[] }, { accessFlags := 2, nameIndex := 5, descriptorIndex := 29, attributes := #[] }, { accessFlags := 0, nameIndex := 5, descriptorIndex := 211, attributes := #[] }] 49 2 #[1106, 1108, 575, 1110, 1112] #[{ accessFlags := 18, nameIndex := 13, descriptorIndex := 14, attributes := #[] }, { accessFlags := 18, nameIndex := 17, descriptorIndex := 18, attributes := #[] }, { accessFlags := 2, nameIndex := 21, descriptorIndex := 22, attributes := #[] }, { accessFlags := 2, nameIndex := 25, descriptorIndex := 26, attributes := #[] }, { accessFlags := 26, nameIndex := 1116, descriptorIndex := 1117, attributes := #[] }, { accessFlags := 24, nameIndex := 40, descriptorIndex := 26, attributes := #[] }, { accessFlags := 26, nameIndex := 1101, descriptorIndex := 1102, attributes := #[] }, { accessFlags := 26, nameIndex := 1121, descriptorIndex := 1122, attributes := #[] }, { accessFlags := 25, nameIndex := 599, descriptorIndex := 600, attributes := #[] }, { accessFlags := 24, nameIndex := 1125, descriptorIndex := 18, attributes := #[] }, { accessFlags := 24, nameIndex := 1127, descriptorIndex := 18, attributes := #[] }])
  fields := #[{ name := "value", type := (.array .byte), accessFlags := 18, slot := 0, constantValue := 0 }, { name := "coder", type := .byte, accessFlags := 18, slot := 1, constantValue := 0 }, { name := "hash", type := .int, accessFlags := 2, slot := 2, constantValue := 0 }, { name := "hashIsZero", type := .boolean, accessFlags := 2, slot := 3, constantValue := 0 }, { name := "serialVersionUID", type := .long, accessFlags := 26, slot := 0, constantValue := 0 }, { name := "COMPACT_STRINGS", type := .boolean, accessFlags := 24, slot := 1, constantValue := 0 }, { name := "serialPersistentFields", type := (.array (.object "java/io/ObjectStreamField")), accessFlags := 26, slot := 2, constantValue := 0 }, { name := "REPL", type := .char, accessFlags := 26, slot := 3, constantValue := 0 }, { name := "CASE_INSENSITIVE_ORDER", type := (.object "java/util/Comparator"), accessFlags := 25, slot := 4, constantValue := 0 }, { name := "LATIN1", type := .byte, accessFlags := 24, slot := 5, constantValue := 0 }, { name := "UTF16", type := .byte, accessFlags := 24, slot := 6, constantValue := 0 }]
  methods := #[k9m0, k9m1, k9m2, k9m3, k9m4, k9m5]
  instanceTypes := #[(.array .byte), .byte, .int, .boolean]
  staticTypes := #[.long, .boolean, (.array (.object "java/io/ObjectStreamField")), .char, (.object "java/util/Comparator"), .byte, .byte]
  resolved := Array.replicate 1451 none
  statics := some 1 }

def pool10 : Array CpInfo := pool [(6, .class_ 8), (1, u "java/lang/Object"), (0, u "<init>"), (0, u "()V"), (1, .class_ 14), (1, u "java/lang/StringUTF16"), (31, u "$assertionsDisabled"), (0, u "Z"), (13, u "HI_BYTE_SHIFT"), (0, u "I"), (2, u "LO_BYTE_SHIFT"), (49, .methodref 12 116), (0, .nameAndType 117 118), (0, u "compress"), (0, u "([CI[BII)I"), (3, u "([CII)[B"), (138, u "coderFromArrayLen"), (0, u "([BI)B"), (106, .class_ 371), (1, u "java/lang/StringUTF16$LinesSpliterator"), (58, u "MAX_LENGTH"), (196, .class_ 628), (0, u "java/lang/StringUTF16$CodePointsSpliterator"), (0, .class_ 630), (0, u "java/lang/StringUTF16$CharsSpliterator")] 4

def k10m0 : Method := { name := "<init>", desc := "()V", sig := { parameters := [], returnType := none }, accessFlags := 0, code := none }
def k10c1 : Code := { maxStack := 2, maxLocals := 2, code := jdk_52_method_15_code, exceptionTable := #[], attributes := #[] }
def k10m1 : Method := { name := "coderFromArrayLen", desc := "([BI)B", sig := { parameters := [(.array .byte), .int], returnType := some .byte }, accessFlags := 8, code := some k10c1 }
def k10c2 : Code := { maxStack := 5, maxLocals := 6, code := jdk_52_method_16_code, exceptionTable := #[], attributes := #[] }
def k10m2 : Method := { name := "compress", desc := "([CII)[B", sig := { parameters := [(.array .char), .int, .int], returnType := some (.array .byte) }, accessFlags := 9, code := some k10c2 }
def k10c3 : Code := { maxStack := 3, maxLocals := 7, code := jdk_52_method_21_code, exceptionTable := #[], attributes := #[] }
def k10m3 : Method := { name := "compress", desc := "([CI[BII)I", sig := { parameters := [(.array .char), .int, (.array .byte), .int, .int], returnType := some .int }, accessFlags := 9, code := some k10c3 }
/-- java/lang/StringUTF16 -/
def k10 : Class := { plain "java/lang/StringUTF16" (some 0) with
  accessFlags := 48
  interfaces := #[]
  cf := some (fileOf pool10 12 #[.nestMembers #[627, 629, 369]] #[{ accessFlags := 0, nameIndex := 9, descriptorIndex := 10, attributes := #[] }, { accessFlags := 8, nameIndex := 261, descriptorIndex := 262, attributes := #[] }, { accessFlags := 9, nameIndex := 117, descriptorIndex := 122, attributes := #[] }, { accessFlags := 9, nameIndex := 117, descriptorIndex := 118, attributes := #[] }] 48 6 #[] #[{ accessFlags := 26, nameIndex := 61, descriptorIndex := 62, attributes := #[] }, { accessFlags := 26, nameIndex := 65, descriptorIndex := 62, attributes := #[] }, { accessFlags := 24, nameIndex := 430, descriptorIndex := 62, attributes := #[] }, { accessFlags := 4120, nameIndex := 46, descriptorIndex := 47, attributes := #[] }])
  fields := #[{ name := "HI_BYTE_SHIFT", type := .int, accessFlags := 26, slot := 0, constantValue := 0 }, { name := "LO_BYTE_SHIFT", type := .int, accessFlags := 26, slot := 1, constantValue := 0 }, { name := "MAX_LENGTH", type := .int, accessFlags := 24, slot := 2, constantValue := 0 }, { name := "$assertionsDisabled", type := .boolean, accessFlags := 4120, slot := 3, constantValue := 0 }]
  methods := #[k10m0, k10m1, k10m2, k10m3]
  instanceTypes := #[]
  staticTypes := #[.int, .int, .int, .boolean]
  resolved := Array.replicate 635 none
  statics := none }

def pool11 : Array CpInfo := pool [(1, .methodref 2 3), (0, .class_ 4), (0, .nameAndType 5 6), (0, u "java/lang/Object"), (0, u "<init>"), (0, u "()V"), (0, .class_ 8), (0, u "java/lang/Record")] 13

def k11c0 : Code := { maxStack := 1, maxLocals := 1, code := jdk_30_method_1_code, exceptionTable := #[], attributes := #[] }
def k11m0 : Method := { name := "<init>", desc := "()V", sig := { parameters := [], returnType := none }, accessFlags := 4, code := some k11c0 }
/-- java/lang/Record -/
def k11 : Class := { plain "java/lang/Record" (some 0) with
  accessFlags := 1057
  interfaces := #[]
  cf := some (fileOf pool11 7 #[] #[{ accessFlags := 4, nameIndex := 5, descriptorIndex := 6, attributes := #[] }] 1057 2 #[] #[])
  fields := #[]
  methods := #[k11m0]
  instanceTypes := #[]
  staticTypes := #[]
  resolved := Array.replicate 22 none
  statics := none }

def pool12 : Array CpInfo := pool [(1, .methodref 2 3), (0, .class_ 4), (0, .nameAndType 5 6), (0, u "java/lang/Record"), (0, u "<init>"), (0, u "()V"), (0, .fieldref 8 9), (0, .class_ 10), (0, .nameAndType 11 12), (0, u "com/example/thyme/thyme/lang/ExpressionResolver$Scope"), (0, u "context"), (0, u "Lcom/example/thyme/thyme/lang/ExpressionResolver$Context;"), (0, .fieldref 8 14), (0, .nameAndType 15 16), (0, u "constant"), (0, u "Ljava/lang/String;"), (0, .fieldref 8 18), (0, .nameAndType 19 20), (0, u "locals"), (0, u "Lcom/example/thyme/thyme/lang/Symbols$Locals;"), (2, u "(Lcom/example/thyme/thyme/lang/ExpressionResolver$Context;Ljava/lang/String;Lcom/example/thyme/thyme/lang/Symbols$Locals;)V"), (0, .fieldref 25 26), (0, .class_ 27), (0, .nameAndType 28 16), (0, u "com/example/thyme/thyme/lang/Symbols$Locals"), (0, u "instance"), (17, u "()Ljava/lang/String;"), (10, .class_ 58), (0, u "com/example/thyme/thyme/lang/ExpressionResolver")] 27

def k12c0 : Code := { maxStack := 2, maxLocals := 4, code := prog_78_method_1_code, exceptionTable := #[], attributes := #[] }
def k12m0 : Method := { name := "<init>", desc := "(Lcom/example/thyme/thyme/lang/ExpressionResolver$Context;Ljava/lang/String;Lcom/example/thyme/thyme/lang/Symbols$Locals;)V", sig := { parameters := [(.object "com/example/thyme/thyme/lang/ExpressionResolver$Context"), (.object "java/lang/String"), (.object "com/example/thyme/thyme/lang/Symbols$Locals")], returnType := none }, accessFlags := 0, code := some k12c0 }
def k12c1 : Code := { maxStack := 1, maxLocals := 1, code := prog_78_method_3_code, exceptionTable := #[], attributes := #[] }
def k12m1 : Method := { name := "instance", desc := "()Ljava/lang/String;", sig := { parameters := [], returnType := some (.object "java/lang/String") }, accessFlags := 0, code := some k12c1 }
/-- com/example/thyme/thyme/lang/ExpressionResolver$Scope -/
def k12 : Class := { plain "com/example/thyme/thyme/lang/ExpressionResolver$Scope" (some 11) with
  accessFlags := 48
  interfaces := #[]
  cf := some (fileOf pool12 8 #[.nestHost 57] #[{ accessFlags := 0, nameIndex := 5, descriptorIndex := 23, attributes := #[] }, { accessFlags := 0, nameIndex := 28, descriptorIndex := 46, attributes := #[] }] 48 2 #[] #[{ accessFlags := 18, nameIndex := 11, descriptorIndex := 12, attributes := #[] }, { accessFlags := 18, nameIndex := 15, descriptorIndex := 16, attributes := #[] }, { accessFlags := 18, nameIndex := 19, descriptorIndex := 20, attributes := #[] }])
  fields := #[{ name := "context", type := (.object "com/example/thyme/thyme/lang/ExpressionResolver$Context"), accessFlags := 18, slot := 0, constantValue := 0 }, { name := "constant", type := (.object "java/lang/String"), accessFlags := 18, slot := 1, constantValue := 0 }, { name := "locals", type := (.object "com/example/thyme/thyme/lang/Symbols$Locals"), accessFlags := 18, slot := 2, constantValue := 0 }]
  methods := #[k12m0, k12m1]
  instanceTypes := #[(.object "com/example/thyme/thyme/lang/ExpressionResolver$Context"), (.object "java/lang/String"), (.object "com/example/thyme/thyme/lang/Symbols$Locals")]
  staticTypes := #[]
  resolved := Array.replicate 86 none
  statics := none }

def pool13 : Array CpInfo := pool [(4, .class_ 6), (1, u "java/lang/Object"), (0, u "<init>"), (0, u "()V"), (5, .class_ 16), (1, u "java/lang/StringLatin1"), (73, u "canEncode"), (14, u "(C)Z"), (15, u "$assertionsDisabled"), (0, u "Z"), (98, .class_ 223), (1, u "java/lang/StringLatin1$LinesSpliterator"), (156, u "toBytes"), (1, u "(C)[B"), (7, .class_ 391), (0, u "java/lang/StringLatin1$CharsSpliterator")] 3

def k13m0 : Method := { name := "<init>", desc := "()V", sig := { parameters := [], returnType := none }, accessFlags := 0, code := none }
def k13c1 : Code := { maxStack := 2, maxLocals := 1, code := jdk_43_method_3_code, exceptionTable := #[], attributes := #[] }
def k13m1 : Method := { name := "canEncode", desc := "(C)Z", sig := { parameters := [.char], returnType := some .boolean }, accessFlags := 9, code := some k13c1 }
def k13c2 : Code := { maxStack := 4, maxLocals := 1, code := jdk_43_method_46_code, exceptionTable := #[], attributes := #[] }
def k13m2 : Method := { name := "toBytes", desc := "(C)[B", sig := { parameters := [.char], returnType := some (.array .byte) }, accessFlags := 9, code := some k13c2 }
/-- java/lang/StringLatin1 -/
def k13 : Class := { plain "java/lang/StringLatin1" (some 0) with
  accessFlags := 48
  interfaces := #[]
  cf := some (fileOf pool13 14 #[.nestMembers #[390, 221]] #[{ accessFlags := 0, nameIndex := 7, descriptorIndex := 8, attributes := #[] }, { accessFlags := 9, nameIndex := 90, descriptorIndex := 105, attributes := #[] }, { accessFlags := 9, nameIndex := 380, descriptorIndex := 382, attributes := #[] }] 48 4 #[] #[{ accessFlags := 4120, nameIndex := 121, descriptorIndex := 122, attributes := #[] }])
  fields := #[{ name := "$assertionsDisabled", type := .boolean, accessFlags := 4120, slot := 0, constantValue := 0 }]
  methods := #[k13m0, k13m1, k13m2]
  instanceTypes := #[]
  staticTypes := #[.boolean]
  resolved := Array.replicate 395 none
  statics := none }

def pool14 : Array CpInfo := pool [(1, .methodref 2 3), (0, .class_ 4), (0, .nameAndType 5 6), (0, u "java/lang/Object"), (0, u "<init>"), (0, u "()V"), (0, .class_ 8), (0, u "java/util/HashMap"), (0, .methodref 7 3), (0, .fieldref 11 12), (0, .class_ 13), (0, .nameAndType 14 15), (0, u "com/example/thyme/thyme/lang/Symbols$Locals"), (0, u "parameters"), (0, u "Ljava/util/Map;"), (0, .fieldref 11 17), (0, .nameAndType 18 15), (0, u "names"), (0, .class_ 20), (0, u "java/util/HashSet"), (0, .methodref 19 3), (0, .fieldref 11 23), (0, .nameAndType 24 25), (0, u "variableNames"), (0, u "Ljava/util/Set;"), (0, .fieldref 11 27), (0, .nameAndType 28 15), (0, u "clocks"), (0, .class_ 30), (0, u "java/util/ArrayList"), (0, .methodref 29 3), (0, .fieldref 11 33), (0, .nameAndType 34 35), (0, u "declaredClocks"), (0, u "Ljava/util/List;"), (0, .fieldref 11 37), (0, .nameAndType 38 15), (0, u "variables"), (0, .fieldref 11 40), (0, .nameAndType 41 35), (0, u "declared"), (0, .fieldref 11 43), (0, .nameAndType 44 15), (0, u "locations"), (0, u "instance"), (0, u "Ljava/lang/String;"), (9, u "slot"), (0, u "Ljava/lang/Integer;"), (5, .class_ 64), (0, u "com/example/thyme/thyme/lang/Symbols")] 12

def k14c0 : Code := { maxStack := 3, maxLocals := 1, code := prog_98_method_1_code, exceptionTable := #[], attributes := #[] }
def k14m0 : Method := { name := "<init>", desc := "()V", sig := { parameters := [], returnType := none }, accessFlags := 0, code := some k14c0 }
/-- com/example/thyme/thyme/lang/Symbols$Locals -/
def k14 : Class := { plain "com/example/thyme/thyme/lang/Symbols$Locals" (some 0) with
  accessFlags := 32
  interfaces := #[]
  cf := some (fileOf pool14 11 #[.nestHost 63] #[{ accessFlags := 0, nameIndex := 5, descriptorIndex := 6, attributes := #[] }] 32 2 #[] #[{ accessFlags := 0, nameIndex := 45, descriptorIndex := 46, attributes := #[] }, { accessFlags := 16, nameIndex := 14, descriptorIndex := 15, attributes := #[] }, { accessFlags := 16, nameIndex := 18, descriptorIndex := 15, attributes := #[] }, { accessFlags := 16, nameIndex := 24, descriptorIndex := 25, attributes := #[] }, { accessFlags := 16, nameIndex := 28, descriptorIndex := 15, attributes := #[] }, { accessFlags := 16, nameIndex := 34, descriptorIndex := 35, attributes := #[] }, { accessFlags := 16, nameIndex := 38, descriptorIndex := 15, attributes := #[] }, { accessFlags := 16, nameIndex := 41, descriptorIndex := 35, attributes := #[] }, { accessFlags := 16, nameIndex := 44, descriptorIndex := 15, attributes := #[] }, { accessFlags := 0, nameIndex := 56, descriptorIndex := 57, attributes := #[] }])
  fields := #[{ name := "instance", type := (.object "java/lang/String"), accessFlags := 0, slot := 0, constantValue := 0 }, { name := "parameters", type := (.object "java/util/Map"), accessFlags := 16, slot := 1, constantValue := 0 }, { name := "names", type := (.object "java/util/Map"), accessFlags := 16, slot := 2, constantValue := 0 }, { name := "variableNames", type := (.object "java/util/Set"), accessFlags := 16, slot := 3, constantValue := 0 }, { name := "clocks", type := (.object "java/util/Map"), accessFlags := 16, slot := 4, constantValue := 0 }, { name := "declaredClocks", type := (.object "java/util/List"), accessFlags := 16, slot := 5, constantValue := 0 }, { name := "variables", type := (.object "java/util/Map"), accessFlags := 16, slot := 6, constantValue := 0 }, { name := "declared", type := (.object "java/util/List"), accessFlags := 16, slot := 7, constantValue := 0 }, { name := "locations", type := (.object "java/util/Map"), accessFlags := 16, slot := 8, constantValue := 0 }, { name := "slot", type := (.object "java/lang/Integer"), accessFlags := 0, slot := 9, constantValue := 0 }]
  methods := #[k14m0]
  instanceTypes := #[(.object "java/lang/String"), (.object "java/util/Map"), (.object "java/util/Map"), (.object "java/util/Set"), (.object "java/util/Map"), (.object "java/util/List"), (.object "java/util/Map"), (.object "java/util/List"), (.object "java/util/Map"), (.object "java/lang/Integer")]
  staticTypes := #[]
  resolved := Array.replicate 77 none
  statics := none }

def pool15 : Array CpInfo := pool [(2, .class_ 4), (1, u "java/util/Map"), (31, .class_ 37), (0, u "java/util/Map$Entry"), (55, .class_ 94), (0, u "java/lang/Object")] 168

/-- java/util/Map -/
def k15 : Class := { plain "java/util/Map" (some 0) with
  accessFlags := 1537
  interfaces := #[]
  cf := some (fileOf pool15 2 #[.nestMembers #[36]] #[] 1537 93 #[] #[])
  fields := #[]
  methods := #[]
  instanceTypes := #[]
  staticTypes := #[]
  resolved := Array.replicate 263 none
  statics := none }

def pool16 : Array CpInfo := pool [(1, .methodref 2 3), (0, .class_ 4), (0, .nameAndType 5 6), (0, u "java/lang/Object"), (0, u "<init>"), (0, u "()V"), (1, .class_ 10), (1, u "java/util/AbstractMap"), (42, .class_ 54), (0, u "java/util/Map"), (9, u "keySet"), (0, u "Ljava/util/Set;"), (0, .class_ 67), (0, u "java/util/AbstractMap$1"), (5, u "values"), (0, u "Ljava/util/Collection;"), (0, .class_ 76), (0, u "java/util/AbstractMap$2"), (104, .class_ 182), (0, u "java/util/AbstractMap$ViewCollection"), (0, .class_ 184), (0, u "java/util/AbstractMap$SimpleImmutableEntry"), (0, .class_ 186), (0, u "java/util/AbstractMap$SimpleEntry"), (0, .class_ 188), (0, u "java/util/AbstractMap$2$1"), (0, .class_ 190), (0, u "java/util/AbstractMap$1$1")] 5

def k16c0 : Code := { maxStack := 1, maxLocals := 1, code := jdk_71_method_1_code, exceptionTable := #[], attributes := #[] }
def k16m0 : Method := { name := "<init>", desc := "()V", sig := { parameters := [], returnType := none }, accessFlags := 4, code := some k16c0 }
/-- java/util/AbstractMap -/
def k16 : Class := { plain "java/util/AbstractMap" (some 0) with
  accessFlags := 1057
  interfaces := #[15]
  cf := some (fileOf pool16 8 #[.nestMembers #[181, 183, 185, 75, 187, 66, 189]] #[{ accessFlags := 4, nameIndex := 5, descriptorIndex := 6, attributes := #[] }] 1057 2 #[53] #[{ accessFlags := 128, nameIndex := 64, descriptorIndex := 65, attributes := #[] }, { accessFlags := 128, nameIndex := 73, descriptorIndex := 74, attributes := #[] }])
  fields := #[{ name := "keySet", type := (.object "java/util/Set"), accessFlags := 128, slot := 0, constantValue := 0 }, { name := "values", type := (.object "java/util/Collection"), accessFlags := 128, slot := 1, constantValue := 0 }]
  methods := #[k16m0]
  instanceTypes := #[(.object "java/util/Set"), (.object "java/util/Collection")]
  staticTypes := #[]
  resolved := Array.replicate 196 none
  statics := none }

def pool17 : Array CpInfo := pool [(1, .class_ 2), (0, u "java/lang/Cloneable"), (0, .class_ 4), (0, u "java/lang/Object")] 2

/-- java/lang/Cloneable -/
def k17 : Class := { plain "java/lang/Cloneable" (some 0) with
  accessFlags := 1537
  interfaces := #[]
  cf := some (fileOf pool17 1 #[] #[] 1537 3 #[] #[])
  fields := #[]
  methods := #[]
  instanceTypes := #[]
  staticTypes := #[]
  resolved := Array.replicate 7 none
  statics := none }

def pool18 : Array CpInfo := pool [(40, .class_ 41), (0, u "java/util/HashMap"), (1, .methodref 44 45), (0, .class_ 46), (0, .nameAndType 47 48), (0, u "java/util/AbstractMap"), (0, u "<init>"), (0, u "()V"), (32, .fieldref 40 82), (0, .nameAndType 83 84), (0, u "loadFactor"), (0, u "F"), (5, u "threshold"), (0, u "I"), (0, .float 1061158912), (8, .class_ 103), (1, u "java/util/Map"), (0, u "size"), (2, u "table"), (0, u "[Ljava/util/HashMap$Node;"), (14, u "entrySet"), (39, .class_ 165), (1, u "java/util/HashMap$Node"), (14, .class_ 181), (0, u "java/util/HashMap$TreeNode"), (22, u "modCount"), (37, u "Ljava/util/Set;"), (0, .class_ 244), (0, u "java/util/HashMap$KeySet"), (18, .class_ 264), (0, u "java/util/HashMap$Values"), (3, .class_ 269), (0, u "java/util/HashMap$EntrySet"), (76, .class_ 348), (1, u "java/util/HashMap$UnsafeHolder"), (43, .class_ 393), (0, u "java/lang/Cloneable"), (0, .class_ 395), (0, u "java/io/Serializable"), (0, u "serialVersionUID"), (0, u "J"), (3, u "DEFAULT_INITIAL_CAPACITY"), (1, u "MAXIMUM_CAPACITY"), (0, u "DEFAULT_LOAD_FACTOR"), (0, u "TREEIFY_THRESHOLD"), (1, u "UNTREEIFY_THRESHOLD"), (1, u "MIN_TREEIFY_CAPACITY"), (186, .class_ 597), (0, u "java/util/HashMap$EntrySpliterator"), (0, .class_ 599), (0, u "java/util/HashMap$ValueSpliterator"), (0, .class_ 601), (0, u "java/util/HashMap$KeySpliterator"), (0, .class_ 603), (0, u "java/util/HashMap$HashMapSpliterator"), (0, .class_ 605), (0, u "java/util/HashMap$EntryIterator"), (0, .class_ 607), (0, u "java/util/HashMap$ValueIterator"), (0, .class_ 609), (0, u "java/util/HashMap$KeyIterator"), (0, .class_ 611), (0, u "java/util/HashMap$HashIterator")] 17

def k18c0 : Code := { maxStack := 2, maxLocals := 1, code := jdk_69_method_7_code, exceptionTable := #[], attributes := #[] }
def k18m0 : Method := { name := "<init>", desc := "()V", sig := { parameters := [], returnType := none }, accessFlags := 1, code := some k18c0 }
/-- java/util/HashMap -/
def k18 : Class := { plain "java/util/HashMap" (some 16) with
  accessFlags := 33
  interfaces := #[15, 17, 4]
  cf := some (fileOf pool18 40 #[.nestMembers #[180, 596, 598, 600, 602, 604, 606, 608, 610, 346, 268, 263, 243, 163]] #[{ accessFlags := 1, nameIndex := 47, descriptorIndex := 48, attributes := #[] }] 33 44 #[101, 392, 394] #[{ accessFlags := 26, nameIndex := 396, descriptorIndex := 397, attributes := #[] }, { accessFlags := 24, nameIndex := 401, descriptorIndex := 91, attributes := #[] }, { accessFlags := 24, nameIndex := 403, descriptorIndex := 91, attributes := #[] }, { accessFlags := 24, nameIndex := 404, descriptorIndex := 84, attributes := #[] }, { accessFlags := 24, nameIndex := 405, descriptorIndex := 91, attributes := #[] }, { accessFlags := 24, nameIndex := 407, descriptorIndex := 91, attributes := #[] }, { accessFlags := 24, nameIndex := 409, descriptorIndex := 91, attributes := #[] }, { accessFlags := 128, nameIndex := 107, descriptorIndex := 108, attributes := #[] }, { accessFlags := 128, nameIndex := 123, descriptorIndex := 242, attributes := #[] }, { accessFlags := 128, nameIndex := 104, descriptorIndex := 91, attributes := #[] }, { accessFlags := 128, nameIndex := 204, descriptorIndex := 91, attributes := #[] }, { accessFlags := 0, nameIndex := 90, descriptorIndex := 91, attributes := #[] }, { accessFlags := 16, nameIndex := 83, descriptorIndex := 84, attributes := #[] }])
  fields := #[{ name := "serialVersionUID", type := .long, accessFlags := 26, slot := 0, constantValue := 0 }, { name := "DEFAULT_INITIAL_CAPACITY", type := .int, accessFlags := 24, slot := 1, constantValue := 0 }, { name := "MAXIMUM_CAPACITY", type := .int, accessFlags := 24, slot := 2, constantValue := 0 }, { name := "DEFAULT_LOAD_FACTOR", type := .float, accessFlags := 24, slot := 3, constantValue := 0 }, { name := "TREEIFY_THRESHOLD", type := .int, accessFlags := 24, slot := 4, constantValue := 0 }, { name := "UNTREEIFY_THRESHOLD", type := .int, accessFlags := 24, slot := 5, constantValue := 0 }, { name := "MIN_TREEIFY_CAPACITY", type := .int, accessFlags := 24, slot := 6, constantValue := 0 }, { name := "table", type := (.array (.object "java/util/HashMap$Node")), accessFlags := 128, slot := 2, constantValue := 0 }, { name := "entrySet", type := (.object "java/util/Set"), accessFlags := 128, slot := 3, constantValue := 0 }, { name := "size", type := .int, accessFlags := 128, slot := 4, constantValue := 0 }, { name := "modCount", type := .int, accessFlags := 128, slot := 5, constantValue := 0 }, { name := "threshold", type := .int, accessFlags := 0, slot := 6, constantValue := 0 }, { name := "loadFactor", type := .float, accessFlags := 16, slot := 7, constantValue := 0 }]
  methods := #[k18m0]
  instanceTypes := #[(.object "java/util/Set"), (.object "java/util/Collection"), (.array (.object "java/util/HashMap$Node")), (.object "java/util/Set"), .int, .int, .int, .float]
  staticTypes := #[.long, .int, .int, .float, .int, .int, .int]
  resolved := Array.replicate 629 none
  statics := none }

def pool19 : Array CpInfo := pool [(8, .class_ 10), (1, u "java/lang/Iterable"), (24, .class_ 36), (0, u "java/lang/Object")] 25

/-- java/lang/Iterable -/
def k19 : Class := { plain "java/lang/Iterable" (some 0) with
  accessFlags := 1537
  interfaces := #[]
  cf := some (fileOf pool19 8 #[] #[] 1537 35 #[] #[])
  fields := #[]
  methods := #[]
  instanceTypes := #[]
  staticTypes := #[]
  resolved := Array.replicate 62 none
  statics := none }

def pool20 : Array CpInfo := pool [(10, .class_ 12), (1, u "java/util/Collection"), (47, .class_ 61), (0, u "java/lang/Object"), (0, .class_ 63), (0, u "java/lang/Iterable")] 51

/-- java/util/Collection -/
def k20 : Class := { plain "java/util/Collection" (some 0) with
  accessFlags := 1537
  interfaces := #[19]
  cf := some (fileOf pool20 10 #[] #[] 1537 60 #[62] #[])
  fields := #[]
  methods := #[]
  instanceTypes := #[]
  staticTypes := #[]
  resolved := Array.replicate 115 none
  statics := none }

def pool21 : Array CpInfo := pool [(1, .methodref 2 3), (0, .class_ 4), (0, .nameAndType 5 6), (0, u "java/lang/Object"), (0, u "<init>"), (0, u "()V"), (1, .class_ 10), (1, u "java/util/AbstractCollection"), (66, .class_ 78), (0, u "java/util/Collection")] 81

def k21c0 : Code := { maxStack := 1, maxLocals := 1, code := jdk_22_method_1_code, exceptionTable := #[], attributes := #[] }
def k21m0 : Method := { name := "<init>", desc := "()V", sig := { parameters := [], returnType := none }, accessFlags := 4, code := some k21c0 }
/-- java/util/AbstractCollection -/
def k21 : Class := { plain "java/util/AbstractCollection" (some 0) with
  accessFlags := 1057
  interfaces := #[20]
  cf := some (fileOf pool21 8 #[] #[{ accessFlags := 4, nameIndex := 5, descriptorIndex := 6, attributes := #[] }] 1057 2 #[77] #[])
  fields := #[]
  methods := #[k21m0]
  instanceTypes := #[]
  staticTypes := #[]
  resolved := Array.replicate 160 none
  statics := none }

def pool22 : Array CpInfo := pool [(26, .class_ 27), (0, u "java/lang/Object"), (5, .class_ 34), (0, u "java/util/Set"), (1, .class_ 38), (1, u "java/util/Collection")] 105

/-- java/util/Set -/
def k22 : Class := { plain "java/util/Set" (some 0) with
  accessFlags := 1537
  interfaces := #[20]
  cf := some (fileOf pool22 33 #[] #[] 1537 26 #[36] #[])
  fields := #[]
  methods := #[]
  instanceTypes := #[]
  staticTypes := #[]
  resolved := Array.replicate 144 none
  statics := none }

def pool23 : Array CpInfo := pool [(1, .methodref 2 3), (0, .class_ 4), (0, .nameAndType 5 6), (0, u "java/util/AbstractCollection"), (0, u "<init>"), (0, u "()V"), (0, .class_ 8), (0, u "java/util/Set"), (7, .class_ 17), (0, u "java/util/AbstractSet")] 78

def k23c0 : Code := { maxStack := 1, maxLocals := 1, code := jdk_91_method_1_code, exceptionTable := #[], attributes := #[] }
def k23m0 : Method := { name := "<init>", desc := "()V", sig := { parameters := [], returnType := none }, accessFlags := 4, code := some k23c0 }
/-- java/util/AbstractSet -/
def k23 : Class := { plain "java/util/AbstractSet" (some 21) with
  accessFlags := 1057
  interfaces := #[22]
  cf := some (fileOf pool23 16 #[] #[{ accessFlags := 4, nameIndex := 5, descriptorIndex := 6, attributes := #[] }] 1057 2 #[7] #[])
  fields := #[]
  methods := #[k23m0]
  instanceTypes := #[]
  staticTypes := #[]
  resolved := Array.replicate 96 none
  statics := none }

def pool24 : Array CpInfo := pool [(1, .methodref 2 3), (0, .class_ 4), (0, .nameAndType 5 6), (0, u "java/util/AbstractSet"), (0, u "<init>"), (0, u "()V"), (0, .class_ 8), (0, u "java/util/HashMap"), (0, .methodref 7 3), (0, .fieldref 11 12), (0, .class_ 13), (0, .nameAndType 14 15), (0, u "java/util/HashSet"), (0, u "map"), (0, u "Ljava/util/HashMap;"), (34, .class_ 52), (1, u "java/util/Set"), (13, u "PRESENT"), (0, u "Ljava/lang/Object;"), (158, .class_ 227), (0, u "java/lang/Cloneable"), (0, .class_ 229), (0, u "java/io/Serializable"), (0, u "serialVersionUID"), (0, u "J")] 71

def k24c0 : Code := { maxStack := 3, maxLocals := 1, code := jdk_93_method_1_code, exceptionTable := #[], attributes := #[] }
def k24m0 : Method := { name := "<init>", desc := "()V", sig := { parameters := [], returnType := none }, accessFlags := 1, code := some k24c0 }
/-- java/util/HashSet -/
def k24 : Class := { plain "java/util/HashSet" (some 23) with
  accessFlags := 33
  interfaces := #[22, 17, 4]
  cf := some (fileOf pool24 11 #[] #[{ accessFlags := 1, nameIndex := 5, descriptorIndex := 6, attributes := #[] }] 33 2 #[50, 226, 228] #[{ accessFlags := 24, nameIndex := 230, descriptorIndex := 231, attributes := #[] }, { accessFlags := 128, nameIndex := 14, descriptorIndex := 15, attributes := #[] }, { accessFlags := 24, nameIndex := 66, descriptorIndex := 67, attributes := #[] }])
  fields := #[{ name := "serialVersionUID", type := .long, accessFlags := 24, slot := 0, constantValue := 0 }, { name := "map", type := (.object "java/util/HashMap"), accessFlags := 128, slot := 0, constantValue := 0 }, { name := "PRESENT", type := (.object "java/lang/Object"), accessFlags := 24, slot := 1, constantValue := 0 }]
  methods := #[k24m0]
  instanceTypes := #[(.object "java/util/HashMap")]
  staticTypes := #[.long, (.object "java/lang/Object")]
  resolved := Array.replicate 303 none
  statics := none }

def pool25 : Array CpInfo := pool [(8, .class_ 10), (1, u "java/util/SequencedCollection"), (15, .class_ 27), (0, u "java/lang/Object"), (0, .class_ 29), (0, u "java/util/Collection")] 27

/-- java/util/SequencedCollection -/
def k25 : Class := { plain "java/util/SequencedCollection" (some 0) with
  accessFlags := 1537
  interfaces := #[20]
  cf := some (fileOf pool25 8 #[] #[] 1537 26 #[28] #[])
  fields := #[]
  methods := #[]
  instanceTypes := #[]
  staticTypes := #[]
  resolved := Array.replicate 57 none
  statics := none }

def pool26 : Array CpInfo := pool [(8, .class_ 10), (1, u "java/util/List"), (92, .class_ 104), (0, u "java/lang/Object"), (15, .class_ 121), (0, u "java/util/SequencedCollection")] 129

/-- java/util/List -/
def k26 : Class := { plain "java/util/List" (some 0) with
  accessFlags := 1537
  interfaces := #[25]
  cf := some (fileOf pool26 8 #[] #[] 1537 103 #[120] #[])
  fields := #[]
  methods := #[]
  instanceTypes := #[]
  staticTypes := #[]
  resolved := Array.replicate 251 none
  statics := none }

def pool27 : Array CpInfo := pool [(1, .methodref 2 3), (0, .class_ 4), (0, .nameAndType 5 6), (0, u "java/util/AbstractCollection"), (0, u "<init>"), (0, u "()V"), (0, .fieldref 8 9), (0, .class_ 10), (0, .nameAndType 11 12), (0, u "java/util/AbstractList"), (0, u "modCount"), (0, u "I"), (64, .class_ 78), (0, u "java/util/AbstractList$Itr"), (3, .class_ 83), (0, u "java/util/AbstractList$ListItr"), (9, .class_ 94), (0, u "java/util/AbstractList$RandomAccessSubList"), (3, .class_ 99), (0, u "java/util/AbstractList$SubList"), (33, .class_ 134), (0, u "java/util/List"), (73, .class_ 209), (0, u "java/util/AbstractList$SubList$1"), (0, .class_ 211), (0, u "java/util/AbstractList$RandomAccessSpliterator")] 6

def k27c0 : Code := { maxStack := 2, maxLocals := 1, code := jdk_39_method_1_code, exceptionTable := #[], attributes := #[] }
def k27m0 : Method := { name := "<init>", desc := "()V", sig := { parameters := [], returnType := none }, accessFlags := 4, code := some k27c0 }
/-- java/util/AbstractList -/
def k27 : Class := { plain "java/util/AbstractList" (some 21) with
  accessFlags := 1057
  interfaces := #[26]
  cf := some (fileOf pool27 8 #[.nestMembers #[93, 98, 208, 210, 82, 77]] #[{ accessFlags := 4, nameIndex := 5, descriptorIndex := 6, attributes := #[] }] 1057 2 #[133] #[{ accessFlags := 132, nameIndex := 11, descriptorIndex := 12, attributes := #[] }])
  fields := #[{ name := "modCount", type := .int, accessFlags := 132, slot := 0, constantValue := 0 }]
  methods := #[k27m0]
  instanceTypes := #[.int]
  staticTypes := #[]
  resolved := Array.replicate 218 none
  statics := none }

def pool28 : Array CpInfo := pool [(1, .class_ 2), (0, u "java/util/RandomAccess"), (0, .class_ 4), (0, u "java/lang/Object")] 2

/-- java/util/RandomAccess -/
def k28 : Class := { plain "java/util/RandomAccess" (some 0) with
  accessFlags := 1537
  interfaces := #[]
  cf := some (fileOf pool28 1 #[] #[] 1537 3 #[] #[])
  fields := #[]
  methods := #[]
  instanceTypes := #[]
  staticTypes := #[]
  resolved := Array.replicate 7 none
  statics := none }

def pool29 : Array CpInfo := pool [(1, .methodref 2 3), (0, .class_ 4), (0, .nameAndType 5 6), (0, u "java/util/AbstractList"), (0, u "<init>"), (0, u "()V"), (2, .fieldref 10 11), (0, .class_ 12), (0, .nameAndType 13 14), (0, u "java/util/ArrayList"), (0, u "elementData"), (0, u "[Ljava/lang/Object;"), (2, u "EMPTY_ELEMENTDATA"), (21, .fieldref 10 40), (0, .nameAndType 41 14), (0, u "DEFAULTCAPACITY_EMPTY_ELEMENTDATA"), (8, u "size"), (0, u "I"), (96, .class_ 149), (0, u "java/util/List"), (112, .class_ 263), (0, u "java/util/ArrayList$ListItr"), (3, .class_ 268), (0, u "java/util/ArrayList$Itr"), (7, .class_ 277), (0, u "java/util/ArrayList$SubList"), (12, .class_ 291), (0, u "java/util/ArrayList$ArrayListSpliterator"), (37, .class_ 330), (0, u "java/util/RandomAccess"), (0, .class_ 332), (0, u "java/lang/Cloneable"), (0, .class_ 334), (0, u "java/io/Serializable"), (0, u "serialVersionUID"), (0, u "J"), (3, u "DEFAULT_CAPACITY"), (159, .class_ 501), (0, u "java/util/ArrayList$SubList$2"), (0, .class_ 503), (0, u "java/util/ArrayList$SubList$1")] 5

def k29c0 : Code := { maxStack := 2, maxLocals := 1, code := jdk_38_method_2_code, exceptionTable := #[], attributes := #[] }
def k29m0 : Method := { name := "<init>", desc := "()V", sig := { parameters := [], returnType := none }, accessFlags := 1, code := some k29c0 }
/-- java/util/ArrayList -/
def k29 : Class := { plain "java/util/ArrayList" (some 27) with
  accessFlags := 33
  interfaces := #[26, 28, 17, 4]
  cf := some (fileOf pool29 10 #[.nestMembers #[290, 276, 500, 502, 262, 267]] #[{ accessFlags := 1, nameIndex := 5, descriptorIndex := 6, attributes := #[] }] 33 2 #[148, 329, 331, 333] #[{ accessFlags := 26, nameIndex := 335, descriptorIndex := 336, attributes := #[] }, { accessFlags := 26, nameIndex := 340, descriptorIndex := 51, attributes := #[] }, { accessFlags := 26, nameIndex := 17, descriptorIndex := 14, attributes := #[] }, { accessFlags := 26, nameIndex := 41, descriptorIndex := 14, attributes := #[] }, { accessFlags := 128, nameIndex := 13, descriptorIndex := 14, attributes := #[] }, { accessFlags := 2, nameIndex := 50, descriptorIndex := 51, attributes := #[] }])
  fields := #[{ name := "serialVersionUID", type := .long, accessFlags := 26, slot := 0, constantValue := 0 }, { name := "DEFAULT_CAPACITY", type := .int, accessFlags := 26, slot := 1, constantValue := 0 }, { name := "EMPTY_ELEMENTDATA", type := (.array (.object "java/lang/Object")), accessFlags := 26, slot := 2, constantValue := 0 }, { name := "DEFAULTCAPACITY_EMPTY_ELEMENTDATA", type := (.array (.object "java/lang/Object")), accessFlags := 26, slot := 3, constantValue := 0 }, { name := "elementData", type := (.array (.object "java/lang/Object")), accessFlags := 128, slot := 1, constantValue := 0 }, { name := "size", type := .int, accessFlags := 2, slot := 2, constantValue := 0 }]
  methods := #[k29m0]
  instanceTypes := #[.int, (.array (.object "java/lang/Object")), .int]
  staticTypes := #[.long, .int, (.array (.object "java/lang/Object")), (.array (.object "java/lang/Object"))]
  resolved := Array.replicate 509 none
  statics := some 2 }

def pool30 : Array CpInfo := pool [(2, .class_ 4), (1, u "java/lang/Object"), (0, u "<init>"), (0, u "()V"), (17, .class_ 26), (1, u "jdk/internal/util/Preconditions"), (28, .class_ 56), (0, u "jdk/internal/util/Preconditions$4"), (57, .class_ 115), (0, u "jdk/internal/util/Preconditions$1"), (7, u "SIOOBE_FORMATTER"), (0, u "Ljava/util/function/BiFunction;"), (0, .class_ 126), (0, u "jdk/internal/util/Preconditions$2"), (3, u "AIOOBE_FORMATTER"), (0, .class_ 132), (0, u "jdk/internal/util/Preconditions$3"), (3, u "IOOBE_FORMATTER")] 57

def k30m0 : Method := { name := "<init>", desc := "()V", sig := { parameters := [], returnType := none }, accessFlags := 1, code := none }
/-- jdk/internal/util/Preconditions -/
def k30 : Class := { plain "jdk/internal/util/Preconditions" (some 0) with
  accessFlags := 33
  interfaces := #[]
  cf := some (fileOf pool30 24 #[.nestMembers #[55, 131, 125, 114]] #[{ accessFlags := 1, nameIndex := 5, descriptorIndex := 6, attributes := #[] }] 33 2 #[] #[{ accessFlags := 25, nameIndex := 123, descriptorIndex := 124, attributes := #[] }, { accessFlags := 25, nameIndex := 130, descriptorIndex := 124, attributes := #[] }, { accessFlags := 25, nameIndex := 136, descriptorIndex := 124, attributes := #[] }])
  fields := #[{ name := "SIOOBE_FORMATTER", type := (.object "java/util/function/BiFunction"), accessFlags := 25, slot := 0, constantValue := 0 }, { name := "AIOOBE_FORMATTER", type := (.object "java/util/function/BiFunction"), accessFlags := 25, slot := 1, constantValue := 0 }, { name := "IOOBE_FORMATTER", type := (.object "java/util/function/BiFunction"), accessFlags := 25, slot := 2, constantValue := 0 }]
  methods := #[k30m0]
  instanceTypes := #[]
  staticTypes := #[(.object "java/util/function/BiFunction"), (.object "java/util/function/BiFunction"), (.object "java/util/function/BiFunction")]
  resolved := Array.replicate 194 none
  statics := some 3 }

def pool31 : Array CpInfo := pool [(9, u "<init>"), (6, .class_ 18), (1, u "java/lang/Object"), (0, u "()V"), (1, .class_ 23), (1, u "jdk/internal/util/ArraysSupport"), (0, u "LOG2_ARRAY_LONG_INDEX_SCALE"), (0, u "I"), (2, u "U"), (0, u "Ljdk/internal/misc/Unsafe;"), (8, u "BIG_ENDIAN"), (0, u "Z"), (8, u "LOG2_BYTE_BIT_SIZE"), (4, u "LOG2_ARRAY_INT_INDEX_SCALE"), (54, u "JLA"), (0, u "Ljdk/internal/access/JavaLangAccess;"), (11, u "LOG2_ARRAY_BOOLEAN_INDEX_SCALE"), (9, u "LOG2_ARRAY_BYTE_INDEX_SCALE"), (5, u "LOG2_ARRAY_CHAR_INDEX_SCALE"), (5, u "LOG2_ARRAY_SHORT_INDEX_SCALE"), (18, u "LOG2_ARRAY_FLOAT_INDEX_SCALE"), (24, u "LOG2_ARRAY_DOUBLE_INDEX_SCALE"), (89, u "T_BOOLEAN"), (2, u "T_CHAR"), (1, u "T_FLOAT"), (1, u "T_DOUBLE"), (1, u "T_BYTE"), (1, u "T_SHORT"), (1, u "T_INT"), (1, u "T_LONG"), (1, u "SOFT_MAX_ARRAY_LENGTH")] 83

def k31m0 : Method := { name := "<init>", desc := "()V", sig := { parameters := [], returnType := none }, accessFlags := 2, code := none }
/-- jdk/internal/util/ArraysSupport -/
def k31 : Class := { plain "jdk/internal/util/ArraysSupport" (some 0) with
  accessFlags := 33
  interfaces := #[]
  cf := some (fileOf pool31 21 #[] #[{ accessFlags := 2, nameIndex := 9, descriptorIndex := 19, attributes := #[] }] 33 16 #[] #[{ accessFlags := 24, nameIndex := 28, descriptorIndex := 29, attributes := #[] }, { accessFlags := 26, nameIndex := 38, descriptorIndex := 39, attributes := #[] }, { accessFlags := 25, nameIndex := 121, descriptorIndex := 25, attributes := #[] }, { accessFlags := 25, nameIndex := 131, descriptorIndex := 25, attributes := #[] }, { accessFlags := 25, nameIndex := 137, descriptorIndex := 25, attributes := #[] }, { accessFlags := 25, nameIndex := 143, descriptorIndex := 25, attributes := #[] }, { accessFlags := 25, nameIndex := 53, descriptorIndex := 25, attributes := #[] }, { accessFlags := 25, nameIndex := 24, descriptorIndex := 25, attributes := #[] }, { accessFlags := 25, nameIndex := 162, descriptorIndex := 25, attributes := #[] }, { accessFlags := 25, nameIndex := 187, descriptorIndex := 25, attributes := #[] }, { accessFlags := 26, nameIndex := 48, descriptorIndex := 25, attributes := #[] }, { accessFlags := 25, nameIndex := 277, descriptorIndex := 25, attributes := #[] }, { accessFlags := 25, nameIndex := 280, descriptorIndex := 25, attributes := #[] }, { accessFlags := 25, nameIndex := 282, descriptorIndex := 25, attributes := #[] }, { accessFlags := 25, nameIndex := 284, descriptorIndex := 25, attributes := #[] }, { accessFlags := 25, nameIndex := 286, descriptorIndex := 25, attributes := #[] }, { accessFlags := 25, nameIndex := 288, descriptorIndex := 25, attributes := #[] }, { accessFlags := 25, nameIndex := 290, descriptorIndex := 25, attributes := #[] }, { accessFlags := 25, nameIndex := 292, descriptorIndex := 25, attributes := #[] }, { accessFlags := 26, nameIndex := 108, descriptorIndex := 109, attributes := #[] }, { accessFlags := 25, nameIndex := 294, descriptorIndex := 25, attributes := #[] }])
  fields := #[{ name := "U", type := (.object "jdk/internal/misc/Unsafe"), accessFlags := 24, slot := 0, constantValue := 0 }, { name := "BIG_ENDIAN", type := .boolean, accessFlags := 26, slot := 1, constantValue := 0 }, { name := "LOG2_ARRAY_BOOLEAN_INDEX_SCALE", type := .int, accessFlags := 25, slot := 2, constantValue := 0 }, { name := "LOG2_ARRAY_BYTE_INDEX_SCALE", type := .int, accessFlags := 25, slot := 3, constantValue := 0 }, { name := "LOG2_ARRAY_CHAR_INDEX_SCALE", type := .int, accessFlags := 25, slot := 4, constantValue := 0 }, { name := "LOG2_ARRAY_SHORT_INDEX_SCALE", type := .int, accessFlags := 25, slot := 5, constantValue := 0 }, { name := "LOG2_ARRAY_INT_INDEX_SCALE", type := .int, accessFlags := 25, slot := 6, constantValue := 0 }, { name := "LOG2_ARRAY_LONG_INDEX_SCALE", type := .int, accessFlags := 25, slot := 7, constantValue := 0 }, { name := "LOG2_ARRAY_FLOAT_INDEX_SCALE", type := .int, accessFlags := 25, slot := 8, constantValue := 0 }, { name := "LOG2_ARRAY_DOUBLE_INDEX_SCALE", type := .int, accessFlags := 25, slot := 9, constantValue := 0 }, { name := "LOG2_BYTE_BIT_SIZE", type := .int, accessFlags := 26, slot := 10, constantValue := 0 }, { name := "T_BOOLEAN", type := .int, accessFlags := 25, slot := 11, constantValue := 0 }, { name := "T_CHAR", type := .int, accessFlags := 25, slot := 12, constantValue := 0 }, { name := "T_FLOAT", type := .int, accessFlags := 25, slot := 13, constantValue := 0 }, { name := "T_DOUBLE", type := .int, accessFlags := 25, slot := 14, constantValue := 0 }, { name := "T_BYTE", type := .int, accessFlags := 25, slot := 15, constantValue := 0 }, { name := "T_SHORT", type := .int, accessFlags := 25, slot := 16, constantValue := 0 }, { name := "T_INT", type := .int, accessFlags := 25, slot := 17, constantValue := 0 }, { name := "T_LONG", type := .int, accessFlags := 25, slot := 18, constantValue := 0 }, { name := "JLA", type := (.object "jdk/internal/access/JavaLangAccess"), accessFlags := 26, slot := 19, constantValue := 0 }, { name := "SOFT_MAX_ARRAY_LENGTH", type := .int, accessFlags := 25, slot := 20, constantValue := 0 }]
  methods := #[k31m0]
  instanceTypes := #[]
  staticTypes := #[(.object "jdk/internal/misc/Unsafe"), .boolean, .int, .int, .int, .int, .int, .int, .int, .int, .int, .int, .int, .int, .int, .int, .int, .int, .int, (.object "jdk/internal/access/JavaLangAccess"), .int]
  resolved := Array.replicate 378 none
  statics := none }

/-- the primitive byte -/
def k32 : Class := { plain "byte" none with kind := .primitive 'B', accessFlags := 0x411 }
/-- [B -/
def k33 : Class := { plain "[B" (some 0) with kind := .array 32 .byte, interfaces := #[17, 4], accessFlags := 1041 }

/-- the primitive char -/
def k34 : Class := { plain "char" none with kind := .primitive 'C', accessFlags := 0x411 }
/-- [C -/
def k35 : Class := { plain "[C" (some 0) with kind := .array 34 .char, interfaces := #[17, 4], accessFlags := 1041 }

/-- the primitive int -/
def k36 : Class := { plain "int" none with kind := .primitive 'I', accessFlags := 0x411 }
/-- [I -/
def k37 : Class := { plain "[I" (some 0) with kind := .array 36 .int, interfaces := #[17, 4], accessFlags := 1041 }

/-- [Ljava/lang/Object; -/
def k38 : Class := { plain "[Ljava/lang/Object;" (some 0) with kind := .array 0 (.object "java/lang/Object"), interfaces := #[17, 4], accessFlags := 1041 }

def heap : Heap := #[{ cls := 6, slots := #[.ref 4, .ref 5, .ref 6, .ref 7, .ref 8, .ref 9, .ref 10, .ref 11, .null], vm := .statics 6 },
  { cls := 9, slots := #[.long 0, .int 1, .null, .int 0, .null, .int 0, .int 0], vm := .statics 9 },
  { cls := 29, slots := #[.long 0, .int 0, .ref 12, .ref 13], vm := .statics 29 },
  { cls := 30, slots := #[.null, .null, .null], vm := .statics 30 },
  { cls := 6, slots := #[.null, .int 0, .int 0, .null], vm := .none },
  { cls := 6, slots := #[.null, .int 1, .int 0, .null], vm := .none },
  { cls := 6, slots := #[.null, .int 2, .int 0, .null], vm := .none },
  { cls := 6, slots := #[.null, .int 3, .int 0, .null], vm := .none },
  { cls := 6, slots := #[.null, .int 4, .int 0, .null], vm := .none },
  { cls := 6, slots := #[.null, .int 5, .int 0, .null], vm := .none },
  { cls := 6, slots := #[.null, .int 6, .int 0, .null], vm := .none },
  { cls := 6, slots := #[.null, .int 7, .int 0, .null], vm := .none },
  { cls := 38, slots := #[], vm := .none },
  { cls := 38, slots := #[], vm := .none }]
def classes : Array Class := #[k0, k1, k2, k3, k4, k5, k6, k7, k8, k9, k10, k11, k12, k13, k14, k15, k16, k17, k18, k19, k20, k21, k22, k23, k24, k25, k26, k27, k28, k29, k30, k31, k32, k33, k34, k35, k36, k37, k38]
def interned : List (Array UInt16 × Addr) := []
def slotsUsed : Nat := 55
def theMethod : MethodId := ⟨1, 1⟩
def args0 : Array Value := #[.int 5, .int 5, .int 5, .int 5, .int 5, .int 5]
def aboutOver (below : List Frame) : State where
  vm := { classes := classes, interned := interned.toArray }
  heap := heap
  slotsUsed := slotsUsed
  threads := #[{ frames := .invoking theMethod args0 :: below }]
def below0 : List Frame := [.native { method := ⟨0, 0⟩, args := #[] }]
def about1 : State := aboutOver below0
def p0 : Program := .bare "" "" ""
def e0 : Env := launch0.env 0 0 0
theorem w_frames : about1.frames = Frame.invoking theMethod args0 :: below0 := rfl
set_option maxRecDepth 65536 in
theorem w_args : argsFit about1.vm theMethod args0 = true := by decide +kernel
set_option maxRecDepth 65536 in
theorem w_heap : heapFits about1 = true := by decide +kernel
set_option maxRecDepth 65536 in
theorem w_runnable : about1.curStatus? = some .runnable := by decide +kernel
set_option maxRecDepth 65536 in
theorem w_alone : about1.alone = true := by decide +kernel
set_option maxRecDepth 65536 in
theorem w_named : about1.methodNamed? x = some theMethod := by decide +kernel
set_option maxRecDepth 65536 in
theorem w_hears : about1.hears theMethod below0 = true := by decide +kernel
set_option maxRecDepth 65536 in
theorem w_ripe : about1.ripe theMethod args0 below0 = true := by decide +kernel
theorem w_running : about1.status = .running := rfl
set_option maxRecDepth 65536 in
theorem w_room : about1.hasRoom e0.platform room_1 = true :=
  launch0.hasRoom_least _ room_1 (by decide +kernel) (by decide +kernel) (by decide +kernel) (by decide +kernel) (by decide +kernel) (by decide +kernel)
theorem allAtoms_all (ts : List Jvm.Cond) (a : Array Jvm.Value) (st : Jvm.State) : (allAtoms ts).before a st = ts.all (fun c => c.before a st) := by
  induction ts with
  | nil => rfl
  | cons c t ih =>
    show (Jvm.Cond.and c (allAtoms t)).before a st = _
    rw [Jvm.Cond.before_and, ih, List.all_cons]
def words1 : List Jvm.Cond := Jvm.Cond.code x code maxLocals ret :: tables_1
/-- a 'code' word, met by the world's own term for the bytes: nothing is compared byte by byte -/
theorem code_word {y : MethodName} {bytes : ByteArray} {mx : Nat} {rt : Option FieldType} {a : Array Value} {s : State} {m : MethodId} {meth : Method} {c : Code} (h1 : s.methodNamed? y = some m) (h2 : s.vm.method? m = some meth) (h3 : meth.code = some c) (h4 : c.code = bytes)
    (h5 : (c.maxLocals == mx && c.exceptionTable.isEmpty && decide (c.maxStack ≤ mostOperands) && decide (meth.sig.returnType = rt) && !meth.locks && decide (parseMethodDescriptor y.desc = some meth.sig)) = true) : (Jvm.Cond.code y bytes mx rt).before a s = true := by
  simp only [Bool.and_eq_true, beq_iff_eq, Bool.not_eq_true', decide_eq_true_eq] at h5
  obtain ⟨⟨⟨⟨⟨g1, g2⟩, g3⟩, g4⟩, g5⟩, g6⟩ := h5
  simp [Cond.before, Cond.holds, Cond.value, h1, h2, h3, h4, g1, g2, g3, g4, g5, g6]
def isCode : Jvm.Cond → Bool
  | .code _ _ _ _ => true
  | _ => false
theorem all_split {L : List Jvm.Cond} {P : Jvm.Cond → Bool} (h1 : L.all (fun c => isCode c || P c) = true) (h2 : ∀ c ∈ L.filter isCode, P c = true) : L.all P = true := by
  refine List.all_eq_true.mpr fun c hc => ?_
  have h := List.all_eq_true.mp h1 c hc
  rcases Bool.eq_false_or_eq_true (isCode c) with hi | hi
  · exact h2 c (List.mem_filter.mpr ⟨hc, hi⟩)
  · simpa [hi] using h
set_option maxRecDepth 65536 in
theorem w_c0 : (Jvm.Cond.code x code maxLocals ret).before args0 about1 = true := code_word (m := ⟨1, 1⟩) (meth := k1m1) (c := k1c1) (by decide +kernel) rfl rfl rfl (by decide +kernel)
set_option maxRecDepth 65536 in
theorem w_c1 : (Jvm.Cond.code ({ cls := "com/example/thyme/thyme/lang/ScopeInstancePinLaw", name := "context", desc := "(I)Lcom/example/thyme/thyme/lang/ExpressionResolver$Context;" } : Jvm.MethodName) method_5_code (1 : Nat) (Option.some (Jvm.ClassFile.FieldType.object "com/example/thyme/thyme/lang/ExpressionResolver$Context"))).before args0 about1 = true := code_word (m := ⟨1, 4⟩) (meth := k1m4) (c := k1c4) (by decide +kernel) rfl rfl rfl (by decide +kernel)
set_option maxRecDepth 65536 in
theorem w_c2 : (Jvm.Cond.code ({ cls := "com/example/thyme/thyme/lang/ScopeInstancePinLaw", name := "str", desc := "(II)Ljava/lang/String;" } : Jvm.MethodName) method_4_code (5 : Nat) (Option.some (Jvm.ClassFile.FieldType.object "java/lang/String"))).before args0 about1 = true := code_word (m := ⟨1, 3⟩) (meth := k1m3) (c := k1c3) (by decide +kernel) rfl rfl rfl (by decide +kernel)
set_option maxRecDepth 65536 in
theorem w_c3 : (Jvm.Cond.code ({ cls := "java/lang/String", name := "<init>", desc := "([C)V" } : Jvm.MethodName) jdk_42_method_3_code (2 : Nat) (Option.none : Option Jvm.ClassFile.FieldType)).before args0 about1 = true := code_word (m := ⟨9, 1⟩) (meth := k9m1) (c := k9c1) (by decide +kernel) rfl rfl rfl (by decide +kernel)
set_option maxRecDepth 65536 in
theorem w_c4 : (Jvm.Cond.code ({ cls := "java/lang/String", name := "<init>", desc := "([CIILjava/lang/Void;)V" } : Jvm.MethodName) jdk_42_method_149_code (6 : Nat) (Option.none : Option Jvm.ClassFile.FieldType)).before args0 about1 = true := code_word (m := ⟨9, 4⟩) (meth := k9m4) (c := k9c4) (by decide +kernel) rfl rfl rfl (by decide +kernel)
set_option maxRecDepth 65536 in
theorem w_c5 : (Jvm.Cond.code ({ cls := "java/lang/Object", name := "<init>", desc := "()V" } : Jvm.MethodName) object_method_1_code (1 : Nat) (Option.none : Option Jvm.ClassFile.FieldType)).before args0 about1 = true := code_word (m := ⟨0, 0⟩) (meth := k0m0) (c := k0c0) (by decide +kernel) rfl rfl rfl (by decide +kernel)
set_option maxRecDepth 65536 in
theorem w_c6 : (Jvm.Cond.code ({ cls := "java/lang/StringUTF16", name := "compress", desc := "([CII)[B" } : Jvm.MethodName) jdk_52_method_16_code (6 : Nat) (Option.some (Jvm.ClassFile.FieldType.array Jvm.ClassFile.FieldType.byte))).before args0 about1 = true := code_word (m := ⟨10, 2⟩) (meth := k10m2) (c := k10c2) (by decide +kernel) rfl rfl rfl (by decide +kernel)
set_option maxRecDepth 65536 in
theorem w_c7 : (Jvm.Cond.code ({ cls := "java/lang/StringUTF16", name := "compress", desc := "([CI[BII)I" } : Jvm.MethodName) jdk_52_method_21_code (7 : Nat) (Option.some Jvm.ClassFile.FieldType.int)).before args0 about1 = true := code_word (m := ⟨10, 3⟩) (meth := k10m3) (c := k10c3) (by decide +kernel) rfl rfl rfl (by decide +kernel)
set_option maxRecDepth 65536 in
theorem w_c8 : (Jvm.Cond.code ({ cls := "java/lang/StringUTF16", name := "coderFromArrayLen", desc := "([BI)B" } : Jvm.MethodName) jdk_52_method_15_code (2 : Nat) (Option.some Jvm.ClassFile.FieldType.byte)).before args0 about1 = true := code_word (m := ⟨10, 1⟩) (meth := k10m1) (c := k10c1) (by decide +kernel) rfl rfl rfl (by decide +kernel)
set_option maxRecDepth 65536 in
theorem w_c9 : (Jvm.Cond.code ({ cls := "com/example/thyme/thyme/lang/ExpressionResolver$Scope", name := "<init>", desc := "(Lcom/example/thyme/thyme/lang/ExpressionResolver$Context;Ljava/lang/String;Lcom/example/thyme/thyme/lang/Symbols$Locals;)V" } : Jvm.MethodName) prog_78_method_1_code (4 : Nat) (Option.none : Option Jvm.ClassFile.FieldType)).before args0 about1 = true := code_word (m := ⟨12, 0⟩) (meth := k12m0) (c := k12c0) (by decide +kernel) rfl rfl rfl (by decide +kernel)
set_option maxRecDepth 65536 in
theorem w_c10 : (Jvm.Cond.code ({ cls := "java/lang/Record", name := "<init>", desc := "()V" } : Jvm.MethodName) jdk_30_method_1_code (1 : Nat) (Option.none : Option Jvm.ClassFile.FieldType)).before args0 about1 = true := code_word (m := ⟨11, 0⟩) (meth := k11m0) (c := k11c0) (by decide +kernel) rfl rfl rfl (by decide +kernel)
set_option maxRecDepth 65536 in
theorem w_c11 : (Jvm.Cond.code ({ cls := "com/example/thyme/thyme/lang/ExpressionResolver$Scope", name := "instance", desc := "()Ljava/lang/String;" } : Jvm.MethodName) prog_78_method_3_code (1 : Nat) (Option.some (Jvm.ClassFile.FieldType.object "java/lang/String"))).before args0 about1 = true := code_word (m := ⟨12, 1⟩) (meth := k12m1) (c := k12c1) (by decide +kernel) rfl rfl rfl (by decide +kernel)
set_option maxRecDepth 65536 in
theorem w_c12 : (Jvm.Cond.code ({ cls := "com/example/thyme/thyme/lang/ScopeInstancePinLaw", name := "same", desc := "(Ljava/lang/String;Ljava/lang/String;)Z" } : Jvm.MethodName) method_3_code (2 : Nat) (Option.some Jvm.ClassFile.FieldType.boolean)).before args0 about1 = true := code_word (m := ⟨1, 2⟩) (meth := k1m2) (c := k1c2) (by decide +kernel) rfl rfl rfl (by decide +kernel)
set_option maxRecDepth 65536 in
theorem w_c13 : (Jvm.Cond.code ({ cls := "java/lang/String", name := "valueOf", desc := "(C)Ljava/lang/String;" } : Jvm.MethodName) jdk_42_method_139_code (1 : Nat) (Option.some (Jvm.ClassFile.FieldType.object "java/lang/String"))).before args0 about1 = true := code_word (m := ⟨9, 3⟩) (meth := k9m3) (c := k9c3) (by decide +kernel) rfl rfl rfl (by decide +kernel)
set_option maxRecDepth 65536 in
theorem w_c14 : (Jvm.Cond.code ({ cls := "java/lang/StringLatin1", name := "canEncode", desc := "(C)Z" } : Jvm.MethodName) jdk_43_method_3_code (1 : Nat) (Option.some Jvm.ClassFile.FieldType.boolean)).before args0 about1 = true := code_word (m := ⟨13, 1⟩) (meth := k13m1) (c := k13c1) (by decide +kernel) rfl rfl rfl (by decide +kernel)
set_option maxRecDepth 65536 in
theorem w_c15 : (Jvm.Cond.code ({ cls := "java/lang/StringLatin1", name := "toBytes", desc := "(C)[B" } : Jvm.MethodName) jdk_43_method_46_code (1 : Nat) (Option.some (Jvm.ClassFile.FieldType.array Jvm.ClassFile.FieldType.byte))).before args0 about1 = true := code_word (m := ⟨13, 2⟩) (meth := k13m2) (c := k13c2) (by decide +kernel) rfl rfl rfl (by decide +kernel)
set_option maxRecDepth 65536 in
theorem w_c16 : (Jvm.Cond.code ({ cls := "java/lang/String", name := "<init>", desc := "([BB)V" } : Jvm.MethodName) jdk_42_method_151_code (3 : Nat) (Option.none : Option Jvm.ClassFile.FieldType)).before args0 about1 = true := code_word (m := ⟨9, 5⟩) (meth := k9m5) (c := k9c5) (by decide +kernel) rfl rfl rfl (by decide +kernel)
set_option maxRecDepth 65536 in
theorem w_c17 : (Jvm.Cond.code ({ cls := "com/example/thyme/thyme/lang/Symbols$Locals", name := "<init>", desc := "()V" } : Jvm.MethodName) prog_98_method_1_code (1 : Nat) (Option.none : Option Jvm.ClassFile.FieldType)).before args0 about1 = true := code_word (m := ⟨14, 0⟩) (meth := k14m0) (c := k14c0) (by decide +kernel) rfl rfl rfl (by decide +kernel)
set_option maxRecDepth 65536 in
theorem w_c18 : (Jvm.Cond.code ({ cls := "java/util/HashMap", name := "<init>", desc := "()V" } : Jvm.MethodName) jdk_69_method_7_code (1 : Nat) (Option.none : Option Jvm.ClassFile.FieldType)).before args0 about1 = true := code_word (m := ⟨18, 0⟩) (meth := k18m0) (c := k18c0) (by decide +kernel) rfl rfl rfl (by decide +kernel)
set_option maxRecDepth 65536 in
theorem w_c19 : (Jvm.Cond.code ({ cls := "java/util/AbstractMap", name := "<init>", desc := "()V" } : Jvm.MethodName) jdk_71_method_1_code (1 : Nat) (Option.none : Option Jvm.ClassFile.FieldType)).before args0 about1 = true := code_word (m := ⟨16, 0⟩) (meth := k16m0) (c := k16c0) (by decide +kernel) rfl rfl rfl (by decide +kernel)
set_option maxRecDepth 65536 in
theorem w_c20 : (Jvm.Cond.code ({ cls := "java/util/HashSet", name := "<init>", desc := "()V" } : Jvm.MethodName) jdk_93_method_1_code (1 : Nat) (Option.none : Option Jvm.ClassFile.FieldType)).before args0 about1 = true := code_word (m := ⟨24, 0⟩) (meth := k24m0) (c := k24c0) (by decide +kernel) rfl rfl rfl (by decide +kernel)
set_option maxRecDepth 65536 in
theorem w_c21 : (Jvm.Cond.code ({ cls := "java/util/AbstractSet", name := "<init>", desc := "()V" } : Jvm.MethodName) jdk_91_method_1_code (1 : Nat) (Option.none : Option Jvm.ClassFile.FieldType)).before args0 about1 = true := code_word (m := ⟨23, 0⟩) (meth := k23m0) (c := k23c0) (by decide +kernel) rfl rfl rfl (by decide +kernel)
set_option maxRecDepth 65536 in
theorem w_c22 : (Jvm.Cond.code ({ cls := "java/util/AbstractCollection", name := "<init>", desc := "()V" } : Jvm.MethodName) jdk_22_method_1_code (1 : Nat) (Option.none : Option Jvm.ClassFile.FieldType)).before args0 about1 = true := code_word (m := ⟨21, 0⟩) (meth := k21m0) (c := k21c0) (by decide +kernel) rfl rfl rfl (by decide +kernel)
set_option maxRecDepth 65536 in
theorem w_c23 : (Jvm.Cond.code ({ cls := "java/util/ArrayList", name := "<init>", desc := "()V" } : Jvm.MethodName) jdk_38_method_2_code (1 : Nat) (Option.none : Option Jvm.ClassFile.FieldType)).before args0 about1 = true := code_word (m := ⟨29, 0⟩) (meth := k29m0) (c := k29c0) (by decide +kernel) rfl rfl rfl (by decide +kernel)
set_option maxRecDepth 65536 in
theorem w_c24 : (Jvm.Cond.code ({ cls := "java/util/AbstractList", name := "<init>", desc := "()V" } : Jvm.MethodName) jdk_39_method_1_code (1 : Nat) (Option.none : Option Jvm.ClassFile.FieldType)).before args0 about1 = true := code_word (m := ⟨27, 0⟩) (meth := k27m0) (c := k27c0) (by decide +kernel) rfl rfl rfl (by decide +kernel)
set_option maxRecDepth 65536 in
theorem w_c25 : (Jvm.Cond.code ({ cls := "java/lang/String", name := "equals", desc := "(Ljava/lang/Object;)Z" } : Jvm.MethodName) jdk_42_method_66_code (3 : Nat) (Option.some Jvm.ClassFile.FieldType.boolean)).before args0 about1 = true := code_word (m := ⟨9, 2⟩) (meth := k9m2) (c := k9c2) (by decide +kernel) rfl rfl rfl (by decide +kernel)
def codes1 : List Jvm.Cond := [Jvm.Cond.code x code maxLocals ret, Jvm.Cond.code ({ cls := "com/example/thyme/thyme/lang/ScopeInstancePinLaw", name := "context", desc := "(I)Lcom/example/thyme/thyme/lang/ExpressionResolver$Context;" } : Jvm.MethodName) method_5_code (1 : Nat) (Option.some (Jvm.ClassFile.FieldType.object "com/example/thyme/thyme/lang/ExpressionResolver$Context")), Jvm.Cond.code ({ cls := "com/example/thyme/thyme/lang/ScopeInstancePinLaw", name := "str", desc := "(II)Ljava/lang/String;" } : Jvm.MethodName) method_4_code (5 : Nat) (Option.some (Jvm.ClassFile.FieldType.object "java/lang/String")), Jvm.Cond.code ({ cls := "java/lang/String", name := "<init>", desc := "([C)V" } : Jvm.MethodName) jdk_42_method_3_code (2 : Nat) (Option.none : Option Jvm.ClassFile.FieldType), Jvm.Cond.code ({ cls := "java/lang/String", name := "<init>", desc := "([CIILjava/lang/Void;)V" } : Jvm.MethodName) jdk_42_method_149_code (6 : Nat) (Option.none : Option Jvm.ClassFile.FieldType), Jvm.Cond.code ({ cls := "java/lang/Object", name := "<init>", desc := "()V" } : Jvm.MethodName) object_method_1_code (1 : Nat) (Option.none : Option Jvm.ClassFile.FieldType), Jvm.Cond.code ({ cls := "java/lang/StringUTF16", name := "compress", desc := "([CII)[B" } : Jvm.MethodName) jdk_52_method_16_code (6 : Nat) (Option.some (Jvm.ClassFile.FieldType.array Jvm.ClassFile.FieldType.byte)), Jvm.Cond.code ({ cls := "java/lang/StringUTF16", name := "compress", desc := "([CI[BII)I" } : Jvm.MethodName) jdk_52_method_21_code (7 : Nat) (Option.some Jvm.ClassFile.FieldType.int), Jvm.Cond.code ({ cls := "java/lang/StringUTF16", name := "coderFromArrayLen", desc := "([BI)B" } : Jvm.MethodName) jdk_52_method_15_code (2 : Nat) (Option.some Jvm.ClassFile.FieldType.byte), Jvm.Cond.code ({ cls := "com/example/thyme/thyme/lang/ExpressionResolver$Scope", name := "<init>", desc := "(Lcom/example/thyme/thyme/lang/ExpressionResolver$Context;Ljava/lang/String;Lcom/example/thyme/thyme/lang/Symbols$Locals;)V" } : Jvm.MethodName) prog_78_method_1_code (4 : Nat) (Option.none : Option Jvm.ClassFile.FieldType), Jvm.Cond.code ({ cls := "java/lang/Record", name := "<init>", desc := "()V" } : Jvm.MethodName) jdk_30_method_1_code (1 : Nat) (Option.none : Option Jvm.ClassFile.FieldType), Jvm.Cond.code ({ cls := "com/example/thyme/thyme/lang/ExpressionResolver$Scope", name := "instance", desc := "()Ljava/lang/String;" } : Jvm.MethodName) prog_78_method_3_code (1 : Nat) (Option.some (Jvm.ClassFile.FieldType.object "java/lang/String")), Jvm.Cond.code ({ cls := "com/example/thyme/thyme/lang/ScopeInstancePinLaw", name := "same", desc := "(Ljava/lang/String;Ljava/lang/String;)Z" } : Jvm.MethodName) method_3_code (2 : Nat) (Option.some Jvm.ClassFile.FieldType.boolean), Jvm.Cond.code ({ cls := "java/lang/String", name := "valueOf", desc := "(C)Ljava/lang/String;" } : Jvm.MethodName) jdk_42_method_139_code (1 : Nat) (Option.some (Jvm.ClassFile.FieldType.object "java/lang/String")), Jvm.Cond.code ({ cls := "java/lang/StringLatin1", name := "canEncode", desc := "(C)Z" } : Jvm.MethodName) jdk_43_method_3_code (1 : Nat) (Option.some Jvm.ClassFile.FieldType.boolean), Jvm.Cond.code ({ cls := "java/lang/StringLatin1", name := "toBytes", desc := "(C)[B" } : Jvm.MethodName) jdk_43_method_46_code (1 : Nat) (Option.some (Jvm.ClassFile.FieldType.array Jvm.ClassFile.FieldType.byte)), Jvm.Cond.code ({ cls := "java/lang/String", name := "<init>", desc := "([BB)V" } : Jvm.MethodName) jdk_42_method_151_code (3 : Nat) (Option.none : Option Jvm.ClassFile.FieldType), Jvm.Cond.code ({ cls := "com/example/thyme/thyme/lang/Symbols$Locals", name := "<init>", desc := "()V" } : Jvm.MethodName) prog_98_method_1_code (1 : Nat) (Option.none : Option Jvm.ClassFile.FieldType), Jvm.Cond.code ({ cls := "java/util/HashMap", name := "<init>", desc := "()V" } : Jvm.MethodName) jdk_69_method_7_code (1 : Nat) (Option.none : Option Jvm.ClassFile.FieldType), Jvm.Cond.code ({ cls := "java/util/AbstractMap", name := "<init>", desc := "()V" } : Jvm.MethodName) jdk_71_method_1_code (1 : Nat) (Option.none : Option Jvm.ClassFile.FieldType), Jvm.Cond.code ({ cls := "java/util/HashSet", name := "<init>", desc := "()V" } : Jvm.MethodName) jdk_93_method_1_code (1 : Nat) (Option.none : Option Jvm.ClassFile.FieldType), Jvm.Cond.code ({ cls := "java/util/AbstractSet", name := "<init>", desc := "()V" } : Jvm.MethodName) jdk_91_method_1_code (1 : Nat) (Option.none : Option Jvm.ClassFile.FieldType), Jvm.Cond.code ({ cls := "java/util/AbstractCollection", name := "<init>", desc := "()V" } : Jvm.MethodName) jdk_22_method_1_code (1 : Nat) (Option.none : Option Jvm.ClassFile.FieldType), Jvm.Cond.code ({ cls := "java/util/ArrayList", name := "<init>", desc := "()V" } : Jvm.MethodName) jdk_38_method_2_code (1 : Nat) (Option.none : Option Jvm.ClassFile.FieldType), Jvm.Cond.code ({ cls := "java/util/AbstractList", name := "<init>", desc := "()V" } : Jvm.MethodName) jdk_39_method_1_code (1 : Nat) (Option.none : Option Jvm.ClassFile.FieldType), Jvm.Cond.code ({ cls := "java/lang/String", name := "equals", desc := "(Ljava/lang/Object;)Z" } : Jvm.MethodName) jdk_42_method_66_code (3 : Nat) (Option.some Jvm.ClassFile.FieldType.boolean)]
set_option maxRecDepth 65536 in
theorem codes_eq : words1.filter isCode = codes1 := rfl
theorem w_codes : ∀ c ∈ words1.filter isCode, c.before args0 about1 = true := by
  rw [codes_eq]
  intro c hc
  simp only [codes1, List.mem_cons, List.not_mem_nil, or_false] at hc
  rcases hc with rfl | rfl | rfl | rfl | rfl | rfl | rfl | rfl | rfl | rfl | rfl | rfl | rfl | rfl | rfl | rfl | rfl | rfl | rfl | rfl | rfl | rfl | rfl | rfl | rfl | rfl
  · exact w_c0
  · exact w_c1
  · exact w_c2
  · exact w_c3
  · exact w_c4
  · exact w_c5
  · exact w_c6
  · exact w_c7
  · exact w_c8
  · exact w_c9
  · exact w_c10
  · exact w_c11
  · exact w_c12
  · exact w_c13
  · exact w_c14
  · exact w_c15
  · exact w_c16
  · exact w_c17
  · exact w_c18
  · exact w_c19
  · exact w_c20
  · exact w_c21
  · exact w_c22
  · exact w_c23
  · exact w_c24
  · exact w_c25
set_option maxRecDepth 65536 in
theorem w_t1 : (words1.take 24).all (fun c => isCode c || c.before args0 about1) = true := by decide +kernel
set_option maxRecDepth 65536 in
theorem w_t2 : ((words1.drop 24).take 24).all (fun c => isCode c || c.before args0 about1) = true := by decide +kernel
set_option maxRecDepth 65536 in
theorem w_t3 : (((words1.drop 24).drop 24).take 24).all (fun c => isCode c || c.before args0 about1) = true := by decide +kernel
set_option maxRecDepth 65536 in
theorem w_t4 : ((((words1.drop 24).drop 24).drop 24).take 24).all (fun c => isCode c || c.before args0 about1) = true := by decide +kernel
set_option maxRecDepth 65536 in
theorem w_t5 : (((((words1.drop 24).drop 24).drop 24).drop 24).take 24).all (fun c => isCode c || c.before args0 about1) = true := by decide +kernel
set_option maxRecDepth 65536 in
theorem w_t6 : ((((((words1.drop 24).drop 24).drop 24).drop 24).drop 24).take 24).all (fun c => isCode c || c.before args0 about1) = true := by decide +kernel
set_option maxRecDepth 65536 in
theorem w_t7 : (((((((words1.drop 24).drop 24).drop 24).drop 24).drop 24).drop 24).take 24).all (fun c => isCode c || c.before args0 about1) = true := by decide +kernel
set_option maxRecDepth 65536 in
theorem w_t8 : (((((((words1.drop 24).drop 24).drop 24).drop 24).drop 24).drop 24).drop 24).all (fun c => isCode c || c.before args0 about1) = true := by decide +kernel
theorem w_tables : (allAtoms (Jvm.Cond.code x code maxLocals ret :: tables_1)).before args0 about1 = true := by
  rw [allAtoms_all]
  show words1.all (fun c => c.before args0 about1) = true
  refine all_split ?_ w_codes
  rw [← List.take_append_drop 24 words1, List.all_append, w_t1, ← List.take_append_drop 24 (words1.drop 24), List.all_append, w_t2, ← List.take_append_drop 24 ((words1.drop 24).drop 24), List.all_append, w_t3, ← List.take_append_drop 24 (((words1.drop 24).drop 24).drop 24), List.all_append, w_t4, ← List.take_append_drop 24 ((((words1.drop 24).drop 24).drop 24).drop 24), List.all_append, w_t5, ← List.take_append_drop 24 (((((words1.drop 24).drop 24).drop 24).drop 24).drop 24), List.all_append, w_t6, ← List.take_append_drop 24 ((((((words1.drop 24).drop 24).drop 24).drop 24).drop 24).drop 24), List.all_append, w_t7, w_t8]
  rfl
set_option maxRecDepth 65536 in
theorem w_rest : rest_1_c.before args0 about1 = true := by decide +kernel
set_option maxRecDepth 65536 in
theorem w_case : (Jvm.Cond.and given_1 narrow_1).before args0 about1 = true := by decide +kernel
set_option maxRecDepth 65536 in
theorem w_consts : constsHeld consts_1 about1 := Jvm.Lit.constsHeldB_iff.mp (by decide +kernel)
theorem w_applies : (headSpec (Jvm.Cond.code x code maxLocals ret :: tables_1) room_1).applies x e0.platform about1 = true :=
  (Spec.applies_iff w_frames).mpr ⟨w_running, w_runnable, w_alone, w_named, w_hears, w_ripe, w_room, w_tables⟩
theorem atStart : AtStart classFile x code maxLocals ret World_1 tables_1 room_1 Calls_1 rest_1 Pre_1 launch0 p0 e0 about1 theMethod args0 below0 :=
  ⟨lists_1, trivial, launch0.admits_env _ _ _, launch0.least_env, fairChoices_fair.cas, fairChoices_fair.clock, w_frames, w_args, w_heap, w_applies, ⟨w_consts, trivial⟩, w_rest, w_case⟩
end start1
theorem witness_1 : WitnessClaimed_1 := ⟨start1.p0, start1.e0, start1.about1, start1.theMethod, start1.args0, start1.below0, start1.atStart⟩
end Jvm.Pilot.@@N@@
